import JvmDerived
import JvmDerived.Pilot.@@N@@Statement
import JvmDerived.Pilot.@@N@@Code
set_option linter.unusedVariables false
set_option linter.unusedSimpArgs false
namespace Jvm.Pilot.@@N@@
open Jvm Jvm.ClassFile Sem Op Lib Jvm.Free Jvm.Stand Jvm.LawKit Jvm.RoadKit Bundle Jvm.Pilot.@@N@@.Jvm.D
abbrev own_Go (tb : Tables) (e : Env) (below : List Frame) (P : State → Outcome → Prop) (st : State) : Prop := ∃ U o, Steps tb e below st U ∧ P U o
theorem own_go {tb : Tables} {e : Env} {below : List Frame} {P : State → Outcome → Prop} {st st' : State} (h : ∀ t, Steps tb e below st' t → Steps tb e below st t) (k : own_Go tb e below P st') : own_Go tb e below P st := by
  obtain ⟨U, o, h1, h2⟩ := k; exact ⟨U, o, h _ h1, h2⟩
theorem own_hw {a0 : Array Value} {Z : State} {d : Jvm.Cond} (hw : ∀ d ∈ tables_1, d.before a0 Z = true) (i : Nat) (h : tables_1[i]? = some d := by rfl) : d.before a0 Z = true := hw _ (List.mem_of_getElem? h)
theorem own_ne {a b : Nat} (h : a < b ∨ b < a) : a ≠ b := by omega
theorem own_cat {v : Value} (h : v.isRef = true) : v.category = 1 := by rcases ref_cases h with rfl | ⟨a, rfl⟩ <;> rfl
theorem own_nar_ref {t : FieldType} {v : Value} (h : v.isRef = true) : narrow t v = v := by rcases ref_cases h with rfl | ⟨a, rfl⟩ <;> cases t <;> rfl
theorem own_fit_ref {t : FieldType} {v : Value} (h : v.isRef = true) (ht : t.isReference = true := by rfl) : fits t v = true := by rcases ref_cases h with rfl | ⟨a, rfl⟩ <;> cases t <;> first | rfl | (cases ht)
theorem own_widen {p : Program} {l : Launch} {e : Env} {R : Room} {s : State} {m : MethodId} {args : Array Value} {below : List Frame} {meth : Method} {c : Code} {T : State} {locs : List Loc} {cells slots cells' slots' : Nat} (X : Stand p l e R s m args below meth c T locs cells slots) (h1 : cells ≤ cells') (h2 : slots ≤ slots') : Stand p l e R s m args below meth c T locs cells' slots' :=
  { X with same := X.same.mono h1 h2 }
theorem own_sel_priv {s : State} {args : Array Value} {y : MethodName} {n : Nat} (wi : (Jvm.Cond.instantiable y.cls n).before args s = true) (hp : s.PrivateAt y) (hinst : (Jvm.Cond.instanceMethod y).before args s = true) (hy : y.cls ≠ "java/lang/invoke/MethodHandle" ∧ y.cls ≠ "java/lang/invoke/VarHandle") : (Jvm.Cond.selects y.cls y y).before args s = true := by
  obtain ⟨c, k, h1, h2, -, h4, -⟩ := Cond.instantiable_spec wi
  exact selects_self_of_private h1 h2 (Bool.or_eq_false_iff.mp h4).1 hp hinst hy
theorem own_NS_root {Z : State} {a0 : Array Value} {O K : String} {n : Nat} (w : (Cond.noSuperclass O).before a0 Z = true) (wk : (Cond.instantiable K n).before a0 Z = true) (hn : O ≠ K) : NS Z O K := by
  obtain ⟨c, k, h1, h2, h3, -, -⟩ := Cond.noSuperclass_spec w
  obtain ⟨t, -, g1, -⟩ := Cond.instantiable_spec wk
  have ne := ids_ne h1 g1 hn
  refine ⟨c, t, h1, g1, fun fuel => ?_⟩
  cases fuel with
  | zero => rfl
  | succ f => simp [Vm.isSubclassAux, ne, h2, h3]
theorem own_NS_no {Z : State} {a0 : Array Value} {C S K : String} {n : Nat} (w : (Cond.superclass C S).before a0 Z = true) (wk : (Cond.instantiable K n).before a0 Z = true) (m : NS Z C K) (hn : C ≠ K) : ∃ c t, Z.vm.findClass C = some c ∧ Z.vm.findClass K = some t ∧ Z.vm.assignable c t = false := by
  obtain ⟨c, t, h0, g0, n3⟩ := m
  obtain ⟨p, k, kp, h1, h2, h3, h4, h5, -, h7⟩ := Cond.superclass_spec h0 w
  obtain ⟨t', k', q1, g2, g5, g6, -, -⟩ := Cond.instantiable_spec wk
  cases g0.symm.trans q1
  have g7 : k'.isInterface = false := (Bool.or_eq_false_iff.mp g6).1
  have ne := ids_ne h0 g0 hn
  refine ⟨c, t, h0, g0, ?_⟩
  show Z.vm.assignableAux (255 + 1) c t = false
  simp [Vm.assignableAux, ne, h2, g2, h5, g5, g7, Vm.isSubclass, n3]
theorem own_sta_keep {Z : State} {h h' : Heap} {ws : List Addr} {C n d : String} {v : Value} (F : Sta Z h C n d v) (K : Keep h h' ws) (q : ∀ x ∈ ws, ∀ c : Cell, h[x]? = some c → c.vm.isStatics = false) : Sta Z h' C n d v := by
  obtain ⟨cf, i, k, f, st, cell, h1, h2, h3, h4, h5, h6, h7⟩ := F
  exact ⟨cf, i, k, f, st, cell, h1, h2, h3, h4, K.2.1 st cell h5 (fun z => by rw [q st z cell h5] at h6; cases h6), h6, h7⟩
theorem own_pl_exa {Z : State} {h : Heap} {a : Addr} {C : String} (F : Exa Z h a C) : ∀ c : Cell, h[a]? = some c → c.vm.isStatics = false := fun c hc => by
  obtain ⟨c1, k, h1, -, -, h4, -⟩ := F; cases h1.symm.trans hc; exact h4
theorem own_pl_fld {Z : State} {h : Heap} {a : Addr} {C n d : String} {v : Value} (F : Fld Z h a C n d v) : ∀ c : Cell, h[a]? = some c → c.vm.isStatics = false := old_plain F
theorem own_pl_arv {Z : State} {h : Heap} {a : Addr} {k : ClassId} {ty : FieldType} {n : Int32} {vs : List Value} {d : Value} (F : Arv Z h a k ty n vs d) : ∀ c : Cell, h[a]? = some c → c.vm.isStatics = false := fun c hc => by
  obtain ⟨c1, A, -⟩ := F; cases A.1.symm.trans hc; exact A.plain
theorem own_fld {args : Array Value} {s : State} {t : Term} {C n d : String} {a : Addr} {k : Int32} (ev : t.eval args s none [] s = some (.ref a)) (h : (Jvm.Cond.eq (.field t C n d) (.int k)).value args s none s [] = some true) : Fld s s.heap a C n d (.int k) := by
  obtain ⟨x, y, e1, e2, -, k2⟩ := cmp_v (Or.inl h)
  obtain rfl : Value.int k = y := Option.some.inj e2
  obtain ⟨z, rfl⟩ := k2
  have q : z = k := by
    simp only [Cond.value] at h
    rw [e1, e2] at h
    simpa using h
  subst q
  rw [fld_at ev] at e1
  exact Fld.start e1
theorem own_len {args : Array Value} {s : State} {t : Term} {a : Addr} {cl : Cell} {n : Int32} (ev : t.eval args s none [] s = some (.ref a)) (hc : s.heap[a]? = some cl) (h : (Jvm.Cond.eq (.length t) (.int n)).value args s none s [] = some true) : cl.slots.size < 2 ^ 31 ∧ cl.slots.size.toInt32 = n := by
  obtain ⟨x, y, e1, e2, -, -⟩ := cmp_v (Or.inl h)
  obtain rfl : Value.int n = y := Option.some.inj e2
  obtain ⟨b, cell, g1, g2, rfl⟩ := Term.length_spec e1
  cases ev.symm.trans g1
  have g3 : cell.slots.size < 2 ^ 31 := by
    apply Decidable.byContradiction
    intro q
    simp [Term.eval, ev, g2, q] at e1
  have g4 : cell = cl := by
    simp only [State.arrayAt?, Option.bind_eq_bind, Option.bind_eq_some_iff] at g2
    obtain ⟨c2, q1, k2, q2, q3⟩ := g2
    split at q3
    · cases q3
    · split at q3
      · cases q3; exact Option.some.inj (q1.symm.trans hc)
      · cases q3
  rw [← g4]
  refine ⟨g3, ?_⟩
  simp only [Cond.value] at h
  rw [e1, e2] at h
  simpa using h
theorem own_elem {args : Array Value} {s : State} {t u : Term} {a b : Addr} {cl : Cell} {k : Int32} (ev : t.eval args s none [] s = some (.ref a)) (hc : s.heap[a]? = some cl) (eu : u.eval args s none [] s = some (.ref b)) (h : (Jvm.Cond.eq (.elem t (.int k)) u).value args s none s [] = some true) : cl.slots[k.toNatClampNeg]? = some (.ref b) := by
  obtain ⟨x, y, e1, e2, -, -⟩ := cmp_v (Or.inl h)
  cases eu.symm.trans e2
  have q := (elem_in e1 ev rfl hc).2
  have : x = .ref b := by
    simp only [Cond.value] at h
    rw [e1, e2] at h
    cases x <;> simp at h ⊢
    exact h
  rw [q, this]
def own_CacheL (Z : State) (h : Heap) (a : Addr) : Prop := ∃ cl : Cell, Arr Z h a cl (.object "java/lang/Long") ∧ cl.slots.size = 256 ∧ ∀ j : Nat, j < 256 → ∃ r : Addr, cl.slots[j]? = some (.ref r) ∧ Exa Z h r "java/lang/Long"
theorem own_CacheL_ext {Z : State} {h h' : Heap} {a : Addr} (F : own_CacheL Z h a) (E : Ext h h') : own_CacheL Z h' a := by
  obtain ⟨cl, A, S, H⟩ := F
  exact ⟨cl, A.ext E, S, fun j hj => by obtain ⟨r, q1, q2⟩ := H j hj; exact ⟨r, q1, q2.ext E⟩⟩
theorem own_CacheL_keep {Z : State} {h h' : Heap} {a : Addr} {ws : List Addr} (F : own_CacheL Z h a) (K : Keep h h' ws) (q : a ∉ ws) : own_CacheL Z h' a := by
  obtain ⟨cl, A, S, H⟩ := F
  exact ⟨cl, ⟨K.2.1 a cl A.1 q, A.2⟩, S, fun j hj => by obtain ⟨r, q1, q2⟩ := H j hj; exact ⟨r, q1, q2.keep K⟩⟩
theorem own_CacheL_wr {Z : State} {h h' : Heap} {a b : Addr} {sl : Nat} {v : Value} (F : own_CacheL Z h a) (W : Wr h h' b sl v) (q : a ≠ b) : own_CacheL Z h' a := by
  obtain ⟨cl, A, S, H⟩ := F
  exact ⟨cl, A.other W q, S, fun j hj => by obtain ⟨r, q1, q2⟩ := H j hj; exact ⟨r, q1, q2.wr W⟩⟩
theorem own_CacheL_lt {Z : State} {h : Heap} {a : Addr} (F : own_CacheL Z h a) : @LT.lt Nat _ a h.size := by obtain ⟨cl, A, -⟩ := F; exact A.lt
theorem own_cache_ofL {args : Array Value} {s : State} {C n d : String} {a : Addr} {cl : Cell} {c2 : Jvm.Cond} (ev : (Term.static C n d).eval args s none [] s = some (.ref a)) (A : Arr s s.heap a cl (.object "java/lang/Long")) (hl : cl.slots.size < 2 ^ 31 ∧ cl.slots.size.toInt32 = 256)
    (h : (Jvm.Cond.all (Term.static C n d) (Jvm.Cond.and (Jvm.Cond.exactly (Term.elem (Term.static C n d) (Term.index 0)) "java/lang/Long") c2)).value args s none s [] = some true) : own_CacheL s s.heap a := by
  have sz : cl.slots.size = 256 := by
    have q := len_toInt hl.1
    rw [hl.2] at q
    have : (256 : Int32).toInt = 256 := rfl
    omega
  refine ⟨cl, A, sz, fun j hj => ?_⟩
  have q := Cond.all_elim ev (A.fin (Vm.Alike.refl _)) h j (by omega)
  obtain ⟨q1, -⟩ := and_e q
  obtain ⟨a', c', cell, k, e1, e2, e3, e4, e5, e6, e7⟩ := Cond.exactly_spec (beq_iff_eq.mpr q1 : (Jvm.Cond.exactly (Term.elem (Term.static C n d) (Term.index 0)) "java/lang/Long").holds args s none s [j] = true)
  have ei : (Term.index 0).eval args s none [j] s = some (.int (Nat.toInt32 j)) := by first | rfl | simp [Term.eval]
  have r := (elem_in e1 (show (Term.static C n d).eval args s none [j] s = some (.ref a) from ev) ei A.1).2
  have hj2 : (Nat.toInt32 j).toNatClampNeg = j := by simp only [Int32.toNatClampNeg, len_toInt (show j < 2 ^ 31 by omega)]; rfl
  rw [hj2] at r
  subst e6
  exact ⟨a', r, cell, k, e3, e2, e4, e5, e7⟩
theorem own_idxL (p : Int64) (h1 : ¬ p < (-128 : Int64)) (h2 : ¬ (127 : Int64) < p) : ¬ (p.toInt32 + (128 : Int32)) < 0 ∧ (p.toInt32 + (128 : Int32)).toNatClampNeg < 256 := by
  rw [Int64.lt_iff_toInt_lt] at h1 h2
  have e1 : (-128 : Int64).toInt = -128 := rfl
  have e2 : (127 : Int64).toInt = 127 := rfl
  have e3 : (128 : Int32).toInt = 128 := rfl
  have e0 : (0 : Int32).toInt = 0 := rfl
  have e4 : p.toInt32.toInt = p.toInt := by
    rw [Int64.toInt_toInt32]; exact Int.bmod_eq_of_le (by omega) (by omega)
  have h := c_iadd p.toInt32 128
  have hr := rng32 (p.toInt32 + 128)
  rw [e3, e4] at h
  rw [Int32.lt_iff_toInt_lt]
  simp only [Int32.toNatClampNeg]
  omega
def own_lat (c : Int32) : Prop := ∃ k : Fin 256, c = Int32.ofNat k.1
def own_by (c : Int32) : Int32 := nar .byte c.toInt8.toInt32
theorem own_lat_le {c : Int32} (h : own_lat c) : ¬ (255 : Int32) < c := by obtain ⟨k, rfl⟩ := h; revert k; decide +kernel
theorem own_lat_ch {c : Int32} (h : own_lat c) : nar .char c = c := by obtain ⟨k, rfl⟩ := h; revert k; decide +kernel
theorem own_by_back {c : Int32} (h : own_lat c) : own_by c &&& 255 = c := by obtain ⟨k, rfl⟩ := h; revert k; decide +kernel
theorem own_by_iff {c d : Int32} (h : own_lat c) (g : own_lat d) : own_by c = own_by d ↔ c = d := ⟨fun q => by rw [← own_by_back h, q, own_by_back g], fun q => by rw [q]⟩
theorem own_lat_and (x : Int32) : own_lat (x &&& (255 : Int32)).toUInt32.toUInt16.toUInt32.toInt32 := by
  obtain ⟨h1, h2⟩ := c_and x 255 (by decide)
  have e : (255 : Int32).toInt = 255 := rfl
  rw [e] at h2
  have h3 : x &&& 255 = Int32.ofNat (x &&& 255).toInt.toNat := by
    apply Int32.toInt_inj.mp
    rw [Int32.toInt_ofNat_of_lt (by omega)]; omega
  have h4 : ∀ k : Fin 256, (Int32.ofNat k.1).toUInt32.toUInt16.toUInt32.toInt32 = Int32.ofNat k.1 := by decide +kernel
  rw [h3, h4 ⟨(x &&& 255).toInt.toNat, by omega⟩]
  exact ⟨⟨(x &&& 255).toInt.toNat, by omega⟩, rfl⟩
def own_eq1 (w0 z0 : Int32) : Int32 := (if w0 = z0 then 1 else 0)
theorem own_eq1_one {w0 z0 : Int32} (h : ¬ own_eq1 w0 z0 = (0 : Int32)) : own_eq1 w0 z0 = 1 := by unfold own_eq1 at h ⊢; by_cases q0 : w0 = z0 <;> simp_all
def own_eq2 (w0 w1 z0 z1 : Int32) : Int32 := (if w0 = z0 then (if w1 = z1 then 1 else 0) else 0)
theorem own_eq2_one {w0 w1 z0 z1 : Int32} (h : ¬ own_eq2 w0 w1 z0 z1 = (0 : Int32)) : own_eq2 w0 w1 z0 z1 = 1 := by unfold own_eq2 at h ⊢; by_cases q0 : w0 = z0 <;> by_cases q1 : w1 = z1 <;> simp_all
def own_EL : List (String × Nat) := [("java/lang/String", 7)]
theorem own_ew {a0 : Array Value} {Z : State} (hw : ∀ d ∈ tables_1, d.before a0 Z = true) : EW Z a0 own_EL := (EW.cons (own_hw hw 22) (by decide) EW.nil)
theorem own_el : ∀ p ∈ own_EL, p ∈ consts_1 := by decide
theorem own_safe_null {Z : State} {EL : List (String × Nat)} {vm : Vm} {h : Heap} {x : Addr} (hal : Z.vm.Alike vm) (E : Exa Z h x "java/lang/String") (F : Fld Z h x "java/lang/String" "value" "[B" .null) : Safe Z EL vm h x := fun B => by
  obtain ⟨cl, kc, e1, e2, e3, e4, e5⟩ := E
  obtain ⟨cell, cf, kf, i, f, g1, g2, g3, g4, g5, g6, g7⟩ := F
  have nm : ∀ {n : String} {c : ClassId}, vm.findClass n = some c → c = cl.cls → n = "java/lang/String" := fun {n c} f e => by
    subst e
    rw [hal.findClass] at f
    obtain ⟨k1, q1, q2⟩ := Vm.findClass_spec f
    obtain ⟨k2, q3, q4⟩ := Vm.findClass_spec e2
    cases q1.symm.trans q3
    exact q2.symm.trans q4
  obtain ⟨p, -, u, a, -, q, -, S, rfl | rfl⟩ := B
  · cases (show h[q.sa]? = some q.sC from S.ha).symm.trans g1
    obtain ⟨cS, ⟨⟨-, -, -, ⟨c1, k1, i1, f1, -⟩, -, -, -, v1, -⟩, -⟩, -⟩ := S
    obtain ⟨k3, z3, -⟩ := State.fieldFound?_setVm (s := Z) hal g2
    have z4 := (show (Wst Z vm h).fieldFound? _ _ _ = _ from z3).symm.trans f1
    simp only [Option.some.injEq, Prod.mk.injEq] at z4
    rw [← z4.2.2.2, g7] at v1
    cases v1
  · cases (show h[q.sd]? = some q.SA from S.hd).symm.trans e1
    obtain ⟨cS, -, -, f, -⟩ := S
    exact absurd (nm f rfl) (by decide)
theorem own_ne_oa {Z : State} {a0 : Array Value} {h : Heap} {a r : Addr} {C : String} {n : Nat} {k : ClassId} {ty : FieldType} {z : Int32} {vs : List Value} {d : Value} (w : (Cond.instantiable C n).before a0 Z = true) (E : Exa Z h a C) (A : Arv Z h r k ty z vs d) : @Ne Nat a r := fun e => by
  have e' : a = r := e
  subst e'
  obtain ⟨cl, kc, e1, e2, e3, -, -⟩ := E
  obtain ⟨x, ⟨A1, ⟨-, kA, hkA, comp, hkind⟩, -⟩, -⟩ := A
  obtain ⟨c1, k1, q1, q2, q3, -, -, -⟩ := Cond.instantiable_spec w
  cases e1.symm.trans A1
  cases e2.symm.trans q1
  cases q2.symm.trans hkA
  rw [q3] at hkind
  cases hkind
theorem own_str_ne {Z : State} {h : Heap} {a b ax ay : Addr} {ka kb : ClassId} {n m : Int32} {vs ws : List Value} {d d' : Value} {C : String} (F : Fld Z h a C "value" "[B" (.ref ax)) (G : Fld Z h b C "value" "[B" (.ref ay)) (A : Arv Z h ax ka .byte n vs d) (B : Arv Z h ay kb .byte m ws d') (hn : n.toNatClampNeg ≠ m.toNatClampNeg) : ¬ a = b := fun e => by
  subst e
  obtain ⟨c1, cf, k, i, f, g1, g2, -, -, -, -, g7⟩ := F
  obtain ⟨c2, cf', k', i', f', q1, q2, -, -, -, -, q7⟩ := G
  cases g1.symm.trans q1
  have z := g2.symm.trans q2
  simp only [Option.some.injEq, Prod.mk.injEq] at z
  rw [z.2.2.2, q7] at g7
  cases g7
  obtain ⟨x, A1, -, S1, -⟩ := A
  obtain ⟨y, B1, -, S2, -⟩ := B
  cases A1.1.symm.trans B1.1
  exact hn (S1.symm.trans S2)
theorem own_and3 (f : Int32) : f &&& 3 = 0 ∨ f &&& 3 = 1 ∨ f &&& 3 = 2 ∨ f &&& 3 = 3 := by
  have h := c_mask f 3 2 (by decide) (by decide)
  have h2 : (f &&& 3).toInt = 0 ∨ (f &&& 3).toInt = 1 ∨ (f &&& 3).toInt = 2 ∨ (f &&& 3).toInt = 3 := by
    have : ((2 ^ 2 : Nat) : Int) = 4 := rfl
    rw [this] at h; omega
  rcases h2 with h | h | h | h
  · exact Or.inl (Int32.toInt_inj.mp h)
  · exact Or.inr (Or.inl (Int32.toInt_inj.mp h))
  · exact Or.inr (Or.inr (Or.inl (Int32.toInt_inj.mp h)))
  · exact Or.inr (Or.inr (Or.inr (Int32.toInt_inj.mp h)))
def own_veq (vs ws : List Value) : Int32 := if vs = ws then 1 else 0
theorem own_veq_one {vs ws : List Value} (h : ¬ own_veq vs ws = (0 : Int32)) : own_veq vs ws = 1 := by unfold own_veq at h ⊢; by_cases q : vs = ws <;> simp_all
def own_bs (n u0 u1 : Int32) : List Value := if n = 0 then [] else if n = 1 then [.int (own_by u0)] else [.int (own_by u0), .int (own_by u1)]
def own_sh (n : Int32) (vs : List Value) : Prop := (n = 0 ∧ vs = []) ∨ (∃ w0 : Int32, n = 1 ∧ vs = [.int w0]) ∨ ∃ w0 w1 : Int32, n = 2 ∧ vs = [.int w0, .int w1]
theorem own_bs_sh {n u0 u1 : Int32} (h : n = 0 ∨ n = 1 ∨ n = 2) : own_sh n (own_bs n u0 u1) := by
  rcases h with rfl | rfl | rfl
  · exact Or.inl ⟨rfl, rfl⟩
  · exact Or.inr (Or.inl ⟨_, rfl, rfl⟩)
  · exact Or.inr (Or.inr ⟨_, _, rfl, rfl⟩)
theorem own_lat_i2c {c : Int32} (h : own_lat c) : c.toUInt32.toUInt16.toUInt32.toInt32 = c := by obtain ⟨k, rfl⟩ := h; revert k; decide +kernel
theorem own_lat_a (x : Int32) : own_lat (x &&& (255 : Int32)) := by
  obtain ⟨h1, h2⟩ := c_and x 255 (by decide)
  have e : (255 : Int32).toInt = 255 := rfl
  rw [e] at h2
  have h3 : x &&& 255 = Int32.ofNat (x &&& 255).toInt.toNat := by
    apply Int32.toInt_inj.mp
    rw [Int32.toInt_ofNat_of_lt (by omega)]; omega
  rw [h3]
  exact ⟨⟨(x &&& 255).toInt.toNat, by omega⟩, rfl⟩
theorem own_mod3 (x : Int32) : x % 3 = 0 ∨ x % 3 = 1 ∨ x % 3 = 2 ∨ x < 0 := by
  have h := Int32.toInt_mod x 3
  have e3 : (3 : Int32).toInt = 3 := rfl
  rw [e3] at h
  by_cases hx : x < 0
  · exact Or.inr (Or.inr (Or.inr hx))
  · have h0 : 0 ≤ x.toInt := by rw [Int32.lt_iff_toInt_lt] at hx; have : (0 : Int32).toInt = 0 := rfl; omega
    rw [Int.tmod_eq_emod_of_nonneg h0] at h
    have h2 : (x % 3).toInt = 0 ∨ (x % 3).toInt = 1 ∨ (x % 3).toInt = 2 := by omega
    rcases h2 with h | h | h
    · exact Or.inl (Int32.toInt_inj.mp h)
    · exact Or.inr (Or.inl (Int32.toInt_inj.mp h))
    · exact Or.inr (Or.inr (Or.inl (Int32.toInt_inj.mp h)))
theorem own_pos (x : Int32) : ¬ (x &&& 2147483647) < 0 := by
  have := (c_and x 2147483647 (by decide)).1
  rw [Int32.lt_iff_toInt_lt]; have e : (0 : Int32).toInt = 0 := rfl; omega
theorem own_ne' {a b : Nat} (h : @Ne Nat a b) : ¬ a = b := h
def own_om (x y : Int64) (f : Int32) : Int32 := if x = y then f else 0
theorem own_exp {x y : Int64} {n u v m u' v' : Int32} (h1 : own_lat u) (h2 : own_lat u') (h3 : own_lat v) (h4 : own_lat v') (hn : n = 0 ∨ n = 1 ∨ n = 2) (hm : m = 0 ∨ m = 1 ∨ m = 2) : own_om x y (own_veq (own_bs n u v) (own_bs m u' v')) = if x = y ∧ n = m ∧ (n < (1 : Int32) ∨ u = u') ∧ (n < (2 : Int32) ∨ v = v') then 1 else 0 := by
  have q1 := own_by_iff h1 h2
  have q2 := own_by_iff h3 h4
  by_cases hx : x = y <;> by_cases hu : u = u' <;> by_cases hv : v = v' <;> rcases hn with rfl | rfl | rfl <;> rcases hm with rfl | rfl | rfl <;> simp [own_om, own_veq, own_bs, q1, q2, hx, hu, hv] <;> decide
theorem own_om_symm (x y : Int64) (vs ws : List Value) : own_om y x (own_veq ws vs) = own_om x y (own_veq vs ws) := by
  unfold own_om own_veq
  by_cases h : x = y
  · subst h
    by_cases g : vs = ws
    · subst g; rfl
    · simp [g, Ne.symm g]
  · simp [h, Ne.symm h]
theorem own_posL (x : Int64) : ¬ (x &&& (9223372036854775807 : Int64)) < (0 : Int64) := by
  rw [Int64.lt_iff_toInt_lt]
  have h1 : (x.toBitVec &&& (9223372036854775807 : Int64).toBitVec).toNat < 2 ^ 63 := by
    rw [BitVec.toNat_and]; exact Nat.lt_of_le_of_lt Nat.and_le_right (by decide)
  have h2 : 0 ≤ (x.toBitVec &&& (9223372036854775807 : Int64).toBitVec).toInt := by
    rw [BitVec.toInt_eq_toNat_cond, if_pos (by omega)]; omega
  have h3 : (x &&& (9223372036854775807 : Int64)).toInt = (x.toBitVec &&& (9223372036854775807 : Int64).toBitVec).toInt := rfl
  rw [h3]
  have e : (0 : Int64).toInt = 0 := rfl
  omega
theorem own_r3 (x : Int32) : (x &&& (32767 : Int32)) % (3 : Int32) = 0 ∨ (x &&& (32767 : Int32)) % (3 : Int32) = 1 ∨ (x &&& (32767 : Int32)) % (3 : Int32) = 2 := by
  rcases own_mod3 (x &&& (32767 : Int32)) with h | h | h | h
  · exact Or.inl h
  · exact Or.inr (Or.inl h)
  · exact Or.inr (Or.inr h)
  · have := (c_and x 32767 (by decide)).1
    rw [Int32.lt_iff_toInt_lt] at h; have e : (0 : Int32).toInt = 0 := rfl; omega
abbrev oi (x : Int32) : Slot := .val (.int x)
abbrev oj (x : Int64) : Slot := .val (.long x)
abbrev oR (x : Addr) : Slot := .val (.ref x)
abbrev oM0 : MethodName := ⟨"java/lang/StringLatin1", "equals", "([B[B)Z"⟩
abbrev oM1 : MethodName := ⟨"com/example/limpet/limpet/OffsetAndMetadata", "equals", "(Ljava/lang/Object;)Z"⟩
abbrev oM2 : MethodName := ⟨"java/lang/String", "<init>", "([CIILjava/lang/Void;)V"⟩
abbrev oM3 : MethodName := ⟨"java/lang/String", "<init>", "([C)V"⟩
abbrev oM4 : MethodName := ⟨"java/lang/String", "equals", "(Ljava/lang/Object;)Z"⟩
abbrev oM5 : MethodName := ⟨"java/lang/StringUTF16", "compress", "([CI[BII)I"⟩
abbrev oM6 : MethodName := ⟨"java/lang/StringUTF16", "compress", "([CII)[B"⟩
abbrev oM7 : MethodName := ⟨"java/lang/StringUTF16", "coderFromArrayLen", "([BI)B"⟩
abbrev oM8 : MethodName := ⟨"java/lang/Long", "<init>", "(J)V"⟩
abbrev oM9 : MethodName := ⟨"com/example/limpet/limpet/OffsetAndMetadataEqualsPinLaw", "str", "(III)Ljava/lang/String;"⟩
abbrev oM10 : MethodName := ⟨"com/example/limpet/limpet/OffsetAndMetadata", "<init>", "(JLjava/lang/String;)V"⟩
abbrev oM11 : MethodName := ⟨"com/example/limpet/limpet/OffsetAndMetadata", "metadata", "()Ljava/lang/String;"⟩
abbrev oM12 : MethodName := ⟨"java/lang/Number", "<init>", "()V"⟩
abbrev oM13 : MethodName := ⟨"java/lang/Long", "valueOf", "(J)Ljava/lang/Long;"⟩
abbrev oM14 : MethodName := ⟨"java/util/Objects", "requireNonNull", "(Ljava/lang/Object;Ljava/lang/String;)Ljava/lang/Object;"⟩
abbrev oM15 : MethodName := ⟨"com/example/limpet/limpet/CommittedOffset", "requireOffset", "(J)J"⟩
abbrev oS0 : String := "java/lang/String"
abbrev oS1 : String := "com/example/limpet/limpet/OffsetAndMetadata"
abbrev oS2 : String := "COMPACT_STRINGS"
abbrev oS3 : String := "Ljava/lang/String;"
abbrev oS4 : String := "java/lang/Long"
abbrev oS5 : String := "java/lang/StringLatin1"
abbrev oS6 : String := "com/example/limpet/limpet/OffsetAndMetadataEqualsPinLaw"
abbrev oS7 : String := "java/lang/StringUTF16"
theorem d14_0 : decode jdk_18_method_1_code 0 = .ok (.aload_n 0, 1) := by decide +kernel
theorem d14_1 : decode jdk_18_method_1_code 1 = .ok (.invokespecial 1, 3) := by decide +kernel
theorem d14_4 : decode jdk_18_method_1_code 4 = .ok (.return_, 1) := by decide +kernel
theorem pn_14 : plainName "java/lang/Number" = true := by first | (simp [plainName, overriddenIn]; done) | decide +kernel
theorem ef_rm14 (m : MethodId) (x0 : Addr) : entryFrame m #[(.ref x0)] 1 = mkF m 0 #[.val (.ref x0)] [] := by first | (simp [entryFrame, mkF, argsToLocals, Value.category]; done) | rfl
def Qrm14 (Z : State) (a1 : Addr) (h0 : Heap) (n0 : Nat) (v : Option Value) (h : Heap) (L : List Loc) : Prop := (v = none) ∧ (Fr n0 L) ∧ (h = h0)
set_option maxRecDepth 65536 in
set_option maxHeartbeats 40000000 in
theorem rm14 (l : Launch) (Z : State) (a0 : Array Value) (hw : ∀ d ∈ tables_1, d.before a0 Z = true) (ws : List Jvm.Cond) (a1 : Addr) (h0 : Heap) (n0 : Nat) (Z0 : n0 ≤ h0.size)  :
    MetFree l oM12 (head1 (Jvm.Cond.code oM12 jdk_18_method_1_code 1 none :: ws) ({ frames := 1, cells := 0, slots := 0, locals := 12 } : Room)) (fun a U => a = #[(.ref a1)] ∧ Z.Warmed39 U.vm ∧ U.heap = h0) (fun _ _ _ _ _ => True) (fun _ U o U' => ∃ v L, o = .returned v ∧ Qrm14 Z a1 h0 n0 v U'.heap L ∧ FrameEnd U o U' L ({ frames := 1, cells := 0, slots := 0, locals := 12 } : Room).cells ({ frames := 1, cells := 0, slots := 0, locals := 12 } : Room).slots) := by
  refine MetFree.of_bodySF (plainFor_of_name pn_14) hisR ?_
  intro p e s m args below meth c s₁ Bd hml0 hP0 hK
  obtain ⟨rfl, hZ, hh⟩ := hP0
  have hx := Bd.exec
  have hby := Bd.bytes
  have hml : c.maxLocals = 1 := hml0
  have hown : s.vm.findClass "java/lang/Number" = some m.cls := findClass_of_methodNamed Bd.named
  have hnm := (name_of_methodNamed Bd.named Bd.method).1
  have X0 : Stand p l e ({ frames := 1, cells := 0, slots := 0, locals := 12 } : Room) s m #[(.ref a1)] below meth c s₁ [] 0 0 := Stand.of_body Bd
  have e0 : s₁.heap = h0 := by rw [← hh, Bd.state]; rfl
  have N0 := Fr.nil n0
  suffices own_H : ∀ (P : State → Outcome → Prop), (∀ U o, U.status = .running → Ended U below o → (∃ v L, o = .returned v ∧ Qrm14 Z a1 h0 n0 v U.heap L ∧ FrameEnd s o U L ({ frames := 1, cells := 0, slots := 0, locals := 12 } : Room).cells ({ frames := 1, cells := 0, slots := 0, locals := 12 } : Room).slots) → P U o) → own_Go p.tables e below P (s₁.setTop (mkF m 0 #[oR a1] [])) from own_go (fun _ k => castTop (ef_rm14 m a1) k) (own_H _ (fun U o h1 h2 h3 => ⟨h1, h2, h3⟩))
  intro P hP
  refine own_go (st' := s₁.setTop (mkF m 1 #[oR a1] [(.ref a1)])) (fun _ k => XS.aloadN X0.here hx rfl (hb hby d14_0) rfl rfl k) ?_
  obtain ⟨T1, X1, e1, st1⟩ := initO X0 hx hZ hown (own_hw hw 91) (own_hw hw 20) (own_hw hw 21) e0 (g := (mkF m 1 #[oR a1] [(.ref a1)])) rfl (by rw [hml]; rfl) rfl (hb hby d14_1) (by decide) (W := 0) (by show 2 * 0 + _ ≤ _; exact Nat.le_of_eq rfl) (by decide)
  refine own_go (st' := T1.setTop (mkF m 4 #[oR a1] [])) (st1) ?_
  obtain ⟨fs, hr, hrun, hended, hW, hsame⟩ := X1.leave (v := none) (fun _ => rfl)
  refine ⟨_, _, ?_, hP _ _ hrun hended ⟨_, _, rfl, ?_, ⟨_, rfl⟩, hW, hsame.mono (by decide) (by decide)⟩⟩
  · exact X1.returnOut hx Bd.returns (hb hby d14_4) hr
  · show Qrm14 Z a1 h0 n0 _ T1.heap _
    rw [e1]
    exact ⟨rfl, N0, rfl⟩
theorem pd_0 : parseMethodDescriptor "()V" = some ⟨[], none⟩ := by decide +kernel
theorem d13_0 : decode jdk_35_method_26_code 0 = .ok (.aload_n 0, 1) := by decide +kernel
theorem d13_1 : decode jdk_35_method_26_code 1 = .ok (.invokespecial 270, 3) := by decide +kernel
theorem d13_4 : decode jdk_35_method_26_code 4 = .ok (.aload_n 0, 1) := by decide +kernel
theorem d13_5 : decode jdk_35_method_26_code 5 = .ok (.lload_n 1, 1) := by decide +kernel
theorem d13_6 : decode jdk_35_method_26_code 6 = .ok (.putfield 273, 3) := by decide +kernel
theorem d13_9 : decode jdk_35_method_26_code 9 = .ok (.return_, 1) := by decide +kernel
theorem pn_13 : plainName "java/lang/Long" = true := by first | (simp [plainName, overriddenIn]; done) | decide +kernel
theorem ef_rm13 (m : MethodId) (x0 : Addr) (x1 : Int64) : entryFrame m #[(.ref x0), (.long x1)] 3 = mkF m 0 #[.val (.ref x0), .val (.long x1), .second] [] := by first | (simp [entryFrame, mkF, argsToLocals, Value.category]; done) | rfl
def Qrm13 (Z : State) (a1 : Addr) (p2 : Int64) (u3 : Int64) (h0 : Heap) (n0 : Nat) (v : Option Value) (h : Heap) (L : List Loc) : Prop := (v = none) ∧ (Fr n0 L) ∧ (Keep h0 h [a1]) ∧ (Exa Z h a1 "java/lang/Long") ∧ (Fld Z h a1 "java/lang/Long" "value" "J" (.long p2))
set_option maxRecDepth 65536 in
set_option maxHeartbeats 40000000 in
theorem rm13 (l : Launch) (Z : State) (a0 : Array Value) (hw : ∀ d ∈ tables_1, d.before a0 Z = true) (ws : List Jvm.Cond) (a1 : Addr) (p2 : Int64) (u3 : Int64) (h0 : Heap) (n0 : Nat) (Z0 : n0 ≤ h0.size) (pr1 : Exa Z h0 a1 oS4) (pr2 : Fld Z h0 a1 oS4 "value" "J" (.long u3)) (pr3 : n0 ≤ a1) :
    MetFree l oM8 (head1 (Jvm.Cond.code oM8 jdk_35_method_26_code 3 none :: ws) ({ frames := 2, cells := 0, slots := 0, locals := 24 } : Room)) (fun a U => a = #[(.ref a1), (.long p2)] ∧ Z.Warmed39 U.vm ∧ U.heap = h0) (fun _ _ _ _ _ => True) (fun _ U o U' => ∃ v L, o = .returned v ∧ Qrm13 Z a1 p2 u3 h0 n0 v U'.heap L ∧ FrameEnd U o U' L ({ frames := 2, cells := 0, slots := 0, locals := 24 } : Room).cells ({ frames := 2, cells := 0, slots := 0, locals := 24 } : Room).slots) := by
  refine MetFree.of_bodySF (plainFor_of_name pn_13) hisR ?_
  intro p e s m args below meth c s₁ Bd hml0 hP0 hK
  obtain ⟨rfl, hZ, hh⟩ := hP0
  have hx := Bd.exec
  have hby := Bd.bytes
  have hml : c.maxLocals = 3 := hml0
  have hown : s.vm.findClass oS4 = some m.cls := findClass_of_methodNamed Bd.named
  have hnm := (name_of_methodNamed Bd.named Bd.method).1
  have X0 : Stand p l e ({ frames := 2, cells := 0, slots := 0, locals := 24 } : Room) s m #[(.ref a1), (.long p2)] below meth c s₁ [] 0 0 := Stand.of_body Bd
  have e0 : s₁.heap = h0 := by rw [← hh, Bd.state]; rfl
  have N0 := Fr.nil n0
  suffices own_H : ∀ (P : State → Outcome → Prop), (∀ U o, U.status = .running → Ended U below o → (∃ v L, o = .returned v ∧ Qrm13 Z a1 p2 u3 h0 n0 v U.heap L ∧ FrameEnd s o U L ({ frames := 2, cells := 0, slots := 0, locals := 24 } : Room).cells ({ frames := 2, cells := 0, slots := 0, locals := 24 } : Room).slots) → P U o) → own_Go p.tables e below P (s₁.setTop (mkF m 0 #[oR a1, oj p2, .second] [])) from own_go (fun _ k => castTop (ef_rm13 m a1 p2) k) (own_H _ (fun U o h1 h2 h3 => ⟨h1, h2, h3⟩))
  intro P hP
  have lt_a1 : @LT.lt Nat _ a1 h0.size := pr1.lt
  refine own_go (st' := s₁.setTop (mkF m 1 #[oR a1, oj p2, .second] [(.ref a1)])) (fun _ k => XS.aloadN X0.here hx rfl (hb hby d13_0) rfl rfl k) ?_
  obtain ⟨_, _, ⟨T1, LC1, kC1, nC1⟩, -, X1, ⟨Lc1, hQ1, lq1, yq1, zq1⟩, st1⟩ := X0.specialBack hx (y := oM12) rfl hown (mvT hZ (own_hw hw 85)) (mvT hZ (own_hw hw 86)) (mvT hZ (own_hw hw 90)) (by decide) (backOf (W := 0) (rm14 l Z a0 hw [] a1 h0 n0 (by omega) ) hZ (own_hw hw 90) (own_hw hw 89) (by decide) (by decide)) (g := (mkF m 1 #[oR a1, oj p2, .second] [(.ref a1)])) rfl (by rw [hml]; rfl) (Steps.refl _) (a := a1) (argsL := []) (rest := []) (lenOf pd_0 rfl) rfl (by show 2 * 0 + _ ≤ _; exact Nat.le_of_eq rfl) (hb hby d13_1) (fun _ _ => ⟨rfl, e0, (by decide : 0 + 0 ≤ _), (by decide : 0 + 0 ≤ _)⟩)
  dsimp only [Pt.U, Pt.locs, Pt.cells, Pt.slots] at X1 lq1 yq1 zq1 st1 hQ1
  subst lq1 yq1 zq1
  obtain ⟨rfl, Nq1, eq1⟩ := hQ1
  have N1 := Fr.app N0 Nq1
  refine own_go (st' := T1.setTop (mkF m 4 #[oR a1, oj p2, .second] [])) (fun _ k => st1.trans k) ?_
  refine own_go (st' := T1.setTop (mkF m 5 #[oR a1, oj p2, .second] [(.ref a1)])) (fun _ k => XS.aloadN X1.here hx rfl (hb hby d13_4) rfl rfl k) ?_
  refine own_go (st' := T1.setTop (mkF m 6 #[oR a1, oj p2, .second] [(.long p2), (.ref a1)])) (fun _ k => XS.lloadN X1.here hx rfl (hb hby d13_5) rfl k) ?_
  obtain ⟨T2, h2, X2, e2, W2, st2⟩ := putF X1 hx hZ hown (host := "") (Or.inl (own_hw hw 92)) Via.refl eq1 pr2 pr1 (Or.inr ⟨(own_hw hw 93), rfl, hnm⟩) (own_hw hw 80) (ty := .long) (by decide) rfl rfl (g := (mkF m 6 #[oR a1, oj p2, .second] [(.long p2), (.ref a1)])) rfl rfl (hb hby d13_6)
  have sz2 : h2.size = h0.size := W2.size
  have N2 := Fr.snoc X2 N1 (by omega)
  have f2 : Fld Z h2 a1 oS4 "value" "J" (.long p2) := pr2.same W2
  refine own_go (st' := T2.setTop (mkF m 9 #[oR a1, oj p2, .second] [])) (st2) ?_
  obtain ⟨fs, hr, hrun, hended, hW, hsame⟩ := X2.leave (v := none) (fun _ => rfl)
  refine ⟨_, _, ?_, hP _ _ hrun hended ⟨_, _, rfl, ?_, ⟨_, rfl⟩, hW, hsame.mono (by decide) (by decide)⟩⟩
  · exact X2.returnOut hx Bd.returns (hb hby d13_9) hr
  · show Qrm13 Z a1 p2 u3 h0 n0 _ T2.heap _
    have c4 : Exa Z h2 a1 oS4 := (pr1.wr W2)
    rw [e2]
    exact ⟨rfl, N2, ((Keep.refl h0 [a1]).wr W2 (Or.inl (List.mem_of_getElem? (i := 0) rfl))), c4, f2⟩
theorem pd_1 : parseMethodDescriptor "(J)V" = some ⟨[.long], none⟩ := by decide +kernel
theorem d12_0 : decode jdk_35_method_24_code 0 = .ok (.sipush 128, 3) := by decide +kernel
theorem d12_3 : decode jdk_35_method_24_code 3 = .ok (.istore_n 2, 1) := by decide +kernel
theorem d12_4 : decode jdk_35_method_24_code 4 = .ok (.lload_n 0, 1) := by decide +kernel
theorem d12_5 : decode jdk_35_method_24_code 5 = .ok (.ldc2_w 230, 3) := by decide +kernel
theorem d12_8 : decode jdk_35_method_24_code 8 = .ok (.lcmp, 1) := by decide +kernel
theorem d12_9 : decode jdk_35_method_24_code 9 = .ok (.ifCond .lt 22, 3) := by decide +kernel
theorem d12_12 : decode jdk_35_method_24_code 12 = .ok (.lload_n 0, 1) := by decide +kernel
theorem d12_13 : decode jdk_35_method_24_code 13 = .ok (.ldc2_w 232, 3) := by decide +kernel
theorem d12_16 : decode jdk_35_method_24_code 16 = .ok (.lcmp, 1) := by decide +kernel
theorem d12_17 : decode jdk_35_method_24_code 17 = .ok (.ifCond .gt 14, 3) := by decide +kernel
theorem d12_20 : decode jdk_35_method_24_code 20 = .ok (.getstatic 234, 3) := by decide +kernel
theorem d12_23 : decode jdk_35_method_24_code 23 = .ok (.lload_n 0, 1) := by decide +kernel
theorem d12_24 : decode jdk_35_method_24_code 24 = .ok (.l2i, 1) := by decide +kernel
theorem d12_25 : decode jdk_35_method_24_code 25 = .ok (.sipush 128, 3) := by decide +kernel
theorem d12_28 : decode jdk_35_method_24_code 28 = .ok (.iadd, 1) := by decide +kernel
theorem d12_29 : decode jdk_35_method_24_code 29 = .ok (.aaload, 1) := by decide +kernel
theorem d12_30 : decode jdk_35_method_24_code 30 = .ok (.areturn, 1) := by decide +kernel
theorem d12_31 : decode jdk_35_method_24_code 31 = .ok (.new 1, 3) := by decide +kernel
theorem d12_34 : decode jdk_35_method_24_code 34 = .ok (.dup, 1) := by decide +kernel
theorem d12_35 : decode jdk_35_method_24_code 35 = .ok (.lload_n 0, 1) := by decide +kernel
theorem d12_36 : decode jdk_35_method_24_code 36 = .ok (.invokespecial 240, 3) := by decide +kernel
theorem d12_39 : decode jdk_35_method_24_code 39 = .ok (.areturn, 1) := by decide +kernel
theorem pn_12 : plainName "java/lang/Long" = true := by first | (simp [plainName, overriddenIn]; done) | decide +kernel
theorem ef_rm12 (m : MethodId) (x0 : Int64) : entryFrame m #[(.long x0)] 3 = mkF m 0 #[.val (.long x0), .second, .unset] [] := by first | (simp [entryFrame, mkF, argsToLocals, Value.category]; done) | rfl
def Qrm12 (Z : State) (p1 : Int64) (cal : Addr) (h0 : Heap) (n0 : Nat) (v : Option Value) (h : Heap) (L : List Loc) : Prop := ∃ (r : Addr), (v = some (.ref r)) ∧ (Fr n0 L) ∧ (Keep h0 h []) ∧ (Exa Z h r "java/lang/Long")
set_option maxRecDepth 65536 in
set_option maxHeartbeats 40000000 in
theorem rm12 (l : Launch) (Z : State) (a0 : Array Value) (hw : ∀ d ∈ tables_1, d.before a0 Z = true) (ws : List Jvm.Cond) (p1 : Int64) (cal : Addr) (h0 : Heap) (n0 : Nat) (Z0 : n0 ≤ h0.size) (pr1 : Sta Z h0 "java/lang/Long$LongCache" "cache" "[Ljava/lang/Long;" (.ref cal)) (pr2 : own_CacheL Z h0 cal) :
    MetFree l oM13 (head1 (Jvm.Cond.code oM13 jdk_35_method_24_code 3 (some (.object oS4)) :: ws) ({ frames := 3, cells := 1, slots := 1, locals := 39 } : Room)) (fun a U => a = #[(.long p1)] ∧ Z.Warmed39 U.vm ∧ U.heap = h0) (fun _ _ _ _ _ => True) (fun _ U o U' => ∃ v L, o = .returned v ∧ Qrm12 Z p1 cal h0 n0 v U'.heap L ∧ FrameEnd U o U' L ({ frames := 3, cells := 1, slots := 1, locals := 39 } : Room).cells ({ frames := 3, cells := 1, slots := 1, locals := 39 } : Room).slots) := by
  refine MetFree.of_bodySF (plainFor_of_name pn_12) hisR ?_
  intro p e s m args below meth c s₁ Bd hml0 hP0 hK
  obtain ⟨rfl, hZ, hh⟩ := hP0
  have hx := Bd.exec
  have hby := Bd.bytes
  have hml : c.maxLocals = 3 := hml0
  have hown : s.vm.findClass oS4 = some m.cls := findClass_of_methodNamed Bd.named
  have hnm := (name_of_methodNamed Bd.named Bd.method).1
  have X0 : Stand p l e ({ frames := 3, cells := 1, slots := 1, locals := 39 } : Room) s m #[(.long p1)] below meth c s₁ [] 0 0 := Stand.of_body Bd
  have e0 : s₁.heap = h0 := by rw [← hh, Bd.state]; rfl
  have N0 := Fr.nil n0
  suffices own_H : ∀ (P : State → Outcome → Prop), (∀ U o, U.status = .running → Ended U below o → (∃ v L, o = .returned v ∧ Qrm12 Z p1 cal h0 n0 v U.heap L ∧ FrameEnd s o U L ({ frames := 3, cells := 1, slots := 1, locals := 39 } : Room).cells ({ frames := 3, cells := 1, slots := 1, locals := 39 } : Room).slots) → P U o) → own_Go p.tables e below P (s₁.setTop (mkF m 0 #[oj p1, .second, .unset] [])) from own_go (fun _ k => castTop (ef_rm12 m p1) k) (own_H _ (fun U o h1 h2 h3 => ⟨h1, h2, h3⟩))
  intro P hP
  have lt_cal : @LT.lt Nat _ cal h0.size := own_CacheL_lt pr2
  refine own_go (st' := s₁.setTop (mkF m 3 #[oj p1, .second, .unset] [(.int (128 : Int32))])) (fun _ k => XS.sipush X0.here hx rfl (hb hby d12_0) k) ?_
  refine own_go (st' := s₁.setTop (mkF m 4 #[oj p1, .second, oi 128] [])) (fun _ k => XS.istoreN X0.here hx rfl (hb hby d12_3) rfl (l' := #[oj p1, .second, oi 128]) rfl k) ?_
  refine own_go (st' := s₁.setTop (mkF m 5 #[oj p1, .second, oi 128] [(.long p1)])) (fun _ k => XS.lloadN X0.here hx rfl (hb hby d12_4) rfl k) ?_
  refine own_go (st' := s₁.setTop (mkF m 8 #[oj p1, .second, oi 128] [(.long (-128 : Int64)), (.long p1)])) (X0.ldc2Long hx hown (mvT hZ (own_hw hw 77)) (g := (mkF m 5 #[oj p1, .second, oi 128] [(.long p1)])) rfl (hb hby d12_5)) ?_
  refine own_go (st' := s₁.setTop (mkF m 9 #[oj p1, .second, oi 128] [(.int (lcmpW p1 (-128 : Int64)))])) (fun _ k => XS.lcmp X0.here hx rfl (hb hby d12_8) rfl k) ?_
  by_cases hc1 : p1 < (-128 : Int64)
  · --
    refine own_go (st' := s₁.setTop (mkF m 31 #[oj p1, .second, oi 128] [])) (fun _ k => XS.ifYes X0.here hx rfl (pc0 := 9) (pc' := 31) rfl (hb hby d12_9) rfl ((if0 _ _).trans (tlt ((lw_lt p1 (-128 : Int64)).mpr hc1)).1) (by decide) (by decide) k) ?_
    obtain ⟨T2, h2, X2, e2, E2, A2, D2, -, st2⟩ := newO X0 hx hZ hown (own_hw hw 79) (own_hw hw 80) (own_hw hw 75) e0 (g := (mkF m 31 #[oj p1, .second, oi 128] [])) rfl (hb hby d12_31) (by decide) (by decide)
    obtain ⟨b2, g2⟩ : ∃ z, z = h0.size := ⟨_, rfl⟩
    rw [← g2] at A2 D2 st2
    have sz2 : h0.size ≤ h2.size := E2.1
    have lt2 : @LT.lt Nat _ b2 h2.size := A2.lt
    have f3 : Fld Z h2 b2 oS4 "value" "J" (.long (0 : Int64)) := D2 (Or.inr (own_hw hw 93)) (ty := .long) (by decide)
    refine own_go (st' := T2.setTop (mkF m 34 #[oj p1, .second, oi 128] [(.ref b2)])) (st2) ?_
    refine own_go (st' := T2.setTop (mkF m 35 #[oj p1, .second, oi 128] [(.ref b2), (.ref b2)])) (fun _ k => XS.dup X2.here hx rfl (hb hby d12_34) rfl rfl k) ?_
    refine own_go (st' := T2.setTop (mkF m 36 #[oj p1, .second, oi 128] [(.long p1), (.ref b2), (.ref b2)])) (fun _ k => XS.lloadN X2.here hx rfl (hb hby d12_35) rfl k) ?_
    obtain ⟨_, _, ⟨T4, LC4, kC4, nC4⟩, -, X4, ⟨Lc4, hQ4, lq4, yq4, zq4⟩, st4⟩ := X2.specialBack hx (y := oM8) rfl hown (mvT hZ (own_hw hw 81)) (mvT hZ (own_hw hw 82)) (mvT hZ (own_hw hw 84)) (by decide) (backOf (W := 1) (rm13 l Z a0 hw [] b2 p1 (0 : Int64) h2 n0 (by omega) A2 f3 (by omega)) hZ (own_hw hw 84) (own_hw hw 75) (by decide) (by decide)) (g := (mkF m 36 #[oj p1, .second, oi 128] [(.long p1), (.ref b2), (.ref b2)])) rfl (by rw [hml]; rfl) (Steps.refl _) (a := b2) (argsL := [(.long p1)]) (rest := [(.ref b2)]) (lenOf pd_1 rfl) rfl (by show 2 * 0 + _ ≤ _; exact Nat.le_of_eq rfl) (hb hby d12_36) (fun _ _ => ⟨rfl, e2, (by decide : 1 + 0 ≤ _), (by decide : 1 + 0 ≤ _)⟩)
    dsimp only [Pt.U, Pt.locs, Pt.cells, Pt.slots] at X4 lq4 yq4 zq4 st4 hQ4
    subst lq4 yq4 zq4
    obtain ⟨h4, e4⟩ : ∃ z, T4.heap = z := ⟨_, rfl⟩
    rw [e4] at hQ4
    obtain ⟨rfl, Nq4, K4, g4_0, g4_1⟩ := hQ4
    have sz4 : h2.size ≤ h4.size := K4.1
    have N4 := Fr.app N0 Nq4
    have lt4_1 : @LT.lt Nat _ b2 h4.size := g4_0.lt
    refine own_go (st' := T4.setTop (mkF m 39 #[oj p1, .second, oi 128] [(.ref b2)])) (fun _ k => st4.trans k) ?_
    obtain ⟨fs, hr, hrun, hended, hW, hsame⟩ := X4.leave (v := some (.ref b2)) (fun h => by rw [Bd.returns] at h; cases h)
    refine ⟨_, _, ?_, hP _ _ hrun hended ⟨_, _, rfl, ?_, ⟨_, rfl⟩, hW, hsame.mono (by decide) (by decide)⟩⟩
    · exact retOut X4 hx Bd.returns rfl (Or.inr (Or.inr (Or.inr (Or.inr ⟨rfl, rfl, rfl⟩)))) (hb hby d12_39) hr
    · show Qrm12 Z p1 cal h0 n0 _ T4.heap _
      rw [e4]
      exact ⟨b2, rfl, N4, (((Keep.refl h0 []).ext E2).trans K4 (allS (P := fun x => x ∈ [] ∨ h0.size ≤ x) (Or.inr (by omega)) all0)), g4_0⟩
  · --
    refine own_go (st' := s₁.setTop (mkF m 12 #[oj p1, .second, oi 128] [])) (fun _ k => XS.ifNo X0.here hx rfl (hb hby d12_9) rfl ((if0 _ _).trans (flt (fun q_ => hc1 ((lw_lt p1 (-128 : Int64)).mp q_))).1) k) ?_
    refine own_go (st' := s₁.setTop (mkF m 13 #[oj p1, .second, oi 128] [(.long p1)])) (fun _ k => XS.lloadN X0.here hx rfl (hb hby d12_12) rfl k) ?_
    refine own_go (st' := s₁.setTop (mkF m 16 #[oj p1, .second, oi 128] [(.long (127 : Int64)), (.long p1)])) (X0.ldc2Long hx hown (mvT hZ (own_hw hw 78)) (g := (mkF m 13 #[oj p1, .second, oi 128] [(.long p1)])) rfl (hb hby d12_13)) ?_
    refine own_go (st' := s₁.setTop (mkF m 17 #[oj p1, .second, oi 128] [(.int (lcmpW p1 (127 : Int64)))])) (fun _ k => XS.lcmp X0.here hx rfl (hb hby d12_16) rfl k) ?_
    by_cases hc6 : (127 : Int64) < p1
    · --
      refine own_go (st' := s₁.setTop (mkF m 31 #[oj p1, .second, oi 128] [])) (fun _ k => XS.ifYes X0.here hx rfl (pc0 := 17) (pc' := 31) rfl (hb hby d12_17) rfl ((if0 _ _).trans (tlt ((lw_gt p1 (127 : Int64)).mpr hc6)).2.2.1) (by decide) (by decide) k) ?_
      obtain ⟨T7, h7, X7, e7, E7, A7, D7, -, st7⟩ := newO X0 hx hZ hown (own_hw hw 79) (own_hw hw 80) (own_hw hw 75) e0 (g := (mkF m 31 #[oj p1, .second, oi 128] [])) rfl (hb hby d12_31) (by decide) (by decide)
      obtain ⟨b7, g7⟩ : ∃ z, z = h0.size := ⟨_, rfl⟩
      rw [← g7] at A7 D7 st7
      have sz7 : h0.size ≤ h7.size := E7.1
      have lt7 : @LT.lt Nat _ b7 h7.size := A7.lt
      have f8 : Fld Z h7 b7 oS4 "value" "J" (.long (0 : Int64)) := D7 (Or.inr (own_hw hw 93)) (ty := .long) (by decide)
      refine own_go (st' := T7.setTop (mkF m 34 #[oj p1, .second, oi 128] [(.ref b7)])) (st7) ?_
      refine own_go (st' := T7.setTop (mkF m 35 #[oj p1, .second, oi 128] [(.ref b7), (.ref b7)])) (fun _ k => XS.dup X7.here hx rfl (hb hby d12_34) rfl rfl k) ?_
      refine own_go (st' := T7.setTop (mkF m 36 #[oj p1, .second, oi 128] [(.long p1), (.ref b7), (.ref b7)])) (fun _ k => XS.lloadN X7.here hx rfl (hb hby d12_35) rfl k) ?_
      obtain ⟨_, _, ⟨T9, LC9, kC9, nC9⟩, -, X9, ⟨Lc9, hQ9, lq9, yq9, zq9⟩, st9⟩ := X7.specialBack hx (y := oM8) rfl hown (mvT hZ (own_hw hw 81)) (mvT hZ (own_hw hw 82)) (mvT hZ (own_hw hw 84)) (by decide) (backOf (W := 1) (rm13 l Z a0 hw [] b7 p1 (0 : Int64) h7 n0 (by omega) A7 f8 (by omega)) hZ (own_hw hw 84) (own_hw hw 75) (by decide) (by decide)) (g := (mkF m 36 #[oj p1, .second, oi 128] [(.long p1), (.ref b7), (.ref b7)])) rfl (by rw [hml]; rfl) (Steps.refl _) (a := b7) (argsL := [(.long p1)]) (rest := [(.ref b7)]) (lenOf pd_1 rfl) rfl (by show 2 * 0 + _ ≤ _; exact Nat.le_of_eq rfl) (hb hby d12_36) (fun _ _ => ⟨rfl, e7, (by decide : 1 + 0 ≤ _), (by decide : 1 + 0 ≤ _)⟩)
      dsimp only [Pt.U, Pt.locs, Pt.cells, Pt.slots] at X9 lq9 yq9 zq9 st9 hQ9
      subst lq9 yq9 zq9
      obtain ⟨h9, e9⟩ : ∃ z, T9.heap = z := ⟨_, rfl⟩
      rw [e9] at hQ9
      obtain ⟨rfl, Nq9, K9, g9_0, g9_1⟩ := hQ9
      have sz9 : h7.size ≤ h9.size := K9.1
      have N9 := Fr.app N0 Nq9
      have lt9_1 : @LT.lt Nat _ b7 h9.size := g9_0.lt
      refine own_go (st' := T9.setTop (mkF m 39 #[oj p1, .second, oi 128] [(.ref b7)])) (fun _ k => st9.trans k) ?_
      obtain ⟨fs, hr, hrun, hended, hW, hsame⟩ := X9.leave (v := some (.ref b7)) (fun h => by rw [Bd.returns] at h; cases h)
      refine ⟨_, _, ?_, hP _ _ hrun hended ⟨_, _, rfl, ?_, ⟨_, rfl⟩, hW, hsame.mono (by decide) (by decide)⟩⟩
      · exact retOut X9 hx Bd.returns rfl (Or.inr (Or.inr (Or.inr (Or.inr ⟨rfl, rfl, rfl⟩)))) (hb hby d12_39) hr
      · show Qrm12 Z p1 cal h0 n0 _ T9.heap _
        rw [e9]
        exact ⟨b7, rfl, N9, (((Keep.refl h0 []).ext E7).trans K9 (allS (P := fun x => x ∈ [] ∨ h0.size ≤ x) (Or.inr (by omega)) all0)), g9_0⟩
    · --
      refine own_go (st' := s₁.setTop (mkF m 20 #[oj p1, .second, oi 128] [])) (fun _ k => XS.ifNo X0.here hx rfl (hb hby d12_17) rfl ((if0 _ _).trans (flt (fun q_ => hc6 ((lw_gt p1 (127 : Int64)).mp q_))).2.2.1) k) ?_
      obtain ⟨T11, X11, e11, st11⟩ := getS2 X0 hx hZ hown (host := "") (Or.inl (own_hw hw 106)) Via.refl e0 pr1 (g := (mkF m 20 #[oj p1, .second, oi 128] [])) rfl (hb hby d12_20)
      refine own_go (st' := T11.setTop (mkF m 23 #[oj p1, .second, oi 128] [(.ref cal)])) (st11) ?_
      refine own_go (st' := T11.setTop (mkF m 24 #[oj p1, .second, oi 128] [(.long p1), (.ref cal)])) (fun _ k => XS.lloadN X11.here hx rfl (hb hby d12_23) rfl k) ?_
      refine own_go (st' := T11.setTop (mkF m 25 #[oj p1, .second, oi 128] [(.int p1.toInt32), (.ref cal)])) (fun _ k => XS.l2i X11.here hx rfl (hb hby d12_24) rfl k) ?_
      refine own_go (st' := T11.setTop (mkF m 28 #[oj p1, .second, oi 128] [(.int (128 : Int32)), (.int p1.toInt32), (.ref cal)])) (fun _ k => XS.sipush X11.here hx rfl (hb hby d12_25) k) ?_
      refine own_go (st' := T11.setTop (mkF m 29 #[oj p1, .second, oi 128] [(.int (p1.toInt32 + (128 : Int32))), (.ref cal)])) (fun _ k => XS.iadd X11.here hx rfl (hb hby d12_28) rfl k) ?_
      obtain ⟨cl12, Ar12, S12, H12⟩ := id pr2
      have hi12 := own_idxL p1 hc1 hc6
      have hin12 : ¬ ((p1.toInt32 + (128 : Int32)) < 0 ∨ cl12.slots.size ≤ ((p1.toInt32 + (128 : Int32))).toNatClampNeg) := by rw [S12]; intro q; rcases q with q | q; exact hi12.1 q; exact absurd hi12.2 (Nat.not_lt.mpr q)
      obtain ⟨r12, hat12, Er12⟩ := H12 _ hi12.2
      have ltr12 : @LT.lt Nat _ r12 h0.size := Er12.lt
      refine own_go (st' := T11.setTop (mkF m 30 #[oj p1, .second, oi 128] [(.ref r12)])) (X11.aaload hx (j := (p1.toInt32 + (128 : Int32))) (v := .ref r12) (by rw [e11]; exact Ar12.1) (State.isArrayOf_alike hZ.alike Ar12.2.1) rfl Ar12.2.2 hin12 hat12 (g := (mkF m 29 #[oj p1, .second, oi 128] [(.int (p1.toInt32 + (128 : Int32))), (.ref cal)])) rfl rfl (hb hby d12_29)) ?_
      obtain ⟨fs, hr, hrun, hended, hW, hsame⟩ := X11.leave (v := some (.ref r12)) (fun h => by rw [Bd.returns] at h; cases h)
      refine ⟨_, _, ?_, hP _ _ hrun hended ⟨_, _, rfl, ?_, ⟨_, rfl⟩, hW, hsame.mono (by decide) (by decide)⟩⟩
      · exact retOut X11 hx Bd.returns rfl (Or.inr (Or.inr (Or.inr (Or.inr ⟨rfl, rfl, rfl⟩)))) (hb hby d12_30) hr
      · show Qrm12 Z p1 cal h0 n0 _ T11.heap _
        rw [e11]
        exact ⟨r12, rfl, N0, (Keep.refl h0 []), Er12⟩
theorem d16_0 : decode jdk_52_method_21_code 0 = .ok (.iconst 0, 1) := by decide +kernel
theorem d16_1 : decode jdk_52_method_21_code 1 = .ok (.istore 5, 2) := by decide +kernel
theorem d16_3 : decode jdk_52_method_21_code 3 = .ok (.iload 5, 2) := by decide +kernel
theorem d16_5 : decode jdk_52_method_21_code 5 = .ok (.iload 4, 2) := by decide +kernel
theorem d16_7 : decode jdk_52_method_21_code 7 = .ok (.if_icmp .ge 37, 3) := by decide +kernel
theorem d16_10 : decode jdk_52_method_21_code 10 = .ok (.aload_n 0, 1) := by decide +kernel
theorem d16_11 : decode jdk_52_method_21_code 11 = .ok (.iload_n 1, 1) := by decide +kernel
theorem d16_12 : decode jdk_52_method_21_code 12 = .ok (.caload, 1) := by decide +kernel
theorem d16_13 : decode jdk_52_method_21_code 13 = .ok (.istore 6, 2) := by decide +kernel
theorem d16_15 : decode jdk_52_method_21_code 15 = .ok (.iload 6, 2) := by decide +kernel
theorem d16_17 : decode jdk_52_method_21_code 17 = .ok (.sipush 255, 3) := by decide +kernel
theorem d16_20 : decode jdk_52_method_21_code 20 = .ok (.if_icmp .le 6, 3) := by decide +kernel
theorem d16_26 : decode jdk_52_method_21_code 26 = .ok (.aload_n 2, 1) := by decide +kernel
theorem d16_27 : decode jdk_52_method_21_code 27 = .ok (.iload_n 3, 1) := by decide +kernel
theorem d16_28 : decode jdk_52_method_21_code 28 = .ok (.iload 6, 2) := by decide +kernel
theorem d16_30 : decode jdk_52_method_21_code 30 = .ok (.i2b, 1) := by decide +kernel
theorem d16_31 : decode jdk_52_method_21_code 31 = .ok (.bastore, 1) := by decide +kernel
theorem d16_32 : decode jdk_52_method_21_code 32 = .ok (.iinc 1 1, 3) := by decide +kernel
theorem d16_35 : decode jdk_52_method_21_code 35 = .ok (.iinc 3 1, 3) := by decide +kernel
theorem d16_38 : decode jdk_52_method_21_code 38 = .ok (.iinc 5 1, 3) := by decide +kernel
theorem d16_41 : decode jdk_52_method_21_code 41 = .ok (.goto (-38), 3) := by decide +kernel
theorem d16_44 : decode jdk_52_method_21_code 44 = .ok (.iload 4, 2) := by decide +kernel
theorem d16_46 : decode jdk_52_method_21_code 46 = .ok (.ireturn, 1) := by decide +kernel
theorem pn_16 : plainName "java/lang/StringUTF16" = true := by first | (simp [plainName, overriddenIn]; done) | decide +kernel
theorem ef_rcp_1 (m : MethodId) (x0 : Addr) (x1 : Int32) (x2 : Addr) (x3 : Int32) (x4 : Int32) : entryFrame m #[(.ref x0), (.int x1), (.ref x2), (.int x3), (.int x4)] 7 = mkF m 0 #[.val (.ref x0), .val (.int x1), .val (.ref x2), .val (.int x3), .val (.int x4), .unset, .unset] [] := by first | (simp [entryFrame, mkF, argsToLocals, Value.category]; done) | rfl
def Qrcp_1 (Z : State) (ax : Addr) (ka : ClassId) (ay : Addr) (kb : ClassId) (u0 : Int32) (h0 : Heap) (n0 : Nat) (v : Option Value) (h : Heap) (L : List Loc) : Prop := (v = some (.int (1 : Int32))) ∧ (Fr n0 L) ∧ (Keep h0 h [ay]) ∧ (Arv Z h ay kb .byte (1 : Int32) [(.int (own_by u0))] (.int (0 : Int32)))
set_option maxRecDepth 65536 in
set_option maxHeartbeats 40000000 in
theorem rcp_1 (l : Launch) (Z : State) (a0 : Array Value) (hw : ∀ d ∈ tables_1, d.before a0 Z = true) (ws : List Jvm.Cond) (ax : Addr) (ka : ClassId) (ay : Addr) (kb : ClassId) (u0 : Int32) (h0 : Heap) (n0 : Nat) (Z0 : n0 ≤ h0.size) (pr1 : Arv Z h0 ax ka .char (1 : Int32) [(.int u0)] (.int (0 : Int32))) (pr2 : Arv Z h0 ay kb .byte (1 : Int32) [(.int (0 : Int32))] (.int (0 : Int32))) (pr3 : n0 ≤ ay) (pr4 : @Ne Nat ax ay) (hl_u0 : own_lat u0) :
    MetFree l oM5 (head1 (Jvm.Cond.code oM5 jdk_52_method_21_code 7 (some .int) :: ws) ({ frames := 0, cells := 0, slots := 0, locals := 0 } : Room)) (fun a U => a = #[(.ref ax), (.int (0 : Int32)), (.ref ay), (.int (0 : Int32)), (.int (1 : Int32))] ∧ Z.Warmed39 U.vm ∧ U.heap = h0) (fun _ _ _ _ _ => True) (fun _ U o U' => ∃ v L, o = .returned v ∧ Qrcp_1 Z ax ka ay kb u0 h0 n0 v U'.heap L ∧ FrameEnd U o U' L ({ frames := 0, cells := 0, slots := 0, locals := 0 } : Room).cells ({ frames := 0, cells := 0, slots := 0, locals := 0 } : Room).slots) := by
  refine MetFree.of_bodySF (plainFor_of_name pn_16) hisR ?_
  intro p e s m args below meth c s₁ Bd hml0 hP0 hK
  obtain ⟨rfl, hZ, hh⟩ := hP0
  have hx := Bd.exec
  have hby := Bd.bytes
  have hml : c.maxLocals = 7 := hml0
  have hown : s.vm.findClass oS7 = some m.cls := findClass_of_methodNamed Bd.named
  have hnm := (name_of_methodNamed Bd.named Bd.method).1
  have X0 : Stand p l e ({ frames := 0, cells := 0, slots := 0, locals := 0 } : Room) s m #[(.ref ax), (.int (0 : Int32)), (.ref ay), (.int (0 : Int32)), (.int (1 : Int32))] below meth c s₁ [] 0 0 := Stand.of_body Bd
  have e0 : s₁.heap = h0 := by rw [← hh, Bd.state]; rfl
  have N0 := Fr.nil n0
  suffices own_H : ∀ (P : State → Outcome → Prop), (∀ U o, U.status = .running → Ended U below o → (∃ v L, o = .returned v ∧ Qrcp_1 Z ax ka ay kb u0 h0 n0 v U.heap L ∧ FrameEnd s o U L ({ frames := 0, cells := 0, slots := 0, locals := 0 } : Room).cells ({ frames := 0, cells := 0, slots := 0, locals := 0 } : Room).slots) → P U o) → own_Go p.tables e below P (s₁.setTop (mkF m 0 #[oR ax, oi 0, oR ay, oi 0, oi 1, .unset, .unset] [])) from own_go (fun _ k => castTop (ef_rcp_1 m ax (0 : Int32) ay (0 : Int32) (1 : Int32)) k) (own_H _ (fun U o h1 h2 h3 => ⟨h1, h2, h3⟩))
  intro P hP
  have lt_ax : @LT.lt Nat _ ax h0.size := pr1.lt
  have lt_ay : @LT.lt Nat _ ay h0.size := pr2.lt
  refine own_go (st' := s₁.setTop (mkF m 1 #[oR ax, oi 0, oR ay, oi 0, oi 1, .unset, .unset] [(.int (0 : Int32))])) (fun _ k => XS.iconst X0.here hx rfl (hb hby d16_0) k) ?_
  refine own_go (st' := s₁.setTop (mkF m 3 #[oR ax, oi 0, oR ay, oi 0, oi 1, oi 0, .unset] [])) (fun _ k => XS.istore X0.here hx rfl (hb hby d16_1) rfl (l' := #[oR ax, oi 0, oR ay, oi 0, oi 1, oi 0, .unset]) rfl k) ?_
  refine own_go (st' := s₁.setTop (mkF m 5 #[oR ax, oi 0, oR ay, oi 0, oi 1, oi 0, .unset] [(.int (0 : Int32))])) (fun _ k => XS.iload X0.here hx rfl (hb hby d16_3) rfl k) ?_
  refine own_go (st' := s₁.setTop (mkF m 7 #[oR ax, oi 0, oR ay, oi 0, oi 1, oi 0, .unset] [(.int (1 : Int32)), (.int (0 : Int32))])) (fun _ k => XS.iload X0.here hx rfl (hb hby d16_5) rfl k) ?_
  have hc1 : (0 : Int32) < (1 : Int32) := by decide
  refine own_go (st' := s₁.setTop (mkF m 10 #[oR ax, oi 0, oR ay, oi 0, oi 1, oi 0, .unset] [])) (fun _ k => XS.icmpNo X0.here hx rfl (hb hby d16_7) rfl (tlt hc1).2.1 k) ?_
  refine own_go (st' := s₁.setTop (mkF m 11 #[oR ax, oi 0, oR ay, oi 0, oi 1, oi 0, .unset] [(.ref ax)])) (fun _ k => XS.aloadN X0.here hx rfl (hb hby d16_10) rfl rfl k) ?_
  refine own_go (st' := s₁.setTop (mkF m 12 #[oR ax, oi 0, oR ay, oi 0, oi 1, oi 0, .unset] [(.int (0 : Int32)), (.ref ax)])) (fun _ k => XS.iloadN X0.here hx rfl (hb hby d16_11) rfl k) ?_
  obtain ⟨cl2, Ar2, -, S2, M2, H2, -⟩ := id pr1
  have hin2 : ¬ ((0 : Int32) < 0 ∨ cl2.slots.size ≤ ((0 : Int32)).toNatClampNeg) := (inb_of S2 ⟨by decide, by decide⟩)
  have hat2 : cl2.slots[((0 : Int32)).toNatClampNeg]? = some (.int u0) := (H2.at hin2 rfl)
  refine own_go (st' := s₁.setTop (mkF m 13 #[oR ax, oi 0, oR ay, oi 0, oi 1, oi 0, .unset] [(.int u0)])) (X0.caload hx (j := (0 : Int32)) (v := (.int u0)) (by rw [e0]; exact Ar2.1) (State.isArrayOf_alike hZ.alike Ar2.2.1) Ar2.2.2 hin2 hat2 (g := (mkF m 12 #[oR ax, oi 0, oR ay, oi 0, oi 1, oi 0, .unset] [(.int (0 : Int32)), (.ref ax)])) rfl rfl (hb hby d16_12)) ?_
  refine own_go (st' := s₁.setTop (mkF m 15 #[oR ax, oi 0, oR ay, oi 0, oi 1, oi 0, oi u0] [])) (fun _ k => XS.istore X0.here hx rfl (hb hby d16_13) rfl (l' := #[oR ax, oi 0, oR ay, oi 0, oi 1, oi 0, oi u0]) rfl k) ?_
  refine own_go (st' := s₁.setTop (mkF m 17 #[oR ax, oi 0, oR ay, oi 0, oi 1, oi 0, oi u0] [(.int u0)])) (fun _ k => XS.iload X0.here hx rfl (hb hby d16_15) rfl k) ?_
  refine own_go (st' := s₁.setTop (mkF m 20 #[oR ax, oi 0, oR ay, oi 0, oi 1, oi 0, oi u0] [(.int (255 : Int32)), (.int u0)])) (fun _ k => XS.sipush X0.here hx rfl (hb hby d16_17) k) ?_
  have hc3 : ¬ ((255 : Int32) < u0) := (own_lat_le hl_u0)
  refine own_go (st' := s₁.setTop (mkF m 26 #[oR ax, oi 0, oR ay, oi 0, oi 1, oi 0, oi u0] [])) (fun _ k => XS.icmpYes X0.here hx rfl (pc0 := 20) (pc' := 26) rfl (hb hby d16_20) rfl (flt hc3).2.2.2 (by decide) (by decide) k) ?_
  refine own_go (st' := s₁.setTop (mkF m 27 #[oR ax, oi 0, oR ay, oi 0, oi 1, oi 0, oi u0] [(.ref ay)])) (fun _ k => XS.aloadN X0.here hx rfl (hb hby d16_26) rfl rfl k) ?_
  refine own_go (st' := s₁.setTop (mkF m 28 #[oR ax, oi 0, oR ay, oi 0, oi 1, oi 0, oi u0] [(.int (0 : Int32)), (.ref ay)])) (fun _ k => XS.iloadN X0.here hx rfl (hb hby d16_27) rfl k) ?_
  refine own_go (st' := s₁.setTop (mkF m 30 #[oR ax, oi 0, oR ay, oi 0, oi 1, oi 0, oi u0] [(.int u0), (.int (0 : Int32)), (.ref ay)])) (fun _ k => XS.iload X0.here hx rfl (hb hby d16_28) rfl k) ?_
  refine own_go (st' := s₁.setTop (mkF m 31 #[oR ax, oi 0, oR ay, oi 0, oi 1, oi 0, oi u0] [(.int u0.toInt8.toInt32), (.int (0 : Int32)), (.ref ay)])) (fun _ k => XS.i2b X0.here hx rfl (hb hby d16_30) rfl k) ?_
  obtain ⟨cl4, Ar4, qc4, S4, M4, H4, G4⟩ := id pr2
  have hin4 : ¬ ((0 : Int32) < 0 ∨ cl4.slots.size ≤ ((0 : Int32)).toNatClampNeg) := (inb_of S4 ⟨by decide, by decide⟩)
  obtain ⟨T4, h4, X4, e4, W4, st4⟩ := stB X0 hx hZ e0 Ar4 (j := (0 : Int32)) hin4 (g := (mkF m 31 #[oR ax, oi 0, oR ay, oi 0, oi 1, oi 0, oi u0] [(.int u0.toInt8.toInt32), (.int (0 : Int32)), (.ref ay)])) rfl rfl (hb hby d16_31)
  have sz4 : h4.size = h0.size := W4.size
  have N4 := Fr.snoc X4 N0 (by omega)
  have v4 : Arv Z h4 ay kb .byte (1 : Int32) [(.int (nar .byte u0.toInt8.toInt32))] (.int (0 : Int32)) := Arv.set Ar4 qc4 S4 M4 H4 G4 (fits_nar_byte _) W4 0 rfl (Nat.le_of_ble_eq_true rfl)
  refine own_go (st' := T4.setTop (mkF m 32 #[oR ax, oi 0, oR ay, oi 0, oi 1, oi 0, oi u0] [])) (st4) ?_
  refine own_go (st' := T4.setTop (mkF m 35 #[oR ax, oi 1, oR ay, oi 0, oi 1, oi 0, oi u0] [])) (fun _ k => XS.iinc X4.here hx rfl (hb hby d16_32) rfl (l' := #[oR ax, oi 1, oR ay, oi 0, oi 1, oi 0, oi u0]) (by rw [show ((0 : Int32) + Int32.ofInt 1) = (1 : Int32) by decide]; rfl) k) ?_
  refine own_go (st' := T4.setTop (mkF m 38 #[oR ax, oi 1, oR ay, oi 1, oi 1, oi 0, oi u0] [])) (fun _ k => XS.iinc X4.here hx rfl (hb hby d16_35) rfl (l' := #[oR ax, oi 1, oR ay, oi 1, oi 1, oi 0, oi u0]) (by rw [show ((0 : Int32) + Int32.ofInt 1) = (1 : Int32) by decide]; rfl) k) ?_
  refine own_go (st' := T4.setTop (mkF m 41 #[oR ax, oi 1, oR ay, oi 1, oi 1, oi 1, oi u0] [])) (fun _ k => XS.iinc X4.here hx rfl (hb hby d16_38) rfl (l' := #[oR ax, oi 1, oR ay, oi 1, oi 1, oi 1, oi u0]) (by rw [show ((0 : Int32) + Int32.ofInt 1) = (1 : Int32) by decide]; rfl) k) ?_
  refine own_go (st' := T4.setTop (mkF m 3 #[oR ax, oi 1, oR ay, oi 1, oi 1, oi 1, oi u0] [])) (fun _ k => XS.goto X4.here hx rfl (pc0 := 41) (pc' := 3) rfl (hb hby d16_41) (by decide) (by decide) k) ?_
  refine own_go (st' := T4.setTop (mkF m 5 #[oR ax, oi 1, oR ay, oi 1, oi 1, oi 1, oi u0] [(.int (1 : Int32))])) (fun _ k => XS.iload X4.here hx rfl (hb hby d16_3) rfl k) ?_
  refine own_go (st' := T4.setTop (mkF m 7 #[oR ax, oi 1, oR ay, oi 1, oi 1, oi 1, oi u0] [(.int (1 : Int32)), (.int (1 : Int32))])) (fun _ k => XS.iload X4.here hx rfl (hb hby d16_5) rfl k) ?_
  have hc5 : ¬ ((1 : Int32) < (1 : Int32)) := by decide
  refine own_go (st' := T4.setTop (mkF m 44 #[oR ax, oi 1, oR ay, oi 1, oi 1, oi 1, oi u0] [])) (fun _ k => XS.icmpYes X4.here hx rfl (pc0 := 7) (pc' := 44) rfl (hb hby d16_7) rfl (flt hc5).2.1 (by decide) (by decide) k) ?_
  refine own_go (st' := T4.setTop (mkF m 46 #[oR ax, oi 1, oR ay, oi 1, oi 1, oi 1, oi u0] [(.int (1 : Int32))])) (fun _ k => XS.iload X4.here hx rfl (hb hby d16_44) rfl k) ?_
  obtain ⟨fs, hr, hrun, hended, hW, hsame⟩ := X4.leave (v := some (.int (1 : Int32))) (fun h => by rw [Bd.returns] at h; cases h)
  refine ⟨_, _, ?_, hP _ _ hrun hended ⟨_, _, rfl, ?_, ⟨_, rfl⟩, hW, hsame.mono (by decide) (by decide)⟩⟩
  · exact retOut X4 hx Bd.returns rfl (Or.inl ⟨rfl, Or.inl rfl, _, rfl⟩) (hb hby d16_46) hr
  · show Qrcp_1 Z ax ka ay kb u0 h0 n0 _ T4.heap _
    rw [e4]
    exact ⟨rfl, N4, ((Keep.refl h0 [ay]).wr W4 (Or.inl (List.mem_of_getElem? (i := 0) rfl))), v4⟩
theorem pd_2 : parseMethodDescriptor "([CI[BII)I" = some ⟨[(.array .char), .int, (.array .byte), .int, .int], some .int⟩ := by decide +kernel
theorem d15_0 : decode jdk_52_method_16_code 0 = .ok (.iload_n 2, 1) := by decide +kernel
theorem d15_1 : decode jdk_52_method_16_code 1 = .ok (.newarray .byte, 2) := by decide +kernel
theorem d15_3 : decode jdk_52_method_16_code 3 = .ok (.astore_n 3, 1) := by decide +kernel
theorem d15_4 : decode jdk_52_method_16_code 4 = .ok (.aload_n 0, 1) := by decide +kernel
theorem d15_5 : decode jdk_52_method_16_code 5 = .ok (.iload_n 1, 1) := by decide +kernel
theorem d15_6 : decode jdk_52_method_16_code 6 = .ok (.aload_n 3, 1) := by decide +kernel
theorem d15_7 : decode jdk_52_method_16_code 7 = .ok (.iconst 0, 1) := by decide +kernel
theorem d15_8 : decode jdk_52_method_16_code 8 = .ok (.iload_n 2, 1) := by decide +kernel
theorem d15_9 : decode jdk_52_method_16_code 9 = .ok (.invokestatic 115, 3) := by decide +kernel
theorem d15_12 : decode jdk_52_method_16_code 12 = .ok (.istore 4, 2) := by decide +kernel
theorem d15_14 : decode jdk_52_method_16_code 14 = .ok (.iload 4, 2) := by decide +kernel
theorem d15_16 : decode jdk_52_method_16_code 16 = .ok (.iload_n 2, 1) := by decide +kernel
theorem d15_17 : decode jdk_52_method_16_code 17 = .ok (.if_icmp .eq 40, 3) := by decide +kernel
theorem d15_57 : decode jdk_52_method_16_code 57 = .ok (.aload_n 3, 1) := by decide +kernel
theorem d15_58 : decode jdk_52_method_16_code 58 = .ok (.areturn, 1) := by decide +kernel
theorem pn_15 : plainName "java/lang/StringUTF16" = true := by first | (simp [plainName, overriddenIn]; done) | decide +kernel
theorem ef_rcq_1 (m : MethodId) (x0 : Addr) (x1 : Int32) (x2 : Int32) : entryFrame m #[(.ref x0), (.int x1), (.int x2)] 6 = mkF m 0 #[.val (.ref x0), .val (.int x1), .val (.int x2), .unset, .unset, .unset] [] := by first | (simp [entryFrame, mkF, argsToLocals, Value.category]; done) | rfl
def Qrcq_1 (Z : State) (ax : Addr) (ka : ClassId) (u0 : Int32) (h0 : Heap) (n0 : Nat) (v : Option Value) (h : Heap) (L : List Loc) : Prop := ∃ (r : Addr) (kr : ClassId), (v = some (.ref r)) ∧ (Fr n0 L) ∧ (Keep h0 h []) ∧ (Arv Z h r kr .byte (1 : Int32) [(.int (own_by u0))] (.int (0 : Int32))) ∧ (h0.size ≤ r)
set_option maxRecDepth 65536 in
set_option maxHeartbeats 40000000 in
theorem rcq_1 (l : Launch) (Z : State) (a0 : Array Value) (hw : ∀ d ∈ tables_1, d.before a0 Z = true) (ws : List Jvm.Cond) (ax : Addr) (ka : ClassId) (u0 : Int32) (h0 : Heap) (n0 : Nat) (Z0 : n0 ≤ h0.size) (pr1 : Arv Z h0 ax ka .char (1 : Int32) [(.int u0)] (.int (0 : Int32))) (hl_u0 : own_lat u0) :
    MetFree l oM6 (head1 (Jvm.Cond.code oM6 jdk_52_method_16_code 6 (some (.array .byte)) :: ws) ({ frames := 1, cells := 1, slots := 1, locals := 18 } : Room)) (fun a U => a = #[(.ref ax), (.int (0 : Int32)), (.int (1 : Int32))] ∧ Z.Warmed39 U.vm ∧ U.heap = h0) (fun _ _ _ _ _ => True) (fun _ U o U' => ∃ v L, o = .returned v ∧ Qrcq_1 Z ax ka u0 h0 n0 v U'.heap L ∧ FrameEnd U o U' L ({ frames := 1, cells := 1, slots := 1, locals := 18 } : Room).cells ({ frames := 1, cells := 1, slots := 1, locals := 18 } : Room).slots) := by
  refine MetFree.of_bodySF (plainFor_of_name pn_15) hisR ?_
  intro p e s m args below meth c s₁ Bd hml0 hP0 hK
  obtain ⟨rfl, hZ, hh⟩ := hP0
  have hx := Bd.exec
  have hby := Bd.bytes
  have hml : c.maxLocals = 6 := hml0
  have hown : s.vm.findClass oS7 = some m.cls := findClass_of_methodNamed Bd.named
  have hnm := (name_of_methodNamed Bd.named Bd.method).1
  have X0 : Stand p l e ({ frames := 1, cells := 1, slots := 1, locals := 18 } : Room) s m #[(.ref ax), (.int (0 : Int32)), (.int (1 : Int32))] below meth c s₁ [] 0 0 := Stand.of_body Bd
  have e0 : s₁.heap = h0 := by rw [← hh, Bd.state]; rfl
  have N0 := Fr.nil n0
  suffices own_H : ∀ (P : State → Outcome → Prop), (∀ U o, U.status = .running → Ended U below o → (∃ v L, o = .returned v ∧ Qrcq_1 Z ax ka u0 h0 n0 v U.heap L ∧ FrameEnd s o U L ({ frames := 1, cells := 1, slots := 1, locals := 18 } : Room).cells ({ frames := 1, cells := 1, slots := 1, locals := 18 } : Room).slots) → P U o) → own_Go p.tables e below P (s₁.setTop (mkF m 0 #[oR ax, oi 0, oi 1, .unset, .unset, .unset] [])) from own_go (fun _ k => castTop (ef_rcq_1 m ax (0 : Int32) (1 : Int32)) k) (own_H _ (fun U o h1 h2 h3 => ⟨h1, h2, h3⟩))
  intro P hP
  have lt_ax : @LT.lt Nat _ ax h0.size := pr1.lt
  refine own_go (st' := s₁.setTop (mkF m 1 #[oR ax, oi 0, oi 1, .unset, .unset, .unset] [(.int (1 : Int32))])) (fun _ k => XS.iloadN X0.here hx rfl (hb hby d15_0) rfl k) ?_
  obtain ⟨T1, h1, k1, X1, e1, E1, A1, st1⟩ := newP X0 hx hZ (own_hw hw 23) e0 (g := (mkF m 1 #[oR ax, oi 0, oi 1, .unset, .unset, .unset] [(.int (1 : Int32))])) rfl (hb hby d15_1) rfl (by decide) (cap := 1) (by decide) (by decide) (by decide) (by decide)
  obtain ⟨b1, g1⟩ : ∃ z, z = h0.size := ⟨_, rfl⟩
  rw [← g1] at A1 st1
  have sz1 : h0.size ≤ h1.size := E1.1
  have lt1 : @LT.lt Nat _ b1 h1.size := A1.lt
  have v1 : Arv Z h1 b1 k1 .byte (1 : Int32) [(.int (0 : Int32))] (.int (0 : Int32)) := (Arv.new A1 (by decide)).pad (pad_rep [] (.int (0 : Int32)) 1)
  refine own_go (st' := T1.setTop (mkF m 3 #[oR ax, oi 0, oi 1, .unset, .unset, .unset] [(.ref b1)])) (st1) ?_
  refine own_go (st' := T1.setTop (mkF m 4 #[oR ax, oi 0, oi 1, oR b1, .unset, .unset] [])) (fun _ k => XS.astoreN X1.here hx rfl (hb hby d15_3) rfl rfl (l' := #[oR ax, oi 0, oi 1, oR b1, .unset, .unset]) rfl k) ?_
  refine own_go (st' := T1.setTop (mkF m 5 #[oR ax, oi 0, oi 1, oR b1, .unset, .unset] [(.ref ax)])) (fun _ k => XS.aloadN X1.here hx rfl (hb hby d15_4) rfl rfl k) ?_
  refine own_go (st' := T1.setTop (mkF m 6 #[oR ax, oi 0, oi 1, oR b1, .unset, .unset] [(.int (0 : Int32)), (.ref ax)])) (fun _ k => XS.iloadN X1.here hx rfl (hb hby d15_5) rfl k) ?_
  refine own_go (st' := T1.setTop (mkF m 7 #[oR ax, oi 0, oi 1, oR b1, .unset, .unset] [(.ref b1), (.int (0 : Int32)), (.ref ax)])) (fun _ k => XS.aloadN X1.here hx rfl (hb hby d15_6) rfl rfl k) ?_
  refine own_go (st' := T1.setTop (mkF m 8 #[oR ax, oi 0, oi 1, oR b1, .unset, .unset] [(.int (0 : Int32)), (.ref b1), (.int (0 : Int32)), (.ref ax)])) (fun _ k => XS.iconst X1.here hx rfl (hb hby d15_7) k) ?_
  refine own_go (st' := T1.setTop (mkF m 9 #[oR ax, oi 0, oi 1, oR b1, .unset, .unset] [(.int (1 : Int32)), (.int (0 : Int32)), (.ref b1), (.int (0 : Int32)), (.ref ax)])) (fun _ k => XS.iloadN X1.here hx rfl (hb hby d15_8) rfl k) ?_
  have c3 : Arv Z h1 ax ka .char (1 : Int32) [(.int u0)] (.int (0 : Int32)) := (pr1.ext E1)
  obtain ⟨_, _, ⟨T2, LC2, kC2, nC2⟩, -, X2, ⟨Lc2, hQ2, lq2, yq2, zq2⟩, st2⟩ := Jvm.LawKit.callS X1 hx (y := oM5) hown (mvT hZ (own_hw hw 100)) (mvT hZ (own_hw hw 101)) (mvT hZ (own_hw hw 98)) (mvT hZ (own_hw hw 102)) (by decide) (backOf (W := 0) (rcp_1 l Z a0 hw [] ax ka b1 k1 u0 h1 n0 (by omega) c3 v1 (by omega) (own_ne (by omega)) hl_u0) hZ (own_hw hw 102) (own_hw hw 98) (by decide) (by decide)) (g := (mkF m 9 #[oR ax, oi 0, oi 1, oR b1, .unset, .unset] [(.int (1 : Int32)), (.int (0 : Int32)), (.ref b1), (.int (0 : Int32)), (.ref ax)])) rfl (by rw [hml]; rfl) (argsL := [(.ref ax), (.int (0 : Int32)), (.ref b1), (.int (0 : Int32)), (.int (1 : Int32))]) (rest := []) (lenOf pd_2 rfl) rfl (by show 2 * 0 + _ ≤ _; exact Nat.le_of_eq rfl) (hb hby d15_9) (fun _ _ => ⟨rfl, e1, (by decide : 1 + 0 ≤ _), (by decide : 1 + 0 ≤ _)⟩)
  dsimp only [Pt.U, Pt.locs, Pt.cells, Pt.slots] at X2 lq2 yq2 zq2 st2 hQ2
  subst lq2 yq2 zq2
  obtain ⟨h2, e2⟩ : ∃ z, T2.heap = z := ⟨_, rfl⟩
  rw [e2] at hQ2
  obtain ⟨rfl, Nq2, K2, g2_0⟩ := hQ2
  have sz2 : h1.size ≤ h2.size := K2.1
  have N2 := Fr.app N0 Nq2
  have lt2_1 : @LT.lt Nat _ b1 h2.size := g2_0.lt
  refine own_go (st' := T2.setTop (mkF m 12 #[oR ax, oi 0, oi 1, oR b1, .unset, .unset] [(.int (1 : Int32))])) (fun t k => st2 t k) ?_
  refine own_go (st' := T2.setTop (mkF m 14 #[oR ax, oi 0, oi 1, oR b1, oi 1, .unset] [])) (fun _ k => XS.istore X2.here hx rfl (hb hby d15_12) rfl (l' := #[oR ax, oi 0, oi 1, oR b1, oi 1, .unset]) rfl k) ?_
  refine own_go (st' := T2.setTop (mkF m 16 #[oR ax, oi 0, oi 1, oR b1, oi 1, .unset] [(.int (1 : Int32))])) (fun _ k => XS.iload X2.here hx rfl (hb hby d15_14) rfl k) ?_
  refine own_go (st' := T2.setTop (mkF m 17 #[oR ax, oi 0, oi 1, oR b1, oi 1, .unset] [(.int (1 : Int32)), (.int (1 : Int32))])) (fun _ k => XS.iloadN X2.here hx rfl (hb hby d15_16) rfl k) ?_
  have hc4 : (1 : Int32) = (1 : Int32) := by decide
  refine own_go (st' := T2.setTop (mkF m 57 #[oR ax, oi 0, oi 1, oR b1, oi 1, .unset] [])) (fun _ k => XS.icmpYes X2.here hx rfl (pc0 := 17) (pc' := 57) rfl (hb hby d15_17) rfl (teq hc4).1 (by decide) (by decide) k) ?_
  refine own_go (st' := T2.setTop (mkF m 58 #[oR ax, oi 0, oi 1, oR b1, oi 1, .unset] [(.ref b1)])) (fun _ k => XS.aloadN X2.here hx rfl (hb hby d15_57) rfl rfl k) ?_
  obtain ⟨fs, hr, hrun, hended, hW, hsame⟩ := X2.leave (v := some (.ref b1)) (fun h => by rw [Bd.returns] at h; cases h)
  refine ⟨_, _, ?_, hP _ _ hrun hended ⟨_, _, rfl, ?_, ⟨_, rfl⟩, hW, hsame.mono (by decide) (by decide)⟩⟩
  · exact retOut X2 hx Bd.returns rfl (Or.inr (Or.inr (Or.inr (Or.inr ⟨rfl, rfl, rfl⟩)))) (hb hby d15_58) hr
  · show Qrcq_1 Z ax ka u0 h0 n0 _ T2.heap _
    rw [e2]
    exact ⟨b1, k1, rfl, N2, (((Keep.refl h0 []).ext E1).trans K2 (allS (P := fun x => x ∈ [] ∨ h0.size ≤ x) (Or.inr (by omega)) all0)), g2_0, (by omega)⟩
theorem d17_0 : decode jdk_52_method_15_code 0 = .ok (.iload_n 1, 1) := by decide +kernel
theorem d17_1 : decode jdk_52_method_15_code 1 = .ok (.aload_n 0, 1) := by decide +kernel
theorem d17_2 : decode jdk_52_method_15_code 2 = .ok (.arraylength, 1) := by decide +kernel
theorem d17_3 : decode jdk_52_method_15_code 3 = .ok (.isub, 1) := by decide +kernel
theorem d17_4 : decode jdk_52_method_15_code 4 = .ok (.bipush 31, 2) := by decide +kernel
theorem d17_6 : decode jdk_52_method_15_code 6 = .ok (.iushr, 1) := by decide +kernel
theorem d17_7 : decode jdk_52_method_15_code 7 = .ok (.i2b, 1) := by decide +kernel
theorem d17_8 : decode jdk_52_method_15_code 8 = .ok (.ireturn, 1) := by decide +kernel
theorem pn_17 : plainName "java/lang/StringUTF16" = true := by first | (simp [plainName, overriddenIn]; done) | decide +kernel
theorem ef_rcd_1 (m : MethodId) (x0 : Addr) (x1 : Int32) : entryFrame m #[(.ref x0), (.int x1)] 2 = mkF m 0 #[.val (.ref x0), .val (.int x1)] [] := by first | (simp [entryFrame, mkF, argsToLocals, Value.category]; done) | rfl
def Qrcd_1 (Z : State) (ax : Addr) (ka : ClassId) (vs : List Value) (h0 : Heap) (n0 : Nat) (v : Option Value) (h : Heap) (L : List Loc) : Prop := (v = some (.int (0 : Int32))) ∧ (Fr n0 L) ∧ (h = h0)
set_option maxRecDepth 65536 in
set_option maxHeartbeats 40000000 in
theorem rcd_1 (l : Launch) (Z : State) (a0 : Array Value) (hw : ∀ d ∈ tables_1, d.before a0 Z = true) (ws : List Jvm.Cond) (ax : Addr) (ka : ClassId) (vs : List Value) (h0 : Heap) (n0 : Nat) (Z0 : n0 ≤ h0.size) (pr1 : Arv Z h0 ax ka .byte (1 : Int32) vs (.int (0 : Int32))) :
    MetFree l oM7 (head1 (Jvm.Cond.code oM7 jdk_52_method_15_code 2 (some .byte) :: ws) ({ frames := 0, cells := 0, slots := 0, locals := 0 } : Room)) (fun a U => a = #[(.ref ax), (.int (1 : Int32))] ∧ Z.Warmed39 U.vm ∧ U.heap = h0) (fun _ _ _ _ _ => True) (fun _ U o U' => ∃ v L, o = .returned v ∧ Qrcd_1 Z ax ka vs h0 n0 v U'.heap L ∧ FrameEnd U o U' L ({ frames := 0, cells := 0, slots := 0, locals := 0 } : Room).cells ({ frames := 0, cells := 0, slots := 0, locals := 0 } : Room).slots) := by
  refine MetFree.of_bodySF (plainFor_of_name pn_17) hisR ?_
  intro p e s m args below meth c s₁ Bd hml0 hP0 hK
  obtain ⟨rfl, hZ, hh⟩ := hP0
  have hx := Bd.exec
  have hby := Bd.bytes
  have hml : c.maxLocals = 2 := hml0
  have hown : s.vm.findClass oS7 = some m.cls := findClass_of_methodNamed Bd.named
  have hnm := (name_of_methodNamed Bd.named Bd.method).1
  have X0 : Stand p l e ({ frames := 0, cells := 0, slots := 0, locals := 0 } : Room) s m #[(.ref ax), (.int (1 : Int32))] below meth c s₁ [] 0 0 := Stand.of_body Bd
  have e0 : s₁.heap = h0 := by rw [← hh, Bd.state]; rfl
  have N0 := Fr.nil n0
  suffices own_H : ∀ (P : State → Outcome → Prop), (∀ U o, U.status = .running → Ended U below o → (∃ v L, o = .returned v ∧ Qrcd_1 Z ax ka vs h0 n0 v U.heap L ∧ FrameEnd s o U L ({ frames := 0, cells := 0, slots := 0, locals := 0 } : Room).cells ({ frames := 0, cells := 0, slots := 0, locals := 0 } : Room).slots) → P U o) → own_Go p.tables e below P (s₁.setTop (mkF m 0 #[oR ax, oi 1] [])) from own_go (fun _ k => castTop (ef_rcd_1 m ax (1 : Int32)) k) (own_H _ (fun U o h1 h2 h3 => ⟨h1, h2, h3⟩))
  intro P hP
  have lt_ax : @LT.lt Nat _ ax h0.size := pr1.lt
  refine own_go (st' := s₁.setTop (mkF m 1 #[oR ax, oi 1] [(.int (1 : Int32))])) (fun _ k => XS.iloadN X0.here hx rfl (hb hby d17_0) rfl k) ?_
  refine own_go (st' := s₁.setTop (mkF m 2 #[oR ax, oi 1] [(.ref ax), (.int (1 : Int32))])) (fun _ k => XS.aloadN X0.here hx rfl (hb hby d17_1) rfl rfl k) ?_
  obtain ⟨cl1, Ar1, -, S1, M1, -, -⟩ := id pr1
  refine own_go (st' := s₁.setTop (mkF m 3 #[oR ax, oi 1] [(.int (1 : Int32)), (.int (1 : Int32))])) (fun t k => X0.arraylength hx (by rw [e0]; exact Ar1.1) (State.isArrayOf_alike hZ.alike Ar1.2.1) (g := (mkF m 2 #[oR ax, oi 1] [(.ref ax), (.int (1 : Int32))])) rfl rfl (hb hby d17_2) t (by rw [len_of S1 M1]; exact k)) ?_
  refine own_go (st' := s₁.setTop (mkF m 4 #[oR ax, oi 1] [(.int (0 : Int32))])) (fun _ k => XS.isub X0.here hx rfl (hb hby d17_3) rfl (by rw [show ((1 : Int32) - (1 : Int32)) = (0 : Int32) by decide]; exact k)) ?_
  refine own_go (st' := s₁.setTop (mkF m 6 #[oR ax, oi 1] [(.int (31 : Int32)), (.int (0 : Int32))])) (fun _ k => XS.bipush X0.here hx rfl (hb hby d17_4) k) ?_
  refine own_go (st' := s₁.setTop (mkF m 7 #[oR ax, oi 1] [(.int (((0 : Int32).toUInt32 >>> ((31 : Int32) &&& 31).toUInt32).toInt32))])) (fun _ k => XS.iushr X0.here hx rfl (hb hby d17_6) rfl k) ?_
  refine own_go (st' := s₁.setTop (mkF m 8 #[oR ax, oi 1] [(.int (((0 : Int32).toUInt32 >>> ((31 : Int32) &&& 31).toUInt32).toInt32).toInt8.toInt32)])) (fun _ k => XS.i2b X0.here hx rfl (hb hby d17_7) rfl k) ?_
  obtain ⟨fs, hr, hrun, hended, hW, hsame⟩ := X0.leave (v := some (.int (nar .byte (((0 : Int32).toUInt32 >>> ((31 : Int32) &&& 31).toUInt32).toInt32).toInt8.toInt32))) (fun h => by rw [Bd.returns] at h; cases h)
  refine ⟨_, _, ?_, hP _ _ hrun hended ⟨_, _, rfl, ?_, ⟨_, rfl⟩, hW, hsame.mono (by decide) (by decide)⟩⟩
  · exact retN X0 hx (t := .byte) Bd.returns (by simp) (hb hby d17_8) hr
  · show Qrcd_1 Z ax ka vs h0 n0 _ s₁.heap _
    rw [e0]
    exact ⟨(congrArg (fun z => some (Value.int z)) (by decide +kernel)), N0, rfl⟩
theorem pd_3 : parseMethodDescriptor "([CII)[B" = some ⟨[(.array .char), .int, .int], some (.array .byte)⟩ := by decide +kernel
theorem pd_4 : parseMethodDescriptor "([BI)B" = some ⟨[(.array .byte), .int], some .byte⟩ := by decide +kernel
theorem d3_0 : decode jdk_42_method_149_code 0 = .ok (.aload_n 0, 1) := by decide +kernel
theorem d3_1 : decode jdk_42_method_149_code 1 = .ok (.invokespecial 1, 3) := by decide +kernel
theorem d3_4 : decode jdk_42_method_149_code 4 = .ok (.iload_n 3, 1) := by decide +kernel
theorem d3_5 : decode jdk_42_method_149_code 5 = .ok (.ifCond .ne 22, 3) := by decide +kernel
theorem d3_27 : decode jdk_42_method_149_code 27 = .ok (.getstatic 38, 3) := by decide +kernel
theorem d3_30 : decode jdk_42_method_149_code 30 = .ok (.ifCond .eq 28, 3) := by decide +kernel
theorem d3_33 : decode jdk_42_method_149_code 33 = .ok (.aload_n 1, 1) := by decide +kernel
theorem d3_34 : decode jdk_42_method_149_code 34 = .ok (.iload_n 2, 1) := by decide +kernel
theorem d3_35 : decode jdk_42_method_149_code 35 = .ok (.iload_n 3, 1) := by decide +kernel
theorem d3_36 : decode jdk_42_method_149_code 36 = .ok (.invokestatic 177, 3) := by decide +kernel
theorem d3_39 : decode jdk_42_method_149_code 39 = .ok (.astore 5, 2) := by decide +kernel
theorem d3_41 : decode jdk_42_method_149_code 41 = .ok (.aload_n 0, 1) := by decide +kernel
theorem d3_42 : decode jdk_42_method_149_code 42 = .ok (.aload 5, 2) := by decide +kernel
theorem d3_44 : decode jdk_42_method_149_code 44 = .ok (.iload_n 3, 1) := by decide +kernel
theorem d3_45 : decode jdk_42_method_149_code 45 = .ok (.invokestatic 47, 3) := by decide +kernel
theorem d3_48 : decode jdk_42_method_149_code 48 = .ok (.putfield 15, 3) := by decide +kernel
theorem d3_51 : decode jdk_42_method_149_code 51 = .ok (.aload_n 0, 1) := by decide +kernel
theorem d3_52 : decode jdk_42_method_149_code 52 = .ok (.aload 5, 2) := by decide +kernel
theorem d3_54 : decode jdk_42_method_149_code 54 = .ok (.putfield 9, 3) := by decide +kernel
theorem d3_57 : decode jdk_42_method_149_code 57 = .ok (.return_, 1) := by decide +kernel
theorem pn_3 : plainName "java/lang/String" = true := by first | (simp [plainName, overriddenIn]; done) | decide +kernel
theorem ef_rsi_1 (m : MethodId) (x0 : Addr) (x1 : Addr) (x2 : Int32) (x3 : Int32) : entryFrame m #[(.ref x0), (.ref x1), (.int x2), (.int x3), .null] 6 = mkF m 0 #[.val (.ref x0), .val (.ref x1), .val (.int x2), .val (.int x3), .val .null, .unset] [] := by first | (simp [entryFrame, mkF, argsToLocals, Value.category]; done) | rfl
def Qrsi_1 (Z : State) (a1 : Addr) (ax : Addr) (ka : ClassId) (zc : Int32) (u0 : Int32) (h0 : Heap) (n0 : Nat) (v : Option Value) (h : Heap) (L : List Loc) : Prop := ∃ (r : Addr) (kr : ClassId), (v = none) ∧ (Fr n0 L) ∧ (Keep h0 h [a1]) ∧ (Exa Z h a1 "java/lang/String") ∧ (Fld Z h a1 "java/lang/String" "value" "[B" (.ref r)) ∧ (Fld Z h a1 "java/lang/String" "coder" "B" (.int (0 : Int32))) ∧ (Arv Z h r kr .byte (1 : Int32) [(.int (own_by u0))] (.int (0 : Int32))) ∧ (h0.size ≤ r)
set_option maxRecDepth 65536 in
set_option maxHeartbeats 40000000 in
theorem rsi_1 (l : Launch) (Z : State) (a0 : Array Value) (hw : ∀ d ∈ tables_1, d.before a0 Z = true) (ws : List Jvm.Cond) (a1 : Addr) (ax : Addr) (ka : ClassId) (zc : Int32) (u0 : Int32) (h0 : Heap) (n0 : Nat) (Z0 : n0 ≤ h0.size) (pr1 : Exa Z h0 a1 oS0) (pr2 : Fld Z h0 a1 oS0 "value" "[B" .null) (pr3 : Fld Z h0 a1 oS0 "coder" "B" (.int (0 : Int32))) (pr4 : Arv Z h0 ax ka .char (1 : Int32) [(.int u0)] (.int (0 : Int32))) (pr5 : Sta Z h0 oS0 oS2 "Z" (.int zc)) (hzc : ¬ zc = (0 : Int32)) (hl_u0 : own_lat u0) (pr6 : n0 ≤ a1) (pr7 : @Ne Nat a1 ax) :
    MetFree l oM2 (head1 (Jvm.Cond.code oM2 jdk_42_method_149_code 6 none :: ws) ({ frames := 2, cells := 1, slots := 1, locals := 35 } : Room)) (fun a U => a = #[(.ref a1), (.ref ax), (.int (0 : Int32)), (.int (1 : Int32)), .null] ∧ Z.Warmed39 U.vm ∧ U.heap = h0) (fun _ _ _ _ _ => True) (fun _ U o U' => ∃ v L, o = .returned v ∧ Qrsi_1 Z a1 ax ka zc u0 h0 n0 v U'.heap L ∧ FrameEnd U o U' L ({ frames := 2, cells := 1, slots := 1, locals := 35 } : Room).cells ({ frames := 2, cells := 1, slots := 1, locals := 35 } : Room).slots) := by
  refine MetFree.of_bodySF (plainFor_of_name pn_3) hisR ?_
  intro p e s m args below meth c s₁ Bd hml0 hP0 hK
  obtain ⟨rfl, hZ, hh⟩ := hP0
  have hx := Bd.exec
  have hby := Bd.bytes
  have hml : c.maxLocals = 6 := hml0
  have hown : s.vm.findClass oS0 = some m.cls := findClass_of_methodNamed Bd.named
  have hnm := (name_of_methodNamed Bd.named Bd.method).1
  have X0 : Stand p l e ({ frames := 2, cells := 1, slots := 1, locals := 35 } : Room) s m #[(.ref a1), (.ref ax), (.int (0 : Int32)), (.int (1 : Int32)), .null] below meth c s₁ [] 0 0 := Stand.of_body Bd
  have e0 : s₁.heap = h0 := by rw [← hh, Bd.state]; rfl
  have N0 := Fr.nil n0
  suffices own_H : ∀ (P : State → Outcome → Prop), (∀ U o, U.status = .running → Ended U below o → (∃ v L, o = .returned v ∧ Qrsi_1 Z a1 ax ka zc u0 h0 n0 v U.heap L ∧ FrameEnd s o U L ({ frames := 2, cells := 1, slots := 1, locals := 35 } : Room).cells ({ frames := 2, cells := 1, slots := 1, locals := 35 } : Room).slots) → P U o) → own_Go p.tables e below P (s₁.setTop (mkF m 0 #[oR a1, oR ax, oi 0, oi 1, .val .null, .unset] [])) from own_go (fun _ k => castTop (ef_rsi_1 m a1 ax (0 : Int32) (1 : Int32)) k) (own_H _ (fun U o h1 h2 h3 => ⟨h1, h2, h3⟩))
  intro P hP
  have lt_a1 : @LT.lt Nat _ a1 h0.size := pr1.lt
  have lt_ax : @LT.lt Nat _ ax h0.size := pr4.lt
  refine own_go (st' := s₁.setTop (mkF m 1 #[oR a1, oR ax, oi 0, oi 1, .val .null, .unset] [(.ref a1)])) (fun _ k => XS.aloadN X0.here hx rfl (hb hby d3_0) rfl rfl k) ?_
  obtain ⟨T1, X1, e1, st1⟩ := initO X0 hx hZ hown (own_hw hw 19) (own_hw hw 20) (own_hw hw 21) e0 (g := (mkF m 1 #[oR a1, oR ax, oi 0, oi 1, .val .null, .unset] [(.ref a1)])) rfl (by rw [hml]; rfl) rfl (hb hby d3_1) (by decide) (W := 0) (by show 2 * 0 + _ ≤ _; exact Nat.le_of_eq rfl) (by decide)
  refine own_go (st' := T1.setTop (mkF m 4 #[oR a1, oR ax, oi 0, oi 1, .val .null, .unset] [])) (st1) ?_
  refine own_go (st' := T1.setTop (mkF m 5 #[oR a1, oR ax, oi 0, oi 1, .val .null, .unset] [(.int (1 : Int32))])) (fun _ k => XS.iloadN X1.here hx rfl (hb hby d3_4) rfl k) ?_
  have hc2 : ¬ ((1 : Int32) = (0 : Int32)) := by decide
  refine own_go (st' := T1.setTop (mkF m 27 #[oR a1, oR ax, oi 0, oi 1, .val .null, .unset] [])) (fun _ k => XS.ifYes X1.here hx rfl (pc0 := 5) (pc' := 27) rfl (hb hby d3_5) rfl ((if0 _ _).trans (feq hc2).2) (by decide) (by decide) k) ?_
  obtain ⟨T3, X3, e3, st3⟩ := getS2 X1 hx hZ hown (host := "") (Or.inl (own_hw hw 60)) Via.refl e1 pr5 (g := (mkF m 27 #[oR a1, oR ax, oi 0, oi 1, .val .null, .unset] [])) rfl (hb hby d3_27)
  refine own_go (st' := T3.setTop (mkF m 30 #[oR a1, oR ax, oi 0, oi 1, .val .null, .unset] [(.int zc)])) (st3) ?_
  have hc4 : ¬ (zc = (0 : Int32)) := hzc
  refine own_go (st' := T3.setTop (mkF m 33 #[oR a1, oR ax, oi 0, oi 1, .val .null, .unset] [])) (fun _ k => XS.ifNo X3.here hx rfl (hb hby d3_30) rfl ((if0 _ _).trans (feq hc4).1) k) ?_
  refine own_go (st' := T3.setTop (mkF m 34 #[oR a1, oR ax, oi 0, oi 1, .val .null, .unset] [(.ref ax)])) (fun _ k => XS.aloadN X3.here hx rfl (hb hby d3_33) rfl rfl k) ?_
  refine own_go (st' := T3.setTop (mkF m 35 #[oR a1, oR ax, oi 0, oi 1, .val .null, .unset] [(.int (0 : Int32)), (.ref ax)])) (fun _ k => XS.iloadN X3.here hx rfl (hb hby d3_34) rfl k) ?_
  refine own_go (st' := T3.setTop (mkF m 36 #[oR a1, oR ax, oi 0, oi 1, .val .null, .unset] [(.int (1 : Int32)), (.int (0 : Int32)), (.ref ax)])) (fun _ k => XS.iloadN X3.here hx rfl (hb hby d3_35) rfl k) ?_
  obtain ⟨_, _, ⟨T5, LC5, kC5, nC5⟩, -, X5, ⟨Lc5, hQ5, lq5, yq5, zq5⟩, st5⟩ := Jvm.LawKit.callS X3 hx (y := oM6) hown (mvT hZ (own_hw hw 96)) (mvT hZ (own_hw hw 97)) (mvT hZ (own_hw hw 98)) (mvT hZ (own_hw hw 99)) (by decide) (backOf (W := 0) (rcq_1 l Z a0 hw [] ax ka u0 h0 n0 (by omega) pr4 hl_u0) hZ (own_hw hw 99) (own_hw hw 98) (by decide) (by decide)) (g := (mkF m 36 #[oR a1, oR ax, oi 0, oi 1, .val .null, .unset] [(.int (1 : Int32)), (.int (0 : Int32)), (.ref ax)])) rfl (by rw [hml]; rfl) (argsL := [(.ref ax), (.int (0 : Int32)), (.int (1 : Int32))]) (rest := []) (lenOf pd_3 rfl) rfl (by show 2 * 0 + _ ≤ _; exact Nat.le_of_eq rfl) (hb hby d3_36) (fun _ _ => ⟨rfl, e3, (by decide : 0 + 1 ≤ _), (by decide : 0 + 1 ≤ _)⟩)
  dsimp only [Pt.U, Pt.locs, Pt.cells, Pt.slots] at X5 lq5 yq5 zq5 st5 hQ5
  subst lq5 yq5 zq5
  obtain ⟨h5, e5⟩ : ∃ z, T5.heap = z := ⟨_, rfl⟩
  rw [e5] at hQ5
  obtain ⟨r_5, kr_5, rfl, Nq5, K5, g5_0, g5_1⟩ := hQ5
  have sz5 : h0.size ≤ h5.size := K5.1
  have N5 := Fr.app N0 Nq5
  have lt5_1 : @LT.lt Nat _ r_5 h5.size := g5_0.lt
  refine own_go (st' := T5.setTop (mkF m 39 #[oR a1, oR ax, oi 0, oi 1, .val .null, .unset] [(.ref r_5)])) (fun t k => st5 t k) ?_
  refine own_go (st' := T5.setTop (mkF m 41 #[oR a1, oR ax, oi 0, oi 1, .val .null, oR r_5] [])) (fun _ k => XS.astore X5.here hx rfl (hb hby d3_39) rfl rfl (l' := #[oR a1, oR ax, oi 0, oi 1, .val .null, oR r_5]) rfl k) ?_
  refine own_go (st' := T5.setTop (mkF m 42 #[oR a1, oR ax, oi 0, oi 1, .val .null, oR r_5] [(.ref a1)])) (fun _ k => XS.aloadN X5.here hx rfl (hb hby d3_41) rfl rfl k) ?_
  refine own_go (st' := T5.setTop (mkF m 44 #[oR a1, oR ax, oi 0, oi 1, .val .null, oR r_5] [(.ref r_5), (.ref a1)])) (fun _ k => XS.aload X5.here hx rfl (hb hby d3_42) rfl rfl k) ?_
  refine own_go (st' := T5.setTop (mkF m 45 #[oR a1, oR ax, oi 0, oi 1, .val .null, oR r_5] [(.int (1 : Int32)), (.ref r_5), (.ref a1)])) (fun _ k => XS.iloadN X5.here hx rfl (hb hby d3_44) rfl k) ?_
  obtain ⟨_, _, ⟨T6, LC6, kC6, nC6⟩, -, X6, ⟨Lc6, hQ6, lq6, yq6, zq6⟩, st6⟩ := Jvm.LawKit.callS X5 hx (y := oM7) hown (mvT hZ (own_hw hw 103)) (mvT hZ (own_hw hw 104)) (mvT hZ (own_hw hw 98)) (mvT hZ (own_hw hw 105)) (by decide) (backOf (W := 1) (rcd_1 l Z a0 hw [] r_5 kr_5 [(.int (own_by u0))] h5 n0 (by omega) g5_0) hZ (own_hw hw 105) (own_hw hw 98) (by decide) (by decide)) (g := (mkF m 45 #[oR a1, oR ax, oi 0, oi 1, .val .null, oR r_5] [(.int (1 : Int32)), (.ref r_5), (.ref a1)])) rfl (by rw [hml]; rfl) (argsL := [(.ref r_5), (.int (1 : Int32))]) (rest := [(.ref a1)]) (lenOf pd_4 rfl) rfl (by show 2 * 0 + _ ≤ _; exact Nat.le_of_eq rfl) (hb hby d3_45) (fun _ _ => ⟨rfl, e5, (by decide : 1 + 0 ≤ _), (by decide : 1 + 0 ≤ _)⟩)
  dsimp only [Pt.U, Pt.locs, Pt.cells, Pt.slots] at X6 lq6 yq6 zq6 st6 hQ6
  subst lq6 yq6 zq6
  obtain ⟨rfl, Nq6, eq6⟩ := hQ6
  have N6 := Fr.app N5 Nq6
  refine own_go (st' := T6.setTop (mkF m 48 #[oR a1, oR ax, oi 0, oi 1, .val .null, oR r_5] [(.int (0 : Int32)), (.ref a1)])) (fun t k => st6 t k) ?_
  have c7 : Fld Z h5 a1 oS0 "coder" "B" (.int (0 : Int32)) := (pr3.keep K5 nin0)
  have c8 : Exa Z h5 a1 oS0 := (pr1.keep K5)
  obtain ⟨T9, h9, X9, e9, W9, st9⟩ := putFN X6 hx hZ hown (own_hw hw 29) Via.refl eq6 c7 c8 (Or.inr ⟨(own_hw hw 25), rfl, hnm⟩) (own_hw hw 9) (ty := .byte) (v' := (.int (0 : Int32))) (by decide) rfl rfl (g := (mkF m 48 #[oR a1, oR ax, oi 0, oi 1, .val .null, oR r_5] [(.int (0 : Int32)), (.ref a1)])) rfl rfl (hb hby d3_48)
  have sz9 : h9.size = h5.size := W9.size
  have N9 := Fr.snoc X9 N6 (by omega)
  have f9 : Fld Z h9 a1 oS0 "coder" "B" (.int (0 : Int32)) := c7.same W9
  refine own_go (st' := T9.setTop (mkF m 51 #[oR a1, oR ax, oi 0, oi 1, .val .null, oR r_5] [])) (st9) ?_
  refine own_go (st' := T9.setTop (mkF m 52 #[oR a1, oR ax, oi 0, oi 1, .val .null, oR r_5] [(.ref a1)])) (fun _ k => XS.aloadN X9.here hx rfl (hb hby d3_51) rfl rfl k) ?_
  refine own_go (st' := T9.setTop (mkF m 54 #[oR a1, oR ax, oi 0, oi 1, .val .null, oR r_5] [(.ref r_5), (.ref a1)])) (fun _ k => XS.aload X9.here hx rfl (hb hby d3_52) rfl rfl k) ?_
  have c10 : Fld Z h9 a1 oS0 "value" "[B" .null := ((pr2.keep K5 nin0).other W9 (Or.inr (slot_ne (Or.inr (own_hw hw 24)) (Or.inr (own_hw hw 25)) (by decide) (t := (.array .byte)) (t' := .byte) (by decide) (by decide))))
  have c11 : Exa Z h9 a1 oS0 := (c8.wr W9)
  obtain ⟨T12, h12, X12, e12, W12, st12⟩ := putF X9 hx hZ hown (host := "") (Or.inl (own_hw hw 28)) Via.refl e9 c10 c11 (Or.inr ⟨(own_hw hw 24), rfl, hnm⟩) (own_hw hw 9) (ty := (.array .byte)) (by decide) rfl rfl (g := (mkF m 54 #[oR a1, oR ax, oi 0, oi 1, .val .null, oR r_5] [(.ref r_5), (.ref a1)])) rfl rfl (hb hby d3_54)
  have sz12 : h12.size = h9.size := W12.size
  have N12 := Fr.snoc X12 N9 (by omega)
  have f12 : Fld Z h12 a1 oS0 "value" "[B" (.ref r_5) := c10.same W12
  refine own_go (st' := T12.setTop (mkF m 57 #[oR a1, oR ax, oi 0, oi 1, .val .null, oR r_5] [])) (st12) ?_
  obtain ⟨fs, hr, hrun, hended, hW, hsame⟩ := X12.leave (v := none) (fun _ => rfl)
  refine ⟨_, _, ?_, hP _ _ hrun hended ⟨_, _, rfl, ?_, ⟨_, rfl⟩, hW, hsame.mono (by decide) (by decide)⟩⟩
  · exact X12.returnOut hx Bd.returns (hb hby d3_57) hr
  · show Qrsi_1 Z a1 ax ka zc u0 h0 n0 _ T12.heap _
    have c14 : Exa Z h12 a1 oS0 := (c11.wr W12)
    have c15 : Fld Z h12 a1 oS0 "coder" "B" (.int (0 : Int32)) := (f9.other W12 (Or.inr (slot_ne (Or.inr (own_hw hw 25)) (Or.inr (own_hw hw 24)) (by decide) (t := .byte) (t' := (.array .byte)) (by decide) (by decide))))
    have c16 : Arv Z h12 r_5 kr_5 .byte (1 : Int32) [(.int (own_by u0))] (.int (0 : Int32)) := ((g5_0.other W9 (own_ne (by omega))).other W12 (own_ne (by omega)))
    rw [e12]
    exact ⟨r_5, kr_5, rfl, N12, ((((Keep.refl h0 [a1]).trans K5 all0).wr W9 (Or.inl (List.mem_of_getElem? (i := 0) rfl))).wr W12 (Or.inl (List.mem_of_getElem? (i := 0) rfl))), c14, f12, c15, c16, (by omega)⟩
theorem pd_5 : parseMethodDescriptor "([CIILjava/lang/Void;)V" = some ⟨[(.array .char), .int, .int, (.object "java/lang/Void")], none⟩ := by decide +kernel
theorem d2_0 : decode jdk_42_method_3_code 0 = .ok (.aload_n 0, 1) := by decide +kernel
theorem d2_1 : decode jdk_42_method_3_code 1 = .ok (.aload_n 1, 1) := by decide +kernel
theorem d2_2 : decode jdk_42_method_3_code 2 = .ok (.iconst 0, 1) := by decide +kernel
theorem d2_3 : decode jdk_42_method_3_code 3 = .ok (.aload_n 1, 1) := by decide +kernel
theorem d2_4 : decode jdk_42_method_3_code 4 = .ok (.arraylength, 1) := by decide +kernel
theorem d2_5 : decode jdk_42_method_3_code 5 = .ok (.aconst_null, 1) := by decide +kernel
theorem d2_6 : decode jdk_42_method_3_code 6 = .ok (.invokespecial 27, 3) := by decide +kernel
theorem d2_9 : decode jdk_42_method_3_code 9 = .ok (.return_, 1) := by decide +kernel
theorem pn_2 : plainName "java/lang/String" = true := by first | (simp [plainName, overriddenIn]; done) | decide +kernel
theorem ef_rsc_1 (m : MethodId) (x0 : Addr) (x1 : Addr) : entryFrame m #[(.ref x0), (.ref x1)] 2 = mkF m 0 #[.val (.ref x0), .val (.ref x1)] [] := by first | (simp [entryFrame, mkF, argsToLocals, Value.category]; done) | rfl
def Qrsc_1 (Z : State) (a1 : Addr) (ax : Addr) (ka : ClassId) (zc : Int32) (u0 : Int32) (h0 : Heap) (n0 : Nat) (v : Option Value) (h : Heap) (L : List Loc) : Prop := ∃ (r : Addr) (kr : ClassId), (v = none) ∧ (Fr n0 L) ∧ (Keep h0 h [a1]) ∧ (Exa Z h a1 "java/lang/String") ∧ (Fld Z h a1 "java/lang/String" "value" "[B" (.ref r)) ∧ (Fld Z h a1 "java/lang/String" "coder" "B" (.int (0 : Int32))) ∧ (Arv Z h r kr .byte (1 : Int32) [(.int (own_by u0))] (.int (0 : Int32))) ∧ (h0.size ≤ r)
set_option maxRecDepth 65536 in
set_option maxHeartbeats 40000000 in
theorem rsc_1 (l : Launch) (Z : State) (a0 : Array Value) (hw : ∀ d ∈ tables_1, d.before a0 Z = true) (ws : List Jvm.Cond) (a1 : Addr) (ax : Addr) (ka : ClassId) (zc : Int32) (u0 : Int32) (h0 : Heap) (n0 : Nat) (Z0 : n0 ≤ h0.size) (pr1 : Exa Z h0 a1 oS0) (pr2 : Fld Z h0 a1 oS0 "value" "[B" .null) (pr3 : Fld Z h0 a1 oS0 "coder" "B" (.int (0 : Int32))) (pr4 : Arv Z h0 ax ka .char (1 : Int32) [(.int u0)] (.int (0 : Int32))) (pr5 : Sta Z h0 oS0 oS2 "Z" (.int zc)) (hzc : ¬ zc = (0 : Int32)) (hl_u0 : own_lat u0) (pr6 : n0 ≤ a1) (pr7 : @Ne Nat a1 ax) :
    MetFree l oM3 (head1 (Jvm.Cond.code oM3 jdk_42_method_3_code 2 none :: ws) ({ frames := 3, cells := 1, slots := 1, locals := 52 } : Room)) (fun a U => a = #[(.ref a1), (.ref ax)] ∧ Z.Warmed39 U.vm ∧ U.heap = h0) (fun _ _ _ _ _ => True) (fun _ U o U' => ∃ v L, o = .returned v ∧ Qrsc_1 Z a1 ax ka zc u0 h0 n0 v U'.heap L ∧ FrameEnd U o U' L ({ frames := 3, cells := 1, slots := 1, locals := 52 } : Room).cells ({ frames := 3, cells := 1, slots := 1, locals := 52 } : Room).slots) := by
  refine MetFree.of_bodySF (plainFor_of_name pn_2) hisR ?_
  intro p e s m args below meth c s₁ Bd hml0 hP0 hK
  obtain ⟨rfl, hZ, hh⟩ := hP0
  have hx := Bd.exec
  have hby := Bd.bytes
  have hml : c.maxLocals = 2 := hml0
  have hown : s.vm.findClass oS0 = some m.cls := findClass_of_methodNamed Bd.named
  have hnm := (name_of_methodNamed Bd.named Bd.method).1
  have X0 : Stand p l e ({ frames := 3, cells := 1, slots := 1, locals := 52 } : Room) s m #[(.ref a1), (.ref ax)] below meth c s₁ [] 0 0 := Stand.of_body Bd
  have e0 : s₁.heap = h0 := by rw [← hh, Bd.state]; rfl
  have N0 := Fr.nil n0
  suffices own_H : ∀ (P : State → Outcome → Prop), (∀ U o, U.status = .running → Ended U below o → (∃ v L, o = .returned v ∧ Qrsc_1 Z a1 ax ka zc u0 h0 n0 v U.heap L ∧ FrameEnd s o U L ({ frames := 3, cells := 1, slots := 1, locals := 52 } : Room).cells ({ frames := 3, cells := 1, slots := 1, locals := 52 } : Room).slots) → P U o) → own_Go p.tables e below P (s₁.setTop (mkF m 0 #[oR a1, oR ax] [])) from own_go (fun _ k => castTop (ef_rsc_1 m a1 ax) k) (own_H _ (fun U o h1 h2 h3 => ⟨h1, h2, h3⟩))
  intro P hP
  have lt_a1 : @LT.lt Nat _ a1 h0.size := pr1.lt
  have lt_ax : @LT.lt Nat _ ax h0.size := pr4.lt
  refine own_go (st' := s₁.setTop (mkF m 1 #[oR a1, oR ax] [(.ref a1)])) (fun _ k => XS.aloadN X0.here hx rfl (hb hby d2_0) rfl rfl k) ?_
  refine own_go (st' := s₁.setTop (mkF m 2 #[oR a1, oR ax] [(.ref ax), (.ref a1)])) (fun _ k => XS.aloadN X0.here hx rfl (hb hby d2_1) rfl rfl k) ?_
  refine own_go (st' := s₁.setTop (mkF m 3 #[oR a1, oR ax] [(.int (0 : Int32)), (.ref ax), (.ref a1)])) (fun _ k => XS.iconst X0.here hx rfl (hb hby d2_2) k) ?_
  refine own_go (st' := s₁.setTop (mkF m 4 #[oR a1, oR ax] [(.ref ax), (.int (0 : Int32)), (.ref ax), (.ref a1)])) (fun _ k => XS.aloadN X0.here hx rfl (hb hby d2_3) rfl rfl k) ?_
  obtain ⟨cl1, Ar1, -, S1, M1, -, -⟩ := id pr4
  refine own_go (st' := s₁.setTop (mkF m 5 #[oR a1, oR ax] [(.int (1 : Int32)), (.int (0 : Int32)), (.ref ax), (.ref a1)])) (fun t k => X0.arraylength hx (by rw [e0]; exact Ar1.1) (State.isArrayOf_alike hZ.alike Ar1.2.1) (g := (mkF m 4 #[oR a1, oR ax] [(.ref ax), (.int (0 : Int32)), (.ref ax), (.ref a1)])) rfl rfl (hb hby d2_4) t (by rw [len_of S1 M1]; exact k)) ?_
  refine own_go (st' := s₁.setTop (mkF m 6 #[oR a1, oR ax] [.null, (.int (1 : Int32)), (.int (0 : Int32)), (.ref ax), (.ref a1)])) (fun _ k => XS.aconstNull X0.here hx rfl (hb hby d2_5) k) ?_
  obtain ⟨_, _, ⟨T2, LC2, kC2, nC2⟩, -, X2, ⟨Lc2, hQ2, lq2, yq2, zq2⟩, st2⟩ := X0.specialBack hx (y := oM2) rfl hown (mvT hZ (own_hw hw 15)) (mvT hZ (own_hw hw 16)) (mvT hZ (own_hw hw 18)) (by decide) (backOf (W := 0) (rsi_1 l Z a0 hw [] a1 ax ka zc u0 h0 n0 (by omega) pr1 pr2 pr3 pr4 pr5 (by assumption) hl_u0 (by omega) (own_ne (by omega))) hZ (own_hw hw 18) (own_hw hw 10) (by decide) (by decide)) (g := (mkF m 6 #[oR a1, oR ax] [.null, (.int (1 : Int32)), (.int (0 : Int32)), (.ref ax), (.ref a1)])) rfl (by rw [hml]; rfl) (Steps.refl _) (a := a1) (argsL := [(.ref ax), (.int (0 : Int32)), (.int (1 : Int32)), .null]) (rest := []) (lenOf pd_5 rfl) rfl (by show 2 * 0 + _ ≤ _; exact Nat.le_of_eq rfl) (hb hby d2_6) (fun _ _ => ⟨rfl, e0, (by decide : 0 + 1 ≤ _), (by decide : 0 + 1 ≤ _)⟩)
  dsimp only [Pt.U, Pt.locs, Pt.cells, Pt.slots] at X2 lq2 yq2 zq2 st2 hQ2
  subst lq2 yq2 zq2
  obtain ⟨h2, e2⟩ : ∃ z, T2.heap = z := ⟨_, rfl⟩
  rw [e2] at hQ2
  obtain ⟨r_2, kr_2, rfl, Nq2, K2, g2_0, g2_1, g2_2, g2_3, g2_4⟩ := hQ2
  have sz2 : h0.size ≤ h2.size := K2.1
  have N2 := Fr.app N0 Nq2
  have lt2_1 : @LT.lt Nat _ a1 h2.size := g2_0.lt
  have lt2_2 : @LT.lt Nat _ r_2 h2.size := g2_3.lt
  refine own_go (st' := T2.setTop (mkF m 9 #[oR a1, oR ax] [])) (fun _ k => st2.trans k) ?_
  obtain ⟨fs, hr, hrun, hended, hW, hsame⟩ := X2.leave (v := none) (fun _ => rfl)
  refine ⟨_, _, ?_, hP _ _ hrun hended ⟨_, _, rfl, ?_, ⟨_, rfl⟩, hW, hsame.mono (by decide) (by decide)⟩⟩
  · exact X2.returnOut hx Bd.returns (hb hby d2_9) hr
  · show Qrsc_1 Z a1 ax ka zc u0 h0 n0 _ T2.heap _
    rw [e2]
    exact ⟨r_2, kr_2, rfl, N2, ((Keep.refl h0 [a1]).trans K2 (allS (P := fun x => x ∈ [a1] ∨ h0.size ≤ x) (Or.inl (List.mem_of_getElem? (i := 0) rfl)) all0)), g2_0, g2_1, g2_2, g2_3, (by omega)⟩
theorem ef_rcp_2 (m : MethodId) (x0 : Addr) (x1 : Int32) (x2 : Addr) (x3 : Int32) (x4 : Int32) : entryFrame m #[(.ref x0), (.int x1), (.ref x2), (.int x3), (.int x4)] 7 = mkF m 0 #[.val (.ref x0), .val (.int x1), .val (.ref x2), .val (.int x3), .val (.int x4), .unset, .unset] [] := by first | (simp [entryFrame, mkF, argsToLocals, Value.category]; done) | rfl
def Qrcp_2 (Z : State) (ax : Addr) (ka : ClassId) (ay : Addr) (kb : ClassId) (u0 : Int32) (u1 : Int32) (h0 : Heap) (n0 : Nat) (v : Option Value) (h : Heap) (L : List Loc) : Prop := (v = some (.int (2 : Int32))) ∧ (Fr n0 L) ∧ (Keep h0 h [ay]) ∧ (Arv Z h ay kb .byte (2 : Int32) [(.int (own_by u0)), (.int (own_by u1))] (.int (0 : Int32)))
set_option maxRecDepth 65536 in
set_option maxHeartbeats 40000000 in
theorem rcp_2 (l : Launch) (Z : State) (a0 : Array Value) (hw : ∀ d ∈ tables_1, d.before a0 Z = true) (ws : List Jvm.Cond) (ax : Addr) (ka : ClassId) (ay : Addr) (kb : ClassId) (u0 : Int32) (u1 : Int32) (h0 : Heap) (n0 : Nat) (Z0 : n0 ≤ h0.size) (pr1 : Arv Z h0 ax ka .char (2 : Int32) [(.int u0), (.int u1)] (.int (0 : Int32))) (pr2 : Arv Z h0 ay kb .byte (2 : Int32) [(.int (0 : Int32)), (.int (0 : Int32))] (.int (0 : Int32))) (pr3 : n0 ≤ ay) (pr4 : @Ne Nat ax ay) (hl_u0 : own_lat u0) (hl_u1 : own_lat u1) :
    MetFree l oM5 (head1 (Jvm.Cond.code oM5 jdk_52_method_21_code 7 (some .int) :: ws) ({ frames := 0, cells := 0, slots := 0, locals := 0 } : Room)) (fun a U => a = #[(.ref ax), (.int (0 : Int32)), (.ref ay), (.int (0 : Int32)), (.int (2 : Int32))] ∧ Z.Warmed39 U.vm ∧ U.heap = h0) (fun _ _ _ _ _ => True) (fun _ U o U' => ∃ v L, o = .returned v ∧ Qrcp_2 Z ax ka ay kb u0 u1 h0 n0 v U'.heap L ∧ FrameEnd U o U' L ({ frames := 0, cells := 0, slots := 0, locals := 0 } : Room).cells ({ frames := 0, cells := 0, slots := 0, locals := 0 } : Room).slots) := by
  refine MetFree.of_bodySF (plainFor_of_name pn_16) hisR ?_
  intro p e s m args below meth c s₁ Bd hml0 hP0 hK
  obtain ⟨rfl, hZ, hh⟩ := hP0
  have hx := Bd.exec
  have hby := Bd.bytes
  have hml : c.maxLocals = 7 := hml0
  have hown : s.vm.findClass oS7 = some m.cls := findClass_of_methodNamed Bd.named
  have hnm := (name_of_methodNamed Bd.named Bd.method).1
  have X0 : Stand p l e ({ frames := 0, cells := 0, slots := 0, locals := 0 } : Room) s m #[(.ref ax), (.int (0 : Int32)), (.ref ay), (.int (0 : Int32)), (.int (2 : Int32))] below meth c s₁ [] 0 0 := Stand.of_body Bd
  have e0 : s₁.heap = h0 := by rw [← hh, Bd.state]; rfl
  have N0 := Fr.nil n0
  suffices own_H : ∀ (P : State → Outcome → Prop), (∀ U o, U.status = .running → Ended U below o → (∃ v L, o = .returned v ∧ Qrcp_2 Z ax ka ay kb u0 u1 h0 n0 v U.heap L ∧ FrameEnd s o U L ({ frames := 0, cells := 0, slots := 0, locals := 0 } : Room).cells ({ frames := 0, cells := 0, slots := 0, locals := 0 } : Room).slots) → P U o) → own_Go p.tables e below P (s₁.setTop (mkF m 0 #[oR ax, oi 0, oR ay, oi 0, oi 2, .unset, .unset] [])) from own_go (fun _ k => castTop (ef_rcp_2 m ax (0 : Int32) ay (0 : Int32) (2 : Int32)) k) (own_H _ (fun U o h1 h2 h3 => ⟨h1, h2, h3⟩))
  intro P hP
  have lt_ax : @LT.lt Nat _ ax h0.size := pr1.lt
  have lt_ay : @LT.lt Nat _ ay h0.size := pr2.lt
  refine own_go (st' := s₁.setTop (mkF m 1 #[oR ax, oi 0, oR ay, oi 0, oi 2, .unset, .unset] [(.int (0 : Int32))])) (fun _ k => XS.iconst X0.here hx rfl (hb hby d16_0) k) ?_
  refine own_go (st' := s₁.setTop (mkF m 3 #[oR ax, oi 0, oR ay, oi 0, oi 2, oi 0, .unset] [])) (fun _ k => XS.istore X0.here hx rfl (hb hby d16_1) rfl (l' := #[oR ax, oi 0, oR ay, oi 0, oi 2, oi 0, .unset]) rfl k) ?_
  refine own_go (st' := s₁.setTop (mkF m 5 #[oR ax, oi 0, oR ay, oi 0, oi 2, oi 0, .unset] [(.int (0 : Int32))])) (fun _ k => XS.iload X0.here hx rfl (hb hby d16_3) rfl k) ?_
  refine own_go (st' := s₁.setTop (mkF m 7 #[oR ax, oi 0, oR ay, oi 0, oi 2, oi 0, .unset] [(.int (2 : Int32)), (.int (0 : Int32))])) (fun _ k => XS.iload X0.here hx rfl (hb hby d16_5) rfl k) ?_
  have hc1 : (0 : Int32) < (2 : Int32) := by decide
  refine own_go (st' := s₁.setTop (mkF m 10 #[oR ax, oi 0, oR ay, oi 0, oi 2, oi 0, .unset] [])) (fun _ k => XS.icmpNo X0.here hx rfl (hb hby d16_7) rfl (tlt hc1).2.1 k) ?_
  refine own_go (st' := s₁.setTop (mkF m 11 #[oR ax, oi 0, oR ay, oi 0, oi 2, oi 0, .unset] [(.ref ax)])) (fun _ k => XS.aloadN X0.here hx rfl (hb hby d16_10) rfl rfl k) ?_
  refine own_go (st' := s₁.setTop (mkF m 12 #[oR ax, oi 0, oR ay, oi 0, oi 2, oi 0, .unset] [(.int (0 : Int32)), (.ref ax)])) (fun _ k => XS.iloadN X0.here hx rfl (hb hby d16_11) rfl k) ?_
  obtain ⟨cl2, Ar2, -, S2, M2, H2, -⟩ := id pr1
  have hin2 : ¬ ((0 : Int32) < 0 ∨ cl2.slots.size ≤ ((0 : Int32)).toNatClampNeg) := (inb_of S2 ⟨by decide, by decide⟩)
  have hat2 : cl2.slots[((0 : Int32)).toNatClampNeg]? = some (.int u0) := (H2.at hin2 rfl)
  refine own_go (st' := s₁.setTop (mkF m 13 #[oR ax, oi 0, oR ay, oi 0, oi 2, oi 0, .unset] [(.int u0)])) (X0.caload hx (j := (0 : Int32)) (v := (.int u0)) (by rw [e0]; exact Ar2.1) (State.isArrayOf_alike hZ.alike Ar2.2.1) Ar2.2.2 hin2 hat2 (g := (mkF m 12 #[oR ax, oi 0, oR ay, oi 0, oi 2, oi 0, .unset] [(.int (0 : Int32)), (.ref ax)])) rfl rfl (hb hby d16_12)) ?_
  refine own_go (st' := s₁.setTop (mkF m 15 #[oR ax, oi 0, oR ay, oi 0, oi 2, oi 0, oi u0] [])) (fun _ k => XS.istore X0.here hx rfl (hb hby d16_13) rfl (l' := #[oR ax, oi 0, oR ay, oi 0, oi 2, oi 0, oi u0]) rfl k) ?_
  refine own_go (st' := s₁.setTop (mkF m 17 #[oR ax, oi 0, oR ay, oi 0, oi 2, oi 0, oi u0] [(.int u0)])) (fun _ k => XS.iload X0.here hx rfl (hb hby d16_15) rfl k) ?_
  refine own_go (st' := s₁.setTop (mkF m 20 #[oR ax, oi 0, oR ay, oi 0, oi 2, oi 0, oi u0] [(.int (255 : Int32)), (.int u0)])) (fun _ k => XS.sipush X0.here hx rfl (hb hby d16_17) k) ?_
  have hc3 : ¬ ((255 : Int32) < u0) := (own_lat_le hl_u0)
  refine own_go (st' := s₁.setTop (mkF m 26 #[oR ax, oi 0, oR ay, oi 0, oi 2, oi 0, oi u0] [])) (fun _ k => XS.icmpYes X0.here hx rfl (pc0 := 20) (pc' := 26) rfl (hb hby d16_20) rfl (flt hc3).2.2.2 (by decide) (by decide) k) ?_
  refine own_go (st' := s₁.setTop (mkF m 27 #[oR ax, oi 0, oR ay, oi 0, oi 2, oi 0, oi u0] [(.ref ay)])) (fun _ k => XS.aloadN X0.here hx rfl (hb hby d16_26) rfl rfl k) ?_
  refine own_go (st' := s₁.setTop (mkF m 28 #[oR ax, oi 0, oR ay, oi 0, oi 2, oi 0, oi u0] [(.int (0 : Int32)), (.ref ay)])) (fun _ k => XS.iloadN X0.here hx rfl (hb hby d16_27) rfl k) ?_
  refine own_go (st' := s₁.setTop (mkF m 30 #[oR ax, oi 0, oR ay, oi 0, oi 2, oi 0, oi u0] [(.int u0), (.int (0 : Int32)), (.ref ay)])) (fun _ k => XS.iload X0.here hx rfl (hb hby d16_28) rfl k) ?_
  refine own_go (st' := s₁.setTop (mkF m 31 #[oR ax, oi 0, oR ay, oi 0, oi 2, oi 0, oi u0] [(.int u0.toInt8.toInt32), (.int (0 : Int32)), (.ref ay)])) (fun _ k => XS.i2b X0.here hx rfl (hb hby d16_30) rfl k) ?_
  obtain ⟨cl4, Ar4, qc4, S4, M4, H4, G4⟩ := id pr2
  have hin4 : ¬ ((0 : Int32) < 0 ∨ cl4.slots.size ≤ ((0 : Int32)).toNatClampNeg) := (inb_of S4 ⟨by decide, by decide⟩)
  obtain ⟨T4, h4, X4, e4, W4, st4⟩ := stB X0 hx hZ e0 Ar4 (j := (0 : Int32)) hin4 (g := (mkF m 31 #[oR ax, oi 0, oR ay, oi 0, oi 2, oi 0, oi u0] [(.int u0.toInt8.toInt32), (.int (0 : Int32)), (.ref ay)])) rfl rfl (hb hby d16_31)
  have sz4 : h4.size = h0.size := W4.size
  have N4 := Fr.snoc X4 N0 (by omega)
  have v4 : Arv Z h4 ay kb .byte (2 : Int32) [(.int (nar .byte u0.toInt8.toInt32)), (.int (0 : Int32))] (.int (0 : Int32)) := Arv.set Ar4 qc4 S4 M4 H4 G4 (fits_nar_byte _) W4 0 rfl (Nat.le_of_ble_eq_true rfl)
  refine own_go (st' := T4.setTop (mkF m 32 #[oR ax, oi 0, oR ay, oi 0, oi 2, oi 0, oi u0] [])) (st4) ?_
  refine own_go (st' := T4.setTop (mkF m 35 #[oR ax, oi 1, oR ay, oi 0, oi 2, oi 0, oi u0] [])) (fun _ k => XS.iinc X4.here hx rfl (hb hby d16_32) rfl (l' := #[oR ax, oi 1, oR ay, oi 0, oi 2, oi 0, oi u0]) (by rw [show ((0 : Int32) + Int32.ofInt 1) = (1 : Int32) by decide]; rfl) k) ?_
  refine own_go (st' := T4.setTop (mkF m 38 #[oR ax, oi 1, oR ay, oi 1, oi 2, oi 0, oi u0] [])) (fun _ k => XS.iinc X4.here hx rfl (hb hby d16_35) rfl (l' := #[oR ax, oi 1, oR ay, oi 1, oi 2, oi 0, oi u0]) (by rw [show ((0 : Int32) + Int32.ofInt 1) = (1 : Int32) by decide]; rfl) k) ?_
  refine own_go (st' := T4.setTop (mkF m 41 #[oR ax, oi 1, oR ay, oi 1, oi 2, oi 1, oi u0] [])) (fun _ k => XS.iinc X4.here hx rfl (hb hby d16_38) rfl (l' := #[oR ax, oi 1, oR ay, oi 1, oi 2, oi 1, oi u0]) (by rw [show ((0 : Int32) + Int32.ofInt 1) = (1 : Int32) by decide]; rfl) k) ?_
  refine own_go (st' := T4.setTop (mkF m 3 #[oR ax, oi 1, oR ay, oi 1, oi 2, oi 1, oi u0] [])) (fun _ k => XS.goto X4.here hx rfl (pc0 := 41) (pc' := 3) rfl (hb hby d16_41) (by decide) (by decide) k) ?_
  refine own_go (st' := T4.setTop (mkF m 5 #[oR ax, oi 1, oR ay, oi 1, oi 2, oi 1, oi u0] [(.int (1 : Int32))])) (fun _ k => XS.iload X4.here hx rfl (hb hby d16_3) rfl k) ?_
  refine own_go (st' := T4.setTop (mkF m 7 #[oR ax, oi 1, oR ay, oi 1, oi 2, oi 1, oi u0] [(.int (2 : Int32)), (.int (1 : Int32))])) (fun _ k => XS.iload X4.here hx rfl (hb hby d16_5) rfl k) ?_
  have hc5 : (1 : Int32) < (2 : Int32) := by decide
  refine own_go (st' := T4.setTop (mkF m 10 #[oR ax, oi 1, oR ay, oi 1, oi 2, oi 1, oi u0] [])) (fun _ k => XS.icmpNo X4.here hx rfl (hb hby d16_7) rfl (tlt hc5).2.1 k) ?_
  refine own_go (st' := T4.setTop (mkF m 11 #[oR ax, oi 1, oR ay, oi 1, oi 2, oi 1, oi u0] [(.ref ax)])) (fun _ k => XS.aloadN X4.here hx rfl (hb hby d16_10) rfl rfl k) ?_
  refine own_go (st' := T4.setTop (mkF m 12 #[oR ax, oi 1, oR ay, oi 1, oi 2, oi 1, oi u0] [(.int (1 : Int32)), (.ref ax)])) (fun _ k => XS.iloadN X4.here hx rfl (hb hby d16_11) rfl k) ?_
  have c6 : Arv Z h4 ax ka .char (2 : Int32) [(.int u0), (.int u1)] (.int (0 : Int32)) := (pr1.other W4 (own_ne (by omega)))
  obtain ⟨cl7, Ar7, -, S7, M7, H7, -⟩ := id c6
  have hin7 : ¬ ((1 : Int32) < 0 ∨ cl7.slots.size ≤ ((1 : Int32)).toNatClampNeg) := (inb_of S7 ⟨by decide, by decide⟩)
  have hat7 : cl7.slots[((1 : Int32)).toNatClampNeg]? = some (.int u1) := (H7.at hin7 rfl)
  refine own_go (st' := T4.setTop (mkF m 13 #[oR ax, oi 1, oR ay, oi 1, oi 2, oi 1, oi u0] [(.int u1)])) (X4.caload hx (j := (1 : Int32)) (v := (.int u1)) (by rw [e4]; exact Ar7.1) (State.isArrayOf_alike hZ.alike Ar7.2.1) Ar7.2.2 hin7 hat7 (g := (mkF m 12 #[oR ax, oi 1, oR ay, oi 1, oi 2, oi 1, oi u0] [(.int (1 : Int32)), (.ref ax)])) rfl rfl (hb hby d16_12)) ?_
  refine own_go (st' := T4.setTop (mkF m 15 #[oR ax, oi 1, oR ay, oi 1, oi 2, oi 1, oi u1] [])) (fun _ k => XS.istore X4.here hx rfl (hb hby d16_13) rfl (l' := #[oR ax, oi 1, oR ay, oi 1, oi 2, oi 1, oi u1]) rfl k) ?_
  refine own_go (st' := T4.setTop (mkF m 17 #[oR ax, oi 1, oR ay, oi 1, oi 2, oi 1, oi u1] [(.int u1)])) (fun _ k => XS.iload X4.here hx rfl (hb hby d16_15) rfl k) ?_
  refine own_go (st' := T4.setTop (mkF m 20 #[oR ax, oi 1, oR ay, oi 1, oi 2, oi 1, oi u1] [(.int (255 : Int32)), (.int u1)])) (fun _ k => XS.sipush X4.here hx rfl (hb hby d16_17) k) ?_
  have hc8 : ¬ ((255 : Int32) < u1) := (own_lat_le hl_u1)
  refine own_go (st' := T4.setTop (mkF m 26 #[oR ax, oi 1, oR ay, oi 1, oi 2, oi 1, oi u1] [])) (fun _ k => XS.icmpYes X4.here hx rfl (pc0 := 20) (pc' := 26) rfl (hb hby d16_20) rfl (flt hc8).2.2.2 (by decide) (by decide) k) ?_
  refine own_go (st' := T4.setTop (mkF m 27 #[oR ax, oi 1, oR ay, oi 1, oi 2, oi 1, oi u1] [(.ref ay)])) (fun _ k => XS.aloadN X4.here hx rfl (hb hby d16_26) rfl rfl k) ?_
  refine own_go (st' := T4.setTop (mkF m 28 #[oR ax, oi 1, oR ay, oi 1, oi 2, oi 1, oi u1] [(.int (1 : Int32)), (.ref ay)])) (fun _ k => XS.iloadN X4.here hx rfl (hb hby d16_27) rfl k) ?_
  refine own_go (st' := T4.setTop (mkF m 30 #[oR ax, oi 1, oR ay, oi 1, oi 2, oi 1, oi u1] [(.int u1), (.int (1 : Int32)), (.ref ay)])) (fun _ k => XS.iload X4.here hx rfl (hb hby d16_28) rfl k) ?_
  refine own_go (st' := T4.setTop (mkF m 31 #[oR ax, oi 1, oR ay, oi 1, oi 2, oi 1, oi u1] [(.int u1.toInt8.toInt32), (.int (1 : Int32)), (.ref ay)])) (fun _ k => XS.i2b X4.here hx rfl (hb hby d16_30) rfl k) ?_
  obtain ⟨cl9, Ar9, qc9, S9, M9, H9, G9⟩ := id v4
  have hin9 : ¬ ((1 : Int32) < 0 ∨ cl9.slots.size ≤ ((1 : Int32)).toNatClampNeg) := (inb_of S9 ⟨by decide, by decide⟩)
  obtain ⟨T9, h9, X9, e9, W9, st9⟩ := stB X4 hx hZ e4 Ar9 (j := (1 : Int32)) hin9 (g := (mkF m 31 #[oR ax, oi 1, oR ay, oi 1, oi 2, oi 1, oi u1] [(.int u1.toInt8.toInt32), (.int (1 : Int32)), (.ref ay)])) rfl rfl (hb hby d16_31)
  have sz9 : h9.size = h4.size := W9.size
  have N9 := Fr.snoc X9 N4 (by omega)
  have v9 : Arv Z h9 ay kb .byte (2 : Int32) [(.int (nar .byte u0.toInt8.toInt32)), (.int (nar .byte u1.toInt8.toInt32))] (.int (0 : Int32)) := Arv.set Ar9 qc9 S9 M9 H9 G9 (fits_nar_byte _) W9 1 rfl (Nat.le_of_ble_eq_true rfl)
  refine own_go (st' := T9.setTop (mkF m 32 #[oR ax, oi 1, oR ay, oi 1, oi 2, oi 1, oi u1] [])) (st9) ?_
  refine own_go (st' := T9.setTop (mkF m 35 #[oR ax, oi 2, oR ay, oi 1, oi 2, oi 1, oi u1] [])) (fun _ k => XS.iinc X9.here hx rfl (hb hby d16_32) rfl (l' := #[oR ax, oi 2, oR ay, oi 1, oi 2, oi 1, oi u1]) (by rw [show ((1 : Int32) + Int32.ofInt 1) = (2 : Int32) by decide]; rfl) k) ?_
  refine own_go (st' := T9.setTop (mkF m 38 #[oR ax, oi 2, oR ay, oi 2, oi 2, oi 1, oi u1] [])) (fun _ k => XS.iinc X9.here hx rfl (hb hby d16_35) rfl (l' := #[oR ax, oi 2, oR ay, oi 2, oi 2, oi 1, oi u1]) (by rw [show ((1 : Int32) + Int32.ofInt 1) = (2 : Int32) by decide]; rfl) k) ?_
  refine own_go (st' := T9.setTop (mkF m 41 #[oR ax, oi 2, oR ay, oi 2, oi 2, oi 2, oi u1] [])) (fun _ k => XS.iinc X9.here hx rfl (hb hby d16_38) rfl (l' := #[oR ax, oi 2, oR ay, oi 2, oi 2, oi 2, oi u1]) (by rw [show ((1 : Int32) + Int32.ofInt 1) = (2 : Int32) by decide]; rfl) k) ?_
  refine own_go (st' := T9.setTop (mkF m 3 #[oR ax, oi 2, oR ay, oi 2, oi 2, oi 2, oi u1] [])) (fun _ k => XS.goto X9.here hx rfl (pc0 := 41) (pc' := 3) rfl (hb hby d16_41) (by decide) (by decide) k) ?_
  refine own_go (st' := T9.setTop (mkF m 5 #[oR ax, oi 2, oR ay, oi 2, oi 2, oi 2, oi u1] [(.int (2 : Int32))])) (fun _ k => XS.iload X9.here hx rfl (hb hby d16_3) rfl k) ?_
  refine own_go (st' := T9.setTop (mkF m 7 #[oR ax, oi 2, oR ay, oi 2, oi 2, oi 2, oi u1] [(.int (2 : Int32)), (.int (2 : Int32))])) (fun _ k => XS.iload X9.here hx rfl (hb hby d16_5) rfl k) ?_
  have hc10 : ¬ ((2 : Int32) < (2 : Int32)) := by decide
  refine own_go (st' := T9.setTop (mkF m 44 #[oR ax, oi 2, oR ay, oi 2, oi 2, oi 2, oi u1] [])) (fun _ k => XS.icmpYes X9.here hx rfl (pc0 := 7) (pc' := 44) rfl (hb hby d16_7) rfl (flt hc10).2.1 (by decide) (by decide) k) ?_
  refine own_go (st' := T9.setTop (mkF m 46 #[oR ax, oi 2, oR ay, oi 2, oi 2, oi 2, oi u1] [(.int (2 : Int32))])) (fun _ k => XS.iload X9.here hx rfl (hb hby d16_44) rfl k) ?_
  obtain ⟨fs, hr, hrun, hended, hW, hsame⟩ := X9.leave (v := some (.int (2 : Int32))) (fun h => by rw [Bd.returns] at h; cases h)
  refine ⟨_, _, ?_, hP _ _ hrun hended ⟨_, _, rfl, ?_, ⟨_, rfl⟩, hW, hsame.mono (by decide) (by decide)⟩⟩
  · exact retOut X9 hx Bd.returns rfl (Or.inl ⟨rfl, Or.inl rfl, _, rfl⟩) (hb hby d16_46) hr
  · show Qrcp_2 Z ax ka ay kb u0 u1 h0 n0 _ T9.heap _
    rw [e9]
    exact ⟨rfl, N9, (((Keep.refl h0 [ay]).wr W4 (Or.inl (List.mem_of_getElem? (i := 0) rfl))).wr W9 (Or.inl (List.mem_of_getElem? (i := 0) rfl))), v9⟩
theorem ef_rcq_2 (m : MethodId) (x0 : Addr) (x1 : Int32) (x2 : Int32) : entryFrame m #[(.ref x0), (.int x1), (.int x2)] 6 = mkF m 0 #[.val (.ref x0), .val (.int x1), .val (.int x2), .unset, .unset, .unset] [] := by first | (simp [entryFrame, mkF, argsToLocals, Value.category]; done) | rfl
def Qrcq_2 (Z : State) (ax : Addr) (ka : ClassId) (u0 : Int32) (u1 : Int32) (h0 : Heap) (n0 : Nat) (v : Option Value) (h : Heap) (L : List Loc) : Prop := ∃ (r : Addr) (kr : ClassId), (v = some (.ref r)) ∧ (Fr n0 L) ∧ (Keep h0 h []) ∧ (Arv Z h r kr .byte (2 : Int32) [(.int (own_by u0)), (.int (own_by u1))] (.int (0 : Int32))) ∧ (h0.size ≤ r)
set_option maxRecDepth 65536 in
set_option maxHeartbeats 40000000 in
theorem rcq_2 (l : Launch) (Z : State) (a0 : Array Value) (hw : ∀ d ∈ tables_1, d.before a0 Z = true) (ws : List Jvm.Cond) (ax : Addr) (ka : ClassId) (u0 : Int32) (u1 : Int32) (h0 : Heap) (n0 : Nat) (Z0 : n0 ≤ h0.size) (pr1 : Arv Z h0 ax ka .char (2 : Int32) [(.int u0), (.int u1)] (.int (0 : Int32))) (hl_u0 : own_lat u0) (hl_u1 : own_lat u1) :
    MetFree l oM6 (head1 (Jvm.Cond.code oM6 jdk_52_method_16_code 6 (some (.array .byte)) :: ws) ({ frames := 1, cells := 1, slots := 2, locals := 18 } : Room)) (fun a U => a = #[(.ref ax), (.int (0 : Int32)), (.int (2 : Int32))] ∧ Z.Warmed39 U.vm ∧ U.heap = h0) (fun _ _ _ _ _ => True) (fun _ U o U' => ∃ v L, o = .returned v ∧ Qrcq_2 Z ax ka u0 u1 h0 n0 v U'.heap L ∧ FrameEnd U o U' L ({ frames := 1, cells := 1, slots := 2, locals := 18 } : Room).cells ({ frames := 1, cells := 1, slots := 2, locals := 18 } : Room).slots) := by
  refine MetFree.of_bodySF (plainFor_of_name pn_15) hisR ?_
  intro p e s m args below meth c s₁ Bd hml0 hP0 hK
  obtain ⟨rfl, hZ, hh⟩ := hP0
  have hx := Bd.exec
  have hby := Bd.bytes
  have hml : c.maxLocals = 6 := hml0
  have hown : s.vm.findClass oS7 = some m.cls := findClass_of_methodNamed Bd.named
  have hnm := (name_of_methodNamed Bd.named Bd.method).1
  have X0 : Stand p l e ({ frames := 1, cells := 1, slots := 2, locals := 18 } : Room) s m #[(.ref ax), (.int (0 : Int32)), (.int (2 : Int32))] below meth c s₁ [] 0 0 := Stand.of_body Bd
  have e0 : s₁.heap = h0 := by rw [← hh, Bd.state]; rfl
  have N0 := Fr.nil n0
  suffices own_H : ∀ (P : State → Outcome → Prop), (∀ U o, U.status = .running → Ended U below o → (∃ v L, o = .returned v ∧ Qrcq_2 Z ax ka u0 u1 h0 n0 v U.heap L ∧ FrameEnd s o U L ({ frames := 1, cells := 1, slots := 2, locals := 18 } : Room).cells ({ frames := 1, cells := 1, slots := 2, locals := 18 } : Room).slots) → P U o) → own_Go p.tables e below P (s₁.setTop (mkF m 0 #[oR ax, oi 0, oi 2, .unset, .unset, .unset] [])) from own_go (fun _ k => castTop (ef_rcq_2 m ax (0 : Int32) (2 : Int32)) k) (own_H _ (fun U o h1 h2 h3 => ⟨h1, h2, h3⟩))
  intro P hP
  have lt_ax : @LT.lt Nat _ ax h0.size := pr1.lt
  refine own_go (st' := s₁.setTop (mkF m 1 #[oR ax, oi 0, oi 2, .unset, .unset, .unset] [(.int (2 : Int32))])) (fun _ k => XS.iloadN X0.here hx rfl (hb hby d15_0) rfl k) ?_
  obtain ⟨T1, h1, k1, X1, e1, E1, A1, st1⟩ := newP X0 hx hZ (own_hw hw 23) e0 (g := (mkF m 1 #[oR ax, oi 0, oi 2, .unset, .unset, .unset] [(.int (2 : Int32))])) rfl (hb hby d15_1) rfl (by decide) (cap := 2) (by decide) (by decide) (by decide) (by decide)
  obtain ⟨b1, g1⟩ : ∃ z, z = h0.size := ⟨_, rfl⟩
  rw [← g1] at A1 st1
  have sz1 : h0.size ≤ h1.size := E1.1
  have lt1 : @LT.lt Nat _ b1 h1.size := A1.lt
  have v1 : Arv Z h1 b1 k1 .byte (2 : Int32) [(.int (0 : Int32)), (.int (0 : Int32))] (.int (0 : Int32)) := (Arv.new A1 (by decide)).pad (pad_rep [] (.int (0 : Int32)) 2)
  refine own_go (st' := T1.setTop (mkF m 3 #[oR ax, oi 0, oi 2, .unset, .unset, .unset] [(.ref b1)])) (st1) ?_
  refine own_go (st' := T1.setTop (mkF m 4 #[oR ax, oi 0, oi 2, oR b1, .unset, .unset] [])) (fun _ k => XS.astoreN X1.here hx rfl (hb hby d15_3) rfl rfl (l' := #[oR ax, oi 0, oi 2, oR b1, .unset, .unset]) rfl k) ?_
  refine own_go (st' := T1.setTop (mkF m 5 #[oR ax, oi 0, oi 2, oR b1, .unset, .unset] [(.ref ax)])) (fun _ k => XS.aloadN X1.here hx rfl (hb hby d15_4) rfl rfl k) ?_
  refine own_go (st' := T1.setTop (mkF m 6 #[oR ax, oi 0, oi 2, oR b1, .unset, .unset] [(.int (0 : Int32)), (.ref ax)])) (fun _ k => XS.iloadN X1.here hx rfl (hb hby d15_5) rfl k) ?_
  refine own_go (st' := T1.setTop (mkF m 7 #[oR ax, oi 0, oi 2, oR b1, .unset, .unset] [(.ref b1), (.int (0 : Int32)), (.ref ax)])) (fun _ k => XS.aloadN X1.here hx rfl (hb hby d15_6) rfl rfl k) ?_
  refine own_go (st' := T1.setTop (mkF m 8 #[oR ax, oi 0, oi 2, oR b1, .unset, .unset] [(.int (0 : Int32)), (.ref b1), (.int (0 : Int32)), (.ref ax)])) (fun _ k => XS.iconst X1.here hx rfl (hb hby d15_7) k) ?_
  refine own_go (st' := T1.setTop (mkF m 9 #[oR ax, oi 0, oi 2, oR b1, .unset, .unset] [(.int (2 : Int32)), (.int (0 : Int32)), (.ref b1), (.int (0 : Int32)), (.ref ax)])) (fun _ k => XS.iloadN X1.here hx rfl (hb hby d15_8) rfl k) ?_
  have c3 : Arv Z h1 ax ka .char (2 : Int32) [(.int u0), (.int u1)] (.int (0 : Int32)) := (pr1.ext E1)
  obtain ⟨_, _, ⟨T2, LC2, kC2, nC2⟩, -, X2, ⟨Lc2, hQ2, lq2, yq2, zq2⟩, st2⟩ := Jvm.LawKit.callS X1 hx (y := oM5) hown (mvT hZ (own_hw hw 100)) (mvT hZ (own_hw hw 101)) (mvT hZ (own_hw hw 98)) (mvT hZ (own_hw hw 102)) (by decide) (backOf (W := 0) (rcp_2 l Z a0 hw [] ax ka b1 k1 u0 u1 h1 n0 (by omega) c3 v1 (by omega) (own_ne (by omega)) hl_u0 hl_u1) hZ (own_hw hw 102) (own_hw hw 98) (by decide) (by decide)) (g := (mkF m 9 #[oR ax, oi 0, oi 2, oR b1, .unset, .unset] [(.int (2 : Int32)), (.int (0 : Int32)), (.ref b1), (.int (0 : Int32)), (.ref ax)])) rfl (by rw [hml]; rfl) (argsL := [(.ref ax), (.int (0 : Int32)), (.ref b1), (.int (0 : Int32)), (.int (2 : Int32))]) (rest := []) (lenOf pd_2 rfl) rfl (by show 2 * 0 + _ ≤ _; exact Nat.le_of_eq rfl) (hb hby d15_9) (fun _ _ => ⟨rfl, e1, (by decide : 1 + 0 ≤ _), (by decide : 2 + 0 ≤ _)⟩)
  dsimp only [Pt.U, Pt.locs, Pt.cells, Pt.slots] at X2 lq2 yq2 zq2 st2 hQ2
  subst lq2 yq2 zq2
  obtain ⟨h2, e2⟩ : ∃ z, T2.heap = z := ⟨_, rfl⟩
  rw [e2] at hQ2
  obtain ⟨rfl, Nq2, K2, g2_0⟩ := hQ2
  have sz2 : h1.size ≤ h2.size := K2.1
  have N2 := Fr.app N0 Nq2
  have lt2_1 : @LT.lt Nat _ b1 h2.size := g2_0.lt
  refine own_go (st' := T2.setTop (mkF m 12 #[oR ax, oi 0, oi 2, oR b1, .unset, .unset] [(.int (2 : Int32))])) (fun t k => st2 t k) ?_
  refine own_go (st' := T2.setTop (mkF m 14 #[oR ax, oi 0, oi 2, oR b1, oi 2, .unset] [])) (fun _ k => XS.istore X2.here hx rfl (hb hby d15_12) rfl (l' := #[oR ax, oi 0, oi 2, oR b1, oi 2, .unset]) rfl k) ?_
  refine own_go (st' := T2.setTop (mkF m 16 #[oR ax, oi 0, oi 2, oR b1, oi 2, .unset] [(.int (2 : Int32))])) (fun _ k => XS.iload X2.here hx rfl (hb hby d15_14) rfl k) ?_
  refine own_go (st' := T2.setTop (mkF m 17 #[oR ax, oi 0, oi 2, oR b1, oi 2, .unset] [(.int (2 : Int32)), (.int (2 : Int32))])) (fun _ k => XS.iloadN X2.here hx rfl (hb hby d15_16) rfl k) ?_
  have hc4 : (2 : Int32) = (2 : Int32) := by decide
  refine own_go (st' := T2.setTop (mkF m 57 #[oR ax, oi 0, oi 2, oR b1, oi 2, .unset] [])) (fun _ k => XS.icmpYes X2.here hx rfl (pc0 := 17) (pc' := 57) rfl (hb hby d15_17) rfl (teq hc4).1 (by decide) (by decide) k) ?_
  refine own_go (st' := T2.setTop (mkF m 58 #[oR ax, oi 0, oi 2, oR b1, oi 2, .unset] [(.ref b1)])) (fun _ k => XS.aloadN X2.here hx rfl (hb hby d15_57) rfl rfl k) ?_
  obtain ⟨fs, hr, hrun, hended, hW, hsame⟩ := X2.leave (v := some (.ref b1)) (fun h => by rw [Bd.returns] at h; cases h)
  refine ⟨_, _, ?_, hP _ _ hrun hended ⟨_, _, rfl, ?_, ⟨_, rfl⟩, hW, hsame.mono (by decide) (by decide)⟩⟩
  · exact retOut X2 hx Bd.returns rfl (Or.inr (Or.inr (Or.inr (Or.inr ⟨rfl, rfl, rfl⟩)))) (hb hby d15_58) hr
  · show Qrcq_2 Z ax ka u0 u1 h0 n0 _ T2.heap _
    rw [e2]
    exact ⟨b1, k1, rfl, N2, (((Keep.refl h0 []).ext E1).trans K2 (allS (P := fun x => x ∈ [] ∨ h0.size ≤ x) (Or.inr (by omega)) all0)), g2_0, (by omega)⟩
theorem ef_rcd_2 (m : MethodId) (x0 : Addr) (x1 : Int32) : entryFrame m #[(.ref x0), (.int x1)] 2 = mkF m 0 #[.val (.ref x0), .val (.int x1)] [] := by first | (simp [entryFrame, mkF, argsToLocals, Value.category]; done) | rfl
def Qrcd_2 (Z : State) (ax : Addr) (ka : ClassId) (vs : List Value) (h0 : Heap) (n0 : Nat) (v : Option Value) (h : Heap) (L : List Loc) : Prop := (v = some (.int (0 : Int32))) ∧ (Fr n0 L) ∧ (h = h0)
set_option maxRecDepth 65536 in
set_option maxHeartbeats 40000000 in
theorem rcd_2 (l : Launch) (Z : State) (a0 : Array Value) (hw : ∀ d ∈ tables_1, d.before a0 Z = true) (ws : List Jvm.Cond) (ax : Addr) (ka : ClassId) (vs : List Value) (h0 : Heap) (n0 : Nat) (Z0 : n0 ≤ h0.size) (pr1 : Arv Z h0 ax ka .byte (2 : Int32) vs (.int (0 : Int32))) :
    MetFree l oM7 (head1 (Jvm.Cond.code oM7 jdk_52_method_15_code 2 (some .byte) :: ws) ({ frames := 0, cells := 0, slots := 0, locals := 0 } : Room)) (fun a U => a = #[(.ref ax), (.int (2 : Int32))] ∧ Z.Warmed39 U.vm ∧ U.heap = h0) (fun _ _ _ _ _ => True) (fun _ U o U' => ∃ v L, o = .returned v ∧ Qrcd_2 Z ax ka vs h0 n0 v U'.heap L ∧ FrameEnd U o U' L ({ frames := 0, cells := 0, slots := 0, locals := 0 } : Room).cells ({ frames := 0, cells := 0, slots := 0, locals := 0 } : Room).slots) := by
  refine MetFree.of_bodySF (plainFor_of_name pn_17) hisR ?_
  intro p e s m args below meth c s₁ Bd hml0 hP0 hK
  obtain ⟨rfl, hZ, hh⟩ := hP0
  have hx := Bd.exec
  have hby := Bd.bytes
  have hml : c.maxLocals = 2 := hml0
  have hown : s.vm.findClass oS7 = some m.cls := findClass_of_methodNamed Bd.named
  have hnm := (name_of_methodNamed Bd.named Bd.method).1
  have X0 : Stand p l e ({ frames := 0, cells := 0, slots := 0, locals := 0 } : Room) s m #[(.ref ax), (.int (2 : Int32))] below meth c s₁ [] 0 0 := Stand.of_body Bd
  have e0 : s₁.heap = h0 := by rw [← hh, Bd.state]; rfl
  have N0 := Fr.nil n0
  suffices own_H : ∀ (P : State → Outcome → Prop), (∀ U o, U.status = .running → Ended U below o → (∃ v L, o = .returned v ∧ Qrcd_2 Z ax ka vs h0 n0 v U.heap L ∧ FrameEnd s o U L ({ frames := 0, cells := 0, slots := 0, locals := 0 } : Room).cells ({ frames := 0, cells := 0, slots := 0, locals := 0 } : Room).slots) → P U o) → own_Go p.tables e below P (s₁.setTop (mkF m 0 #[oR ax, oi 2] [])) from own_go (fun _ k => castTop (ef_rcd_2 m ax (2 : Int32)) k) (own_H _ (fun U o h1 h2 h3 => ⟨h1, h2, h3⟩))
  intro P hP
  have lt_ax : @LT.lt Nat _ ax h0.size := pr1.lt
  refine own_go (st' := s₁.setTop (mkF m 1 #[oR ax, oi 2] [(.int (2 : Int32))])) (fun _ k => XS.iloadN X0.here hx rfl (hb hby d17_0) rfl k) ?_
  refine own_go (st' := s₁.setTop (mkF m 2 #[oR ax, oi 2] [(.ref ax), (.int (2 : Int32))])) (fun _ k => XS.aloadN X0.here hx rfl (hb hby d17_1) rfl rfl k) ?_
  obtain ⟨cl1, Ar1, -, S1, M1, -, -⟩ := id pr1
  refine own_go (st' := s₁.setTop (mkF m 3 #[oR ax, oi 2] [(.int (2 : Int32)), (.int (2 : Int32))])) (fun t k => X0.arraylength hx (by rw [e0]; exact Ar1.1) (State.isArrayOf_alike hZ.alike Ar1.2.1) (g := (mkF m 2 #[oR ax, oi 2] [(.ref ax), (.int (2 : Int32))])) rfl rfl (hb hby d17_2) t (by rw [len_of S1 M1]; exact k)) ?_
  refine own_go (st' := s₁.setTop (mkF m 4 #[oR ax, oi 2] [(.int (0 : Int32))])) (fun _ k => XS.isub X0.here hx rfl (hb hby d17_3) rfl (by rw [show ((2 : Int32) - (2 : Int32)) = (0 : Int32) by decide]; exact k)) ?_
  refine own_go (st' := s₁.setTop (mkF m 6 #[oR ax, oi 2] [(.int (31 : Int32)), (.int (0 : Int32))])) (fun _ k => XS.bipush X0.here hx rfl (hb hby d17_4) k) ?_
  refine own_go (st' := s₁.setTop (mkF m 7 #[oR ax, oi 2] [(.int (((0 : Int32).toUInt32 >>> ((31 : Int32) &&& 31).toUInt32).toInt32))])) (fun _ k => XS.iushr X0.here hx rfl (hb hby d17_6) rfl k) ?_
  refine own_go (st' := s₁.setTop (mkF m 8 #[oR ax, oi 2] [(.int (((0 : Int32).toUInt32 >>> ((31 : Int32) &&& 31).toUInt32).toInt32).toInt8.toInt32)])) (fun _ k => XS.i2b X0.here hx rfl (hb hby d17_7) rfl k) ?_
  obtain ⟨fs, hr, hrun, hended, hW, hsame⟩ := X0.leave (v := some (.int (nar .byte (((0 : Int32).toUInt32 >>> ((31 : Int32) &&& 31).toUInt32).toInt32).toInt8.toInt32))) (fun h => by rw [Bd.returns] at h; cases h)
  refine ⟨_, _, ?_, hP _ _ hrun hended ⟨_, _, rfl, ?_, ⟨_, rfl⟩, hW, hsame.mono (by decide) (by decide)⟩⟩
  · exact retN X0 hx (t := .byte) Bd.returns (by simp) (hb hby d17_8) hr
  · show Qrcd_2 Z ax ka vs h0 n0 _ s₁.heap _
    rw [e0]
    exact ⟨(congrArg (fun z => some (Value.int z)) (by decide +kernel)), N0, rfl⟩
theorem ef_rsi_2 (m : MethodId) (x0 : Addr) (x1 : Addr) (x2 : Int32) (x3 : Int32) : entryFrame m #[(.ref x0), (.ref x1), (.int x2), (.int x3), .null] 6 = mkF m 0 #[.val (.ref x0), .val (.ref x1), .val (.int x2), .val (.int x3), .val .null, .unset] [] := by first | (simp [entryFrame, mkF, argsToLocals, Value.category]; done) | rfl
def Qrsi_2 (Z : State) (a1 : Addr) (ax : Addr) (ka : ClassId) (zc : Int32) (u0 : Int32) (u1 : Int32) (h0 : Heap) (n0 : Nat) (v : Option Value) (h : Heap) (L : List Loc) : Prop := ∃ (r : Addr) (kr : ClassId), (v = none) ∧ (Fr n0 L) ∧ (Keep h0 h [a1]) ∧ (Exa Z h a1 "java/lang/String") ∧ (Fld Z h a1 "java/lang/String" "value" "[B" (.ref r)) ∧ (Fld Z h a1 "java/lang/String" "coder" "B" (.int (0 : Int32))) ∧ (Arv Z h r kr .byte (2 : Int32) [(.int (own_by u0)), (.int (own_by u1))] (.int (0 : Int32))) ∧ (h0.size ≤ r)
set_option maxRecDepth 65536 in
set_option maxHeartbeats 40000000 in
theorem rsi_2 (l : Launch) (Z : State) (a0 : Array Value) (hw : ∀ d ∈ tables_1, d.before a0 Z = true) (ws : List Jvm.Cond) (a1 : Addr) (ax : Addr) (ka : ClassId) (zc : Int32) (u0 : Int32) (u1 : Int32) (h0 : Heap) (n0 : Nat) (Z0 : n0 ≤ h0.size) (pr1 : Exa Z h0 a1 oS0) (pr2 : Fld Z h0 a1 oS0 "value" "[B" .null) (pr3 : Fld Z h0 a1 oS0 "coder" "B" (.int (0 : Int32))) (pr4 : Arv Z h0 ax ka .char (2 : Int32) [(.int u0), (.int u1)] (.int (0 : Int32))) (pr5 : Sta Z h0 oS0 oS2 "Z" (.int zc)) (hzc : ¬ zc = (0 : Int32)) (hl_u0 : own_lat u0) (hl_u1 : own_lat u1) (pr6 : n0 ≤ a1) (pr7 : @Ne Nat a1 ax) :
    MetFree l oM2 (head1 (Jvm.Cond.code oM2 jdk_42_method_149_code 6 none :: ws) ({ frames := 2, cells := 1, slots := 2, locals := 35 } : Room)) (fun a U => a = #[(.ref a1), (.ref ax), (.int (0 : Int32)), (.int (2 : Int32)), .null] ∧ Z.Warmed39 U.vm ∧ U.heap = h0) (fun _ _ _ _ _ => True) (fun _ U o U' => ∃ v L, o = .returned v ∧ Qrsi_2 Z a1 ax ka zc u0 u1 h0 n0 v U'.heap L ∧ FrameEnd U o U' L ({ frames := 2, cells := 1, slots := 2, locals := 35 } : Room).cells ({ frames := 2, cells := 1, slots := 2, locals := 35 } : Room).slots) := by
  refine MetFree.of_bodySF (plainFor_of_name pn_3) hisR ?_
  intro p e s m args below meth c s₁ Bd hml0 hP0 hK
  obtain ⟨rfl, hZ, hh⟩ := hP0
  have hx := Bd.exec
  have hby := Bd.bytes
  have hml : c.maxLocals = 6 := hml0
  have hown : s.vm.findClass oS0 = some m.cls := findClass_of_methodNamed Bd.named
  have hnm := (name_of_methodNamed Bd.named Bd.method).1
  have X0 : Stand p l e ({ frames := 2, cells := 1, slots := 2, locals := 35 } : Room) s m #[(.ref a1), (.ref ax), (.int (0 : Int32)), (.int (2 : Int32)), .null] below meth c s₁ [] 0 0 := Stand.of_body Bd
  have e0 : s₁.heap = h0 := by rw [← hh, Bd.state]; rfl
  have N0 := Fr.nil n0
  suffices own_H : ∀ (P : State → Outcome → Prop), (∀ U o, U.status = .running → Ended U below o → (∃ v L, o = .returned v ∧ Qrsi_2 Z a1 ax ka zc u0 u1 h0 n0 v U.heap L ∧ FrameEnd s o U L ({ frames := 2, cells := 1, slots := 2, locals := 35 } : Room).cells ({ frames := 2, cells := 1, slots := 2, locals := 35 } : Room).slots) → P U o) → own_Go p.tables e below P (s₁.setTop (mkF m 0 #[oR a1, oR ax, oi 0, oi 2, .val .null, .unset] [])) from own_go (fun _ k => castTop (ef_rsi_2 m a1 ax (0 : Int32) (2 : Int32)) k) (own_H _ (fun U o h1 h2 h3 => ⟨h1, h2, h3⟩))
  intro P hP
  have lt_a1 : @LT.lt Nat _ a1 h0.size := pr1.lt
  have lt_ax : @LT.lt Nat _ ax h0.size := pr4.lt
  refine own_go (st' := s₁.setTop (mkF m 1 #[oR a1, oR ax, oi 0, oi 2, .val .null, .unset] [(.ref a1)])) (fun _ k => XS.aloadN X0.here hx rfl (hb hby d3_0) rfl rfl k) ?_
  obtain ⟨T1, X1, e1, st1⟩ := initO X0 hx hZ hown (own_hw hw 19) (own_hw hw 20) (own_hw hw 21) e0 (g := (mkF m 1 #[oR a1, oR ax, oi 0, oi 2, .val .null, .unset] [(.ref a1)])) rfl (by rw [hml]; rfl) rfl (hb hby d3_1) (by decide) (W := 0) (by show 2 * 0 + _ ≤ _; exact Nat.le_of_eq rfl) (by decide)
  refine own_go (st' := T1.setTop (mkF m 4 #[oR a1, oR ax, oi 0, oi 2, .val .null, .unset] [])) (st1) ?_
  refine own_go (st' := T1.setTop (mkF m 5 #[oR a1, oR ax, oi 0, oi 2, .val .null, .unset] [(.int (2 : Int32))])) (fun _ k => XS.iloadN X1.here hx rfl (hb hby d3_4) rfl k) ?_
  have hc2 : ¬ ((2 : Int32) = (0 : Int32)) := by decide
  refine own_go (st' := T1.setTop (mkF m 27 #[oR a1, oR ax, oi 0, oi 2, .val .null, .unset] [])) (fun _ k => XS.ifYes X1.here hx rfl (pc0 := 5) (pc' := 27) rfl (hb hby d3_5) rfl ((if0 _ _).trans (feq hc2).2) (by decide) (by decide) k) ?_
  obtain ⟨T3, X3, e3, st3⟩ := getS2 X1 hx hZ hown (host := "") (Or.inl (own_hw hw 60)) Via.refl e1 pr5 (g := (mkF m 27 #[oR a1, oR ax, oi 0, oi 2, .val .null, .unset] [])) rfl (hb hby d3_27)
  refine own_go (st' := T3.setTop (mkF m 30 #[oR a1, oR ax, oi 0, oi 2, .val .null, .unset] [(.int zc)])) (st3) ?_
  have hc4 : ¬ (zc = (0 : Int32)) := hzc
  refine own_go (st' := T3.setTop (mkF m 33 #[oR a1, oR ax, oi 0, oi 2, .val .null, .unset] [])) (fun _ k => XS.ifNo X3.here hx rfl (hb hby d3_30) rfl ((if0 _ _).trans (feq hc4).1) k) ?_
  refine own_go (st' := T3.setTop (mkF m 34 #[oR a1, oR ax, oi 0, oi 2, .val .null, .unset] [(.ref ax)])) (fun _ k => XS.aloadN X3.here hx rfl (hb hby d3_33) rfl rfl k) ?_
  refine own_go (st' := T3.setTop (mkF m 35 #[oR a1, oR ax, oi 0, oi 2, .val .null, .unset] [(.int (0 : Int32)), (.ref ax)])) (fun _ k => XS.iloadN X3.here hx rfl (hb hby d3_34) rfl k) ?_
  refine own_go (st' := T3.setTop (mkF m 36 #[oR a1, oR ax, oi 0, oi 2, .val .null, .unset] [(.int (2 : Int32)), (.int (0 : Int32)), (.ref ax)])) (fun _ k => XS.iloadN X3.here hx rfl (hb hby d3_35) rfl k) ?_
  obtain ⟨_, _, ⟨T5, LC5, kC5, nC5⟩, -, X5, ⟨Lc5, hQ5, lq5, yq5, zq5⟩, st5⟩ := Jvm.LawKit.callS X3 hx (y := oM6) hown (mvT hZ (own_hw hw 96)) (mvT hZ (own_hw hw 97)) (mvT hZ (own_hw hw 98)) (mvT hZ (own_hw hw 99)) (by decide) (backOf (W := 0) (rcq_2 l Z a0 hw [] ax ka u0 u1 h0 n0 (by omega) pr4 hl_u0 hl_u1) hZ (own_hw hw 99) (own_hw hw 98) (by decide) (by decide)) (g := (mkF m 36 #[oR a1, oR ax, oi 0, oi 2, .val .null, .unset] [(.int (2 : Int32)), (.int (0 : Int32)), (.ref ax)])) rfl (by rw [hml]; rfl) (argsL := [(.ref ax), (.int (0 : Int32)), (.int (2 : Int32))]) (rest := []) (lenOf pd_3 rfl) rfl (by show 2 * 0 + _ ≤ _; exact Nat.le_of_eq rfl) (hb hby d3_36) (fun _ _ => ⟨rfl, e3, (by decide : 0 + 1 ≤ _), (by decide : 0 + 2 ≤ _)⟩)
  dsimp only [Pt.U, Pt.locs, Pt.cells, Pt.slots] at X5 lq5 yq5 zq5 st5 hQ5
  subst lq5 yq5 zq5
  obtain ⟨h5, e5⟩ : ∃ z, T5.heap = z := ⟨_, rfl⟩
  rw [e5] at hQ5
  obtain ⟨r_5, kr_5, rfl, Nq5, K5, g5_0, g5_1⟩ := hQ5
  have sz5 : h0.size ≤ h5.size := K5.1
  have N5 := Fr.app N0 Nq5
  have lt5_1 : @LT.lt Nat _ r_5 h5.size := g5_0.lt
  refine own_go (st' := T5.setTop (mkF m 39 #[oR a1, oR ax, oi 0, oi 2, .val .null, .unset] [(.ref r_5)])) (fun t k => st5 t k) ?_
  refine own_go (st' := T5.setTop (mkF m 41 #[oR a1, oR ax, oi 0, oi 2, .val .null, oR r_5] [])) (fun _ k => XS.astore X5.here hx rfl (hb hby d3_39) rfl rfl (l' := #[oR a1, oR ax, oi 0, oi 2, .val .null, oR r_5]) rfl k) ?_
  refine own_go (st' := T5.setTop (mkF m 42 #[oR a1, oR ax, oi 0, oi 2, .val .null, oR r_5] [(.ref a1)])) (fun _ k => XS.aloadN X5.here hx rfl (hb hby d3_41) rfl rfl k) ?_
  refine own_go (st' := T5.setTop (mkF m 44 #[oR a1, oR ax, oi 0, oi 2, .val .null, oR r_5] [(.ref r_5), (.ref a1)])) (fun _ k => XS.aload X5.here hx rfl (hb hby d3_42) rfl rfl k) ?_
  refine own_go (st' := T5.setTop (mkF m 45 #[oR a1, oR ax, oi 0, oi 2, .val .null, oR r_5] [(.int (2 : Int32)), (.ref r_5), (.ref a1)])) (fun _ k => XS.iloadN X5.here hx rfl (hb hby d3_44) rfl k) ?_
  obtain ⟨_, _, ⟨T6, LC6, kC6, nC6⟩, -, X6, ⟨Lc6, hQ6, lq6, yq6, zq6⟩, st6⟩ := Jvm.LawKit.callS X5 hx (y := oM7) hown (mvT hZ (own_hw hw 103)) (mvT hZ (own_hw hw 104)) (mvT hZ (own_hw hw 98)) (mvT hZ (own_hw hw 105)) (by decide) (backOf (W := 1) (rcd_2 l Z a0 hw [] r_5 kr_5 [(.int (own_by u0)), (.int (own_by u1))] h5 n0 (by omega) g5_0) hZ (own_hw hw 105) (own_hw hw 98) (by decide) (by decide)) (g := (mkF m 45 #[oR a1, oR ax, oi 0, oi 2, .val .null, oR r_5] [(.int (2 : Int32)), (.ref r_5), (.ref a1)])) rfl (by rw [hml]; rfl) (argsL := [(.ref r_5), (.int (2 : Int32))]) (rest := [(.ref a1)]) (lenOf pd_4 rfl) rfl (by show 2 * 0 + _ ≤ _; exact Nat.le_of_eq rfl) (hb hby d3_45) (fun _ _ => ⟨rfl, e5, (by decide : 1 + 0 ≤ _), (by decide : 2 + 0 ≤ _)⟩)
  dsimp only [Pt.U, Pt.locs, Pt.cells, Pt.slots] at X6 lq6 yq6 zq6 st6 hQ6
  subst lq6 yq6 zq6
  obtain ⟨rfl, Nq6, eq6⟩ := hQ6
  have N6 := Fr.app N5 Nq6
  refine own_go (st' := T6.setTop (mkF m 48 #[oR a1, oR ax, oi 0, oi 2, .val .null, oR r_5] [(.int (0 : Int32)), (.ref a1)])) (fun t k => st6 t k) ?_
  have c7 : Fld Z h5 a1 oS0 "coder" "B" (.int (0 : Int32)) := (pr3.keep K5 nin0)
  have c8 : Exa Z h5 a1 oS0 := (pr1.keep K5)
  obtain ⟨T9, h9, X9, e9, W9, st9⟩ := putFN X6 hx hZ hown (own_hw hw 29) Via.refl eq6 c7 c8 (Or.inr ⟨(own_hw hw 25), rfl, hnm⟩) (own_hw hw 9) (ty := .byte) (v' := (.int (0 : Int32))) (by decide) rfl rfl (g := (mkF m 48 #[oR a1, oR ax, oi 0, oi 2, .val .null, oR r_5] [(.int (0 : Int32)), (.ref a1)])) rfl rfl (hb hby d3_48)
  have sz9 : h9.size = h5.size := W9.size
  have N9 := Fr.snoc X9 N6 (by omega)
  have f9 : Fld Z h9 a1 oS0 "coder" "B" (.int (0 : Int32)) := c7.same W9
  refine own_go (st' := T9.setTop (mkF m 51 #[oR a1, oR ax, oi 0, oi 2, .val .null, oR r_5] [])) (st9) ?_
  refine own_go (st' := T9.setTop (mkF m 52 #[oR a1, oR ax, oi 0, oi 2, .val .null, oR r_5] [(.ref a1)])) (fun _ k => XS.aloadN X9.here hx rfl (hb hby d3_51) rfl rfl k) ?_
  refine own_go (st' := T9.setTop (mkF m 54 #[oR a1, oR ax, oi 0, oi 2, .val .null, oR r_5] [(.ref r_5), (.ref a1)])) (fun _ k => XS.aload X9.here hx rfl (hb hby d3_52) rfl rfl k) ?_
  have c10 : Fld Z h9 a1 oS0 "value" "[B" .null := ((pr2.keep K5 nin0).other W9 (Or.inr (slot_ne (Or.inr (own_hw hw 24)) (Or.inr (own_hw hw 25)) (by decide) (t := (.array .byte)) (t' := .byte) (by decide) (by decide))))
  have c11 : Exa Z h9 a1 oS0 := (c8.wr W9)
  obtain ⟨T12, h12, X12, e12, W12, st12⟩ := putF X9 hx hZ hown (host := "") (Or.inl (own_hw hw 28)) Via.refl e9 c10 c11 (Or.inr ⟨(own_hw hw 24), rfl, hnm⟩) (own_hw hw 9) (ty := (.array .byte)) (by decide) rfl rfl (g := (mkF m 54 #[oR a1, oR ax, oi 0, oi 2, .val .null, oR r_5] [(.ref r_5), (.ref a1)])) rfl rfl (hb hby d3_54)
  have sz12 : h12.size = h9.size := W12.size
  have N12 := Fr.snoc X12 N9 (by omega)
  have f12 : Fld Z h12 a1 oS0 "value" "[B" (.ref r_5) := c10.same W12
  refine own_go (st' := T12.setTop (mkF m 57 #[oR a1, oR ax, oi 0, oi 2, .val .null, oR r_5] [])) (st12) ?_
  obtain ⟨fs, hr, hrun, hended, hW, hsame⟩ := X12.leave (v := none) (fun _ => rfl)
  refine ⟨_, _, ?_, hP _ _ hrun hended ⟨_, _, rfl, ?_, ⟨_, rfl⟩, hW, hsame.mono (by decide) (by decide)⟩⟩
  · exact X12.returnOut hx Bd.returns (hb hby d3_57) hr
  · show Qrsi_2 Z a1 ax ka zc u0 u1 h0 n0 _ T12.heap _
    have c14 : Exa Z h12 a1 oS0 := (c11.wr W12)
    have c15 : Fld Z h12 a1 oS0 "coder" "B" (.int (0 : Int32)) := (f9.other W12 (Or.inr (slot_ne (Or.inr (own_hw hw 25)) (Or.inr (own_hw hw 24)) (by decide) (t := .byte) (t' := (.array .byte)) (by decide) (by decide))))
    have c16 : Arv Z h12 r_5 kr_5 .byte (2 : Int32) [(.int (own_by u0)), (.int (own_by u1))] (.int (0 : Int32)) := ((g5_0.other W9 (own_ne (by omega))).other W12 (own_ne (by omega)))
    rw [e12]
    exact ⟨r_5, kr_5, rfl, N12, ((((Keep.refl h0 [a1]).trans K5 all0).wr W9 (Or.inl (List.mem_of_getElem? (i := 0) rfl))).wr W12 (Or.inl (List.mem_of_getElem? (i := 0) rfl))), c14, f12, c15, c16, (by omega)⟩
theorem ef_rsc_2 (m : MethodId) (x0 : Addr) (x1 : Addr) : entryFrame m #[(.ref x0), (.ref x1)] 2 = mkF m 0 #[.val (.ref x0), .val (.ref x1)] [] := by first | (simp [entryFrame, mkF, argsToLocals, Value.category]; done) | rfl
def Qrsc_2 (Z : State) (a1 : Addr) (ax : Addr) (ka : ClassId) (zc : Int32) (u0 : Int32) (u1 : Int32) (h0 : Heap) (n0 : Nat) (v : Option Value) (h : Heap) (L : List Loc) : Prop := ∃ (r : Addr) (kr : ClassId), (v = none) ∧ (Fr n0 L) ∧ (Keep h0 h [a1]) ∧ (Exa Z h a1 "java/lang/String") ∧ (Fld Z h a1 "java/lang/String" "value" "[B" (.ref r)) ∧ (Fld Z h a1 "java/lang/String" "coder" "B" (.int (0 : Int32))) ∧ (Arv Z h r kr .byte (2 : Int32) [(.int (own_by u0)), (.int (own_by u1))] (.int (0 : Int32))) ∧ (h0.size ≤ r)
set_option maxRecDepth 65536 in
set_option maxHeartbeats 40000000 in
theorem rsc_2 (l : Launch) (Z : State) (a0 : Array Value) (hw : ∀ d ∈ tables_1, d.before a0 Z = true) (ws : List Jvm.Cond) (a1 : Addr) (ax : Addr) (ka : ClassId) (zc : Int32) (u0 : Int32) (u1 : Int32) (h0 : Heap) (n0 : Nat) (Z0 : n0 ≤ h0.size) (pr1 : Exa Z h0 a1 oS0) (pr2 : Fld Z h0 a1 oS0 "value" "[B" .null) (pr3 : Fld Z h0 a1 oS0 "coder" "B" (.int (0 : Int32))) (pr4 : Arv Z h0 ax ka .char (2 : Int32) [(.int u0), (.int u1)] (.int (0 : Int32))) (pr5 : Sta Z h0 oS0 oS2 "Z" (.int zc)) (hzc : ¬ zc = (0 : Int32)) (hl_u0 : own_lat u0) (hl_u1 : own_lat u1) (pr6 : n0 ≤ a1) (pr7 : @Ne Nat a1 ax) :
    MetFree l oM3 (head1 (Jvm.Cond.code oM3 jdk_42_method_3_code 2 none :: ws) ({ frames := 3, cells := 1, slots := 2, locals := 52 } : Room)) (fun a U => a = #[(.ref a1), (.ref ax)] ∧ Z.Warmed39 U.vm ∧ U.heap = h0) (fun _ _ _ _ _ => True) (fun _ U o U' => ∃ v L, o = .returned v ∧ Qrsc_2 Z a1 ax ka zc u0 u1 h0 n0 v U'.heap L ∧ FrameEnd U o U' L ({ frames := 3, cells := 1, slots := 2, locals := 52 } : Room).cells ({ frames := 3, cells := 1, slots := 2, locals := 52 } : Room).slots) := by
  refine MetFree.of_bodySF (plainFor_of_name pn_2) hisR ?_
  intro p e s m args below meth c s₁ Bd hml0 hP0 hK
  obtain ⟨rfl, hZ, hh⟩ := hP0
  have hx := Bd.exec
  have hby := Bd.bytes
  have hml : c.maxLocals = 2 := hml0
  have hown : s.vm.findClass oS0 = some m.cls := findClass_of_methodNamed Bd.named
  have hnm := (name_of_methodNamed Bd.named Bd.method).1
  have X0 : Stand p l e ({ frames := 3, cells := 1, slots := 2, locals := 52 } : Room) s m #[(.ref a1), (.ref ax)] below meth c s₁ [] 0 0 := Stand.of_body Bd
  have e0 : s₁.heap = h0 := by rw [← hh, Bd.state]; rfl
  have N0 := Fr.nil n0
  suffices own_H : ∀ (P : State → Outcome → Prop), (∀ U o, U.status = .running → Ended U below o → (∃ v L, o = .returned v ∧ Qrsc_2 Z a1 ax ka zc u0 u1 h0 n0 v U.heap L ∧ FrameEnd s o U L ({ frames := 3, cells := 1, slots := 2, locals := 52 } : Room).cells ({ frames := 3, cells := 1, slots := 2, locals := 52 } : Room).slots) → P U o) → own_Go p.tables e below P (s₁.setTop (mkF m 0 #[oR a1, oR ax] [])) from own_go (fun _ k => castTop (ef_rsc_2 m a1 ax) k) (own_H _ (fun U o h1 h2 h3 => ⟨h1, h2, h3⟩))
  intro P hP
  have lt_a1 : @LT.lt Nat _ a1 h0.size := pr1.lt
  have lt_ax : @LT.lt Nat _ ax h0.size := pr4.lt
  refine own_go (st' := s₁.setTop (mkF m 1 #[oR a1, oR ax] [(.ref a1)])) (fun _ k => XS.aloadN X0.here hx rfl (hb hby d2_0) rfl rfl k) ?_
  refine own_go (st' := s₁.setTop (mkF m 2 #[oR a1, oR ax] [(.ref ax), (.ref a1)])) (fun _ k => XS.aloadN X0.here hx rfl (hb hby d2_1) rfl rfl k) ?_
  refine own_go (st' := s₁.setTop (mkF m 3 #[oR a1, oR ax] [(.int (0 : Int32)), (.ref ax), (.ref a1)])) (fun _ k => XS.iconst X0.here hx rfl (hb hby d2_2) k) ?_
  refine own_go (st' := s₁.setTop (mkF m 4 #[oR a1, oR ax] [(.ref ax), (.int (0 : Int32)), (.ref ax), (.ref a1)])) (fun _ k => XS.aloadN X0.here hx rfl (hb hby d2_3) rfl rfl k) ?_
  obtain ⟨cl1, Ar1, -, S1, M1, -, -⟩ := id pr4
  refine own_go (st' := s₁.setTop (mkF m 5 #[oR a1, oR ax] [(.int (2 : Int32)), (.int (0 : Int32)), (.ref ax), (.ref a1)])) (fun t k => X0.arraylength hx (by rw [e0]; exact Ar1.1) (State.isArrayOf_alike hZ.alike Ar1.2.1) (g := (mkF m 4 #[oR a1, oR ax] [(.ref ax), (.int (0 : Int32)), (.ref ax), (.ref a1)])) rfl rfl (hb hby d2_4) t (by rw [len_of S1 M1]; exact k)) ?_
  refine own_go (st' := s₁.setTop (mkF m 6 #[oR a1, oR ax] [.null, (.int (2 : Int32)), (.int (0 : Int32)), (.ref ax), (.ref a1)])) (fun _ k => XS.aconstNull X0.here hx rfl (hb hby d2_5) k) ?_
  obtain ⟨_, _, ⟨T2, LC2, kC2, nC2⟩, -, X2, ⟨Lc2, hQ2, lq2, yq2, zq2⟩, st2⟩ := X0.specialBack hx (y := oM2) rfl hown (mvT hZ (own_hw hw 15)) (mvT hZ (own_hw hw 16)) (mvT hZ (own_hw hw 18)) (by decide) (backOf (W := 0) (rsi_2 l Z a0 hw [] a1 ax ka zc u0 u1 h0 n0 (by omega) pr1 pr2 pr3 pr4 pr5 (by assumption) hl_u0 hl_u1 (by omega) (own_ne (by omega))) hZ (own_hw hw 18) (own_hw hw 10) (by decide) (by decide)) (g := (mkF m 6 #[oR a1, oR ax] [.null, (.int (2 : Int32)), (.int (0 : Int32)), (.ref ax), (.ref a1)])) rfl (by rw [hml]; rfl) (Steps.refl _) (a := a1) (argsL := [(.ref ax), (.int (0 : Int32)), (.int (2 : Int32)), .null]) (rest := []) (lenOf pd_5 rfl) rfl (by show 2 * 0 + _ ≤ _; exact Nat.le_of_eq rfl) (hb hby d2_6) (fun _ _ => ⟨rfl, e0, (by decide : 0 + 1 ≤ _), (by decide : 0 + 2 ≤ _)⟩)
  dsimp only [Pt.U, Pt.locs, Pt.cells, Pt.slots] at X2 lq2 yq2 zq2 st2 hQ2
  subst lq2 yq2 zq2
  obtain ⟨h2, e2⟩ : ∃ z, T2.heap = z := ⟨_, rfl⟩
  rw [e2] at hQ2
  obtain ⟨r_2, kr_2, rfl, Nq2, K2, g2_0, g2_1, g2_2, g2_3, g2_4⟩ := hQ2
  have sz2 : h0.size ≤ h2.size := K2.1
  have N2 := Fr.app N0 Nq2
  have lt2_1 : @LT.lt Nat _ a1 h2.size := g2_0.lt
  have lt2_2 : @LT.lt Nat _ r_2 h2.size := g2_3.lt
  refine own_go (st' := T2.setTop (mkF m 9 #[oR a1, oR ax] [])) (fun _ k => st2.trans k) ?_
  obtain ⟨fs, hr, hrun, hended, hW, hsame⟩ := X2.leave (v := none) (fun _ => rfl)
  refine ⟨_, _, ?_, hP _ _ hrun hended ⟨_, _, rfl, ?_, ⟨_, rfl⟩, hW, hsame.mono (by decide) (by decide)⟩⟩
  · exact X2.returnOut hx Bd.returns (hb hby d2_9) hr
  · show Qrsc_2 Z a1 ax ka zc u0 u1 h0 n0 _ T2.heap _
    rw [e2]
    exact ⟨r_2, kr_2, rfl, N2, ((Keep.refl h0 [a1]).trans K2 (allS (P := fun x => x ∈ [a1] ∨ h0.size ≤ x) (Or.inl (List.mem_of_getElem? (i := 0) rfl)) all0)), g2_0, g2_1, g2_2, g2_3, (by omega)⟩
theorem own_wS {a0 : Array Value} {Z : State} (hw : ∀ d ∈ tables_1, d.before a0 Z = true) : ∀ a ∈ Bundle.stringAtoms, a.before a0 Z = true := by
  intro a h
  simp only [Bundle.stringAtoms, List.mem_cons, List.not_mem_nil, or_false] at h
  rcases h with rfl | rfl | rfl | rfl | rfl | rfl | rfl
  · exact (own_hw hw 10)
  · exact (own_hw hw 9)
  · exact (own_hw hw 23)
  · exact (own_hw hw 24)
  · exact (own_hw hw 25)
  · exact (own_hw hw 26)
  · exact (own_hw hw 27)
theorem d3_8 : decode jdk_42_method_149_code 8 = .ok (.aload_n 0, 1) := by decide +kernel
theorem d3_9 : decode jdk_42_method_149_code 9 = .ok (.ldc 7, 2) := by decide +kernel
theorem d3_11 : decode jdk_42_method_149_code 11 = .ok (.getfield 9, 3) := by decide +kernel
theorem d3_14 : decode jdk_42_method_149_code 14 = .ok (.putfield 9, 3) := by decide +kernel
theorem d3_17 : decode jdk_42_method_149_code 17 = .ok (.aload_n 0, 1) := by decide +kernel
theorem d3_18 : decode jdk_42_method_149_code 18 = .ok (.ldc 7, 2) := by decide +kernel
theorem d3_20 : decode jdk_42_method_149_code 20 = .ok (.getfield 15, 3) := by decide +kernel
theorem d3_23 : decode jdk_42_method_149_code 23 = .ok (.putfield 15, 3) := by decide +kernel
theorem d3_26 : decode jdk_42_method_149_code 26 = .ok (.return_, 1) := by decide +kernel
theorem ef_rsi_0 (m : MethodId) (x0 : Addr) (x1 : Addr) (x2 : Int32) (x3 : Int32) : entryFrame m #[(.ref x0), (.ref x1), (.int x2), (.int x3), .null] 6 = mkF m 0 #[.val (.ref x0), .val (.ref x1), .val (.int x2), .val (.int x3), .val .null, .unset] [] := by first | (simp [entryFrame, mkF, argsToLocals, Value.category]; done) | rfl
def Qrsi_0 (Z : State) (a1 : Addr) (ax : Addr) (h0 : Heap) (n0 : Nat) (v : Option Value) (h : Heap) (L : List Loc) : Prop := ∃ (r : Addr) (kr : ClassId), (v = none) ∧ (Fr n0 L) ∧ (Keep h0 h [a1]) ∧ (Exa Z h a1 "java/lang/String") ∧ (Fld Z h a1 "java/lang/String" "value" "[B" (.ref r)) ∧ (Fld Z h a1 "java/lang/String" "coder" "B" (.int (0 : Int32))) ∧ (Arv Z h r kr .byte (0 : Int32) [] (.int (0 : Int32)))
set_option maxRecDepth 65536 in
set_option maxHeartbeats 40000000 in
theorem rsi_0 (l : Launch) (Z : State) (a0 : Array Value) (hw : ∀ d ∈ tables_1, d.before a0 Z = true) (ws : List Jvm.Cond) (a1 : Addr) (ax : Addr) (h0 : Heap) (n0 : Nat) (Z0 : n0 ≤ h0.size) (pr1 : Exa Z h0 a1 oS0) (pr2 : Fld Z h0 a1 oS0 "value" "[B" .null) (pr3 : Fld Z h0 a1 oS0 "coder" "B" (.int (0 : Int32))) (pr4 : n0 ≤ a1) :
    MetFree l oM2 (head1 (Jvm.Cond.code oM2 jdk_42_method_149_code 6 none :: ws) ({ frames := 1, cells := 2, slots := 4, locals := 12 } : Room)) (fun a U => a = #[(.ref a1), (.ref ax), (.int (0 : Int32)), (.int (0 : Int32)), .null] ∧ Z.Warmed39 U.vm ∧ U.heap = h0 ∧ CHv Z own_EL U.vm h0) (fun _ _ _ _ _ => True) (fun _ U o U' => ∃ v L, o = .returned v ∧ Qrsi_0 Z a1 ax h0 n0 v U'.heap L ∧ CHr Z own_EL U.vm U.heap U'.vm U'.heap ∧ ReturnedEndW U o U' L ({ frames := 1, cells := 2, slots := 4, locals := 12 } : Room).cells ({ frames := 1, cells := 2, slots := 4, locals := 12 } : Room).slots) := by
  refine MetFree.of_bodySF (plainFor_of_name pn_3) hisR ?_
  intro p e s m args below meth c s₁ Bd hml0 hP0 hK
  obtain ⟨rfl, hZ, hh, hC0⟩ := hP0
  have hx := Bd.exec
  have hby := Bd.bytes
  have hml : c.maxLocals = 6 := hml0
  have hown : s.vm.findClass oS0 = some m.cls := findClass_of_methodNamed Bd.named
  have hnm := (name_of_methodNamed Bd.named Bd.method).1
  have X0 : Stand p l e ({ frames := 1, cells := 2, slots := 4, locals := 12 } : Room) (s.setVm s.vm) m #[(.ref a1), (.ref ax), (.int (0 : Int32)), (.int (0 : Int32)), .null] below meth c s₁ [] 0 0 := Stand.of_body Bd
  have hS0 : s.Since s.vm h0.size := (State.WarmedH.refl s).since _
  have hZ : Z.Warmed39 (s.setVm s.vm).vm := hZ
  have hown : (s.setVm s.vm).vm.findClass oS0 = some m.cls := hown
  have e0 : s₁.heap = h0 := by rw [← hh, Bd.state]; rfl
  have N0 := Fr.nil n0
  suffices own_H : ∀ (P : State → Outcome → Prop), (∀ U o, U.status = .running → Ended U below o → (∃ v L, o = .returned v ∧ Qrsi_0 Z a1 ax h0 n0 v U.heap L ∧ CHr Z own_EL s.vm s.heap U.vm U.heap ∧ ReturnedEndW s o U L ({ frames := 1, cells := 2, slots := 4, locals := 12 } : Room).cells ({ frames := 1, cells := 2, slots := 4, locals := 12 } : Room).slots) → P U o) → own_Go p.tables e below P (s₁.setTop (mkF m 0 #[oR a1, oR ax, oi 0, oi 0, .val .null, .unset] [])) from own_go (fun _ k => castTop (ef_rsi_0 m a1 ax (0 : Int32) (0 : Int32)) k) (own_H _ (fun U o h1 h2 h3 => ⟨h1, h2, h3⟩))
  intro P hP
  have hEL : EW Z a0 own_EL := own_ew hw
  have A0 : CHr Z own_EL s.vm h0 s.vm h0 := CHr.refl hC0
  have sf_a1 : Safe Z own_EL s.vm h0 a1 := own_safe_null hZ.alike pr1 pr2
  have lt_a1 : @LT.lt Nat _ a1 h0.size := pr1.lt
  refine own_go (st' := s₁.setTop (mkF m 1 #[oR a1, oR ax, oi 0, oi 0, .val .null, .unset] [(.ref a1)])) (fun _ k => XS.aloadN X0.here hx rfl (hb hby d3_0) rfl rfl k) ?_
  obtain ⟨T1, X1, e1, st1⟩ := initO X0 hx hZ hown (own_hw hw 19) (own_hw hw 20) (own_hw hw 21) e0 (g := (mkF m 1 #[oR a1, oR ax, oi 0, oi 0, .val .null, .unset] [(.ref a1)])) rfl (by rw [hml]; rfl) rfl (hb hby d3_1) (by decide) (W := 0) (by show 2 * 0 + _ ≤ _; exact Nat.le_of_eq rfl) (by decide)
  refine own_go (st' := T1.setTop (mkF m 4 #[oR a1, oR ax, oi 0, oi 0, .val .null, .unset] [])) (st1) ?_
  refine own_go (st' := T1.setTop (mkF m 5 #[oR a1, oR ax, oi 0, oi 0, .val .null, .unset] [(.int (0 : Int32))])) (fun _ k => XS.iloadN X1.here hx rfl (hb hby d3_4) rfl k) ?_
  have hc2 : (0 : Int32) = (0 : Int32) := by decide
  refine own_go (st' := T1.setTop (mkF m 8 #[oR a1, oR ax, oi 0, oi 0, .val .null, .unset] [])) (fun _ k => XS.ifNo X1.here hx rfl (hb hby d3_5) rfl ((if0 _ _).trans (teq hc2).2) k) ?_
  refine own_go (st' := T1.setTop (mkF m 9 #[oR a1, oR ax, oi 0, oi 0, .val .null, .unset] [(.ref a1)])) (fun _ k => XS.aloadN X1.here hx rfl (hb hby d3_8) rfl rfl k) ?_
  obtain ⟨b3, T3, h3, k3, bv3, kv3, X3, e3, E3, hS3, hk3, hZ, hown, xa3, xb3, xc3, xd3, -, -, CR3, LT3, SF3, st3⟩ := ldcCH X1 hx hZ hown (own_hw hw 22) (own_wS hw) e1 hS0 (by omega) hEL (by decide) A0.1 (vs := []) (z := (0 : Int32)) ⟨by decide, rfl⟩ (by decide) rfl (g := (mkF m 9 #[oR a1, oR ax, oi 0, oi 0, .val .null, .unset] [(.ref a1)])) rfl (hb hby d3_9) (n := 0) (by decide +kernel) (by decide) (by decide) (by decide)
  have sz3 : h0.size ≤ h3.size := E3.1
  have lta3 : @LT.lt Nat _ b3 h3.size := xa3.lt
  have ltb3 : @LT.lt Nat _ bv3 h3.size := xd3.lt
  have AA4 := A0.trans CR3
  have sf5 := CHr.safe CR3 (show @LT.lt Nat _ a1 h0.size by omega) sf_a1
  have nsa3_a1 : @Ne Nat a1 b3 := (SF3 _ sf5).1
  have nsb3_a1 : @Ne Nat a1 bv3 := (SF3 _ sf5).2
  refine own_go (st' := T3.setTop (mkF m 11 #[oR a1, oR ax, oi 0, oi 0, .val .null, .unset] [(.ref b3), (.ref a1)])) (st3) ?_
  obtain ⟨T6, X6, e6, st6⟩ := getF X3 hx hZ hown (host := "") (Or.inl (own_hw hw 28)) Via.refl e3 xc3 (g := (mkF m 11 #[oR a1, oR ax, oi 0, oi 0, .val .null, .unset] [(.ref b3), (.ref a1)])) rfl rfl (hb hby d3_11)
  refine own_go (st' := T6.setTop (mkF m 14 #[oR a1, oR ax, oi 0, oi 0, .val .null, .unset] [(.ref bv3), (.ref a1)])) (st6) ?_
  have c7 : Fld Z h3 a1 oS0 "value" "[B" .null := (pr2.ext E3)
  have c8 : Exa Z h3 a1 oS0 := (pr1.ext E3)
  obtain ⟨T9, h9, X9, e9, W9, st9⟩ := putF X6 hx hZ hown (host := "") (Or.inl (own_hw hw 28)) Via.refl e6 c7 c8 (Or.inr ⟨(own_hw hw 24), rfl, hnm⟩) (own_hw hw 9) (ty := (.array .byte)) (by decide) rfl rfl (g := (mkF m 14 #[oR a1, oR ax, oi 0, oi 0, .val .null, .unset] [(.ref bv3), (.ref a1)])) rfl rfl (hb hby d3_14)
  have sz9 : h9.size = h3.size := W9.size
  have N9 := Fr.snoc X9 N0 (by omega)
  have f9 : Fld Z h9 a1 oS0 "value" "[B" (.ref bv3) := c7.same W9
  refine own_go (st' := T9.setTop (mkF m 17 #[oR a1, oR ax, oi 0, oi 0, .val .null, .unset] [])) (st9) ?_
  refine own_go (st' := T9.setTop (mkF m 18 #[oR a1, oR ax, oi 0, oi 0, .val .null, .unset] [(.ref a1)])) (fun _ k => XS.aloadN X9.here hx rfl (hb hby d3_17) rfl rfl k) ?_
  refine own_go (st' := T9.setTop (mkF m 20 #[oR a1, oR ax, oi 0, oi 0, .val .null, .unset] [(.ref b3), (.ref a1)])) (ldcAgain X9 hx hZ hown (own_hw hw 22) LT3 (g := (mkF m 18 #[oR a1, oR ax, oi 0, oi 0, .val .null, .unset] [(.ref a1)])) rfl (hb hby d3_18)) ?_
  have c11 : Fld Z h9 b3 oS0 "coder" "B" (.int (0 : Int32)) := (xb3.other W9 (Or.inl (own_ne (by omega))))
  obtain ⟨T12, X12, e12, st12⟩ := getF X9 hx hZ hown (host := "") (Or.inl (own_hw hw 29)) Via.refl e9 c11 (g := (mkF m 20 #[oR a1, oR ax, oi 0, oi 0, .val .null, .unset] [(.ref b3), (.ref a1)])) rfl rfl (hb hby d3_20)
  refine own_go (st' := T12.setTop (mkF m 23 #[oR a1, oR ax, oi 0, oi 0, .val .null, .unset] [(.int (0 : Int32)), (.ref a1)])) (st12) ?_
  have c13 : Fld Z h9 a1 oS0 "coder" "B" (.int (0 : Int32)) := ((pr3.ext E3).other W9 (Or.inr (slot_ne (Or.inr (own_hw hw 25)) (Or.inr (own_hw hw 24)) (by decide) (t := .byte) (t' := (.array .byte)) (by decide) (by decide))))
  have c14 : Exa Z h9 a1 oS0 := (c8.wr W9)
  obtain ⟨T15, h15, X15, e15, W15, st15⟩ := putFN X12 hx hZ hown (own_hw hw 29) Via.refl e12 c13 c14 (Or.inr ⟨(own_hw hw 25), rfl, hnm⟩) (own_hw hw 9) (ty := .byte) (v' := (.int (0 : Int32))) (by decide) rfl rfl (g := (mkF m 23 #[oR a1, oR ax, oi 0, oi 0, .val .null, .unset] [(.int (0 : Int32)), (.ref a1)])) rfl rfl (hb hby d3_23)
  have sz15 : h15.size = h9.size := W15.size
  have N15 := Fr.snoc X15 N9 (by omega)
  have f15 : Fld Z h15 a1 oS0 "coder" "B" (.int (0 : Int32)) := c13.same W15
  refine own_go (st' := T15.setTop (mkF m 26 #[oR a1, oR ax, oi 0, oi 0, .val .null, .unset] [])) (st15) ?_
  have KA17 : Keep h3 h15 [a1] := (((Keep.refl h3 [a1]).wr W9 (Or.inl (List.mem_of_getElem? (i := 0) rfl))).wr W15 (Or.inl (List.mem_of_getElem? (i := 0) rfl)))
  have AS17 := CHr.keep (EL := own_EL) KA17 (allS (P := fun x => Safe Z own_EL _ h3 x) sf5 all0) AA4.1
  have AA18 := AA4.trans AS17
  have sf19 := CHr.safe AS17 (show @LT.lt Nat _ a1 h3.size by omega) sf5
  obtain ⟨fs, hr, hrun, hended, hR1, hR2, hR3, hR4⟩ := X15.leaveW hS3 (by rw [e15]; omega) (v := none) (fun _ => rfl)
  refine ⟨_, _, ?_, hP _ _ hrun hended ⟨_, _, rfl, ?_, (by rw [hh]; show CHr Z own_EL s.vm h0 T15.vm T15.heap; rw [e15]; exact AA18.trans (CHv.at X15 hZ hEL AA18.1)), hR1, hR2, hR3, hR4.mono (by decide) (by decide)⟩⟩
  · exact X15.returnOut hx Bd.returns (hb hby d3_26) hr
  · show Qrsi_0 Z a1 ax h0 n0 _ T15.heap _
    have c20 : Exa Z h15 a1 oS0 := (c14.wr W15)
    have c21 : Fld Z h15 a1 oS0 "value" "[B" (.ref bv3) := (f9.other W15 (Or.inr (slot_ne (Or.inr (own_hw hw 24)) (Or.inr (own_hw hw 25)) (by decide) (t := (.array .byte)) (t' := .byte) (by decide) (by decide))))
    have c22 : Arv Z h15 bv3 kv3 .byte (0 : Int32) [] (.int (0 : Int32)) := ((xd3.other W9 (own_ne (by omega))).other W15 (own_ne (by omega)))
    rw [e15]
    exact ⟨bv3, kv3, rfl, N15, ((((Keep.refl h0 [a1]).ext E3).wr W9 (Or.inl (List.mem_of_getElem? (i := 0) rfl))).wr W15 (Or.inl (List.mem_of_getElem? (i := 0) rfl))), c20, c21, f15, c22⟩
theorem ef_rsc_0 (m : MethodId) (x0 : Addr) (x1 : Addr) : entryFrame m #[(.ref x0), (.ref x1)] 2 = mkF m 0 #[.val (.ref x0), .val (.ref x1)] [] := by first | (simp [entryFrame, mkF, argsToLocals, Value.category]; done) | rfl
def Qrsc_0 (Z : State) (a1 : Addr) (ax : Addr) (ka : ClassId) (h0 : Heap) (n0 : Nat) (v : Option Value) (h : Heap) (L : List Loc) : Prop := ∃ (r : Addr) (kr : ClassId), (v = none) ∧ (Fr n0 L) ∧ (Keep h0 h [a1]) ∧ (Exa Z h a1 "java/lang/String") ∧ (Fld Z h a1 "java/lang/String" "value" "[B" (.ref r)) ∧ (Fld Z h a1 "java/lang/String" "coder" "B" (.int (0 : Int32))) ∧ (Arv Z h r kr .byte (0 : Int32) [] (.int (0 : Int32)))
set_option maxRecDepth 65536 in
set_option maxHeartbeats 40000000 in
theorem rsc_0 (l : Launch) (Z : State) (a0 : Array Value) (hw : ∀ d ∈ tables_1, d.before a0 Z = true) (ws : List Jvm.Cond) (a1 : Addr) (ax : Addr) (ka : ClassId) (h0 : Heap) (n0 : Nat) (Z0 : n0 ≤ h0.size) (pr1 : Exa Z h0 a1 oS0) (pr2 : Fld Z h0 a1 oS0 "value" "[B" .null) (pr3 : Fld Z h0 a1 oS0 "coder" "B" (.int (0 : Int32))) (pr4 : Arv Z h0 ax ka .char (0 : Int32) [] (.int (0 : Int32))) (pr5 : n0 ≤ a1) :
    MetFree l oM3 (head1 (Jvm.Cond.code oM3 jdk_42_method_3_code 2 none :: ws) ({ frames := 2, cells := 2, slots := 4, locals := 29 } : Room)) (fun a U => a = #[(.ref a1), (.ref ax)] ∧ Z.Warmed39 U.vm ∧ U.heap = h0 ∧ CHv Z own_EL U.vm h0) (fun _ _ _ _ _ => True) (fun _ U o U' => ∃ v L, o = .returned v ∧ Qrsc_0 Z a1 ax ka h0 n0 v U'.heap L ∧ CHr Z own_EL U.vm U.heap U'.vm U'.heap ∧ ReturnedEndW U o U' L ({ frames := 2, cells := 2, slots := 4, locals := 29 } : Room).cells ({ frames := 2, cells := 2, slots := 4, locals := 29 } : Room).slots) := by
  refine MetFree.of_bodySF (plainFor_of_name pn_2) hisR ?_
  intro p e s m args below meth c s₁ Bd hml0 hP0 hK
  obtain ⟨rfl, hZ, hh, hC0⟩ := hP0
  have hx := Bd.exec
  have hby := Bd.bytes
  have hml : c.maxLocals = 2 := hml0
  have hown : s.vm.findClass oS0 = some m.cls := findClass_of_methodNamed Bd.named
  have hnm := (name_of_methodNamed Bd.named Bd.method).1
  have X0 : Stand p l e ({ frames := 2, cells := 2, slots := 4, locals := 29 } : Room) (s.setVm s.vm) m #[(.ref a1), (.ref ax)] below meth c s₁ [] 0 0 := Stand.of_body Bd
  have hS0 : s.Since s.vm h0.size := (State.WarmedH.refl s).since _
  have hZ : Z.Warmed39 (s.setVm s.vm).vm := hZ
  have hown : (s.setVm s.vm).vm.findClass oS0 = some m.cls := hown
  have e0 : s₁.heap = h0 := by rw [← hh, Bd.state]; rfl
  have N0 := Fr.nil n0
  suffices own_H : ∀ (P : State → Outcome → Prop), (∀ U o, U.status = .running → Ended U below o → (∃ v L, o = .returned v ∧ Qrsc_0 Z a1 ax ka h0 n0 v U.heap L ∧ CHr Z own_EL s.vm s.heap U.vm U.heap ∧ ReturnedEndW s o U L ({ frames := 2, cells := 2, slots := 4, locals := 29 } : Room).cells ({ frames := 2, cells := 2, slots := 4, locals := 29 } : Room).slots) → P U o) → own_Go p.tables e below P (s₁.setTop (mkF m 0 #[oR a1, oR ax] [])) from own_go (fun _ k => castTop (ef_rsc_0 m a1 ax) k) (own_H _ (fun U o h1 h2 h3 => ⟨h1, h2, h3⟩))
  intro P hP
  have hEL : EW Z a0 own_EL := own_ew hw
  have A0 : CHr Z own_EL s.vm h0 s.vm h0 := CHr.refl hC0
  have sf_a1 : Safe Z own_EL s.vm h0 a1 := own_safe_null hZ.alike pr1 pr2
  have lt_a1 : @LT.lt Nat _ a1 h0.size := pr1.lt
  have lt_ax : @LT.lt Nat _ ax h0.size := pr4.lt
  refine own_go (st' := s₁.setTop (mkF m 1 #[oR a1, oR ax] [(.ref a1)])) (fun _ k => XS.aloadN X0.here hx rfl (hb hby d2_0) rfl rfl k) ?_
  refine own_go (st' := s₁.setTop (mkF m 2 #[oR a1, oR ax] [(.ref ax), (.ref a1)])) (fun _ k => XS.aloadN X0.here hx rfl (hb hby d2_1) rfl rfl k) ?_
  refine own_go (st' := s₁.setTop (mkF m 3 #[oR a1, oR ax] [(.int (0 : Int32)), (.ref ax), (.ref a1)])) (fun _ k => XS.iconst X0.here hx rfl (hb hby d2_2) k) ?_
  refine own_go (st' := s₁.setTop (mkF m 4 #[oR a1, oR ax] [(.ref ax), (.int (0 : Int32)), (.ref ax), (.ref a1)])) (fun _ k => XS.aloadN X0.here hx rfl (hb hby d2_3) rfl rfl k) ?_
  obtain ⟨cl1, Ar1, -, S1, M1, -, -⟩ := id pr4
  refine own_go (st' := s₁.setTop (mkF m 5 #[oR a1, oR ax] [(.int (0 : Int32)), (.int (0 : Int32)), (.ref ax), (.ref a1)])) (fun t k => X0.arraylength hx (by rw [e0]; exact Ar1.1) (State.isArrayOf_alike hZ.alike Ar1.2.1) (g := (mkF m 4 #[oR a1, oR ax] [(.ref ax), (.int (0 : Int32)), (.ref ax), (.ref a1)])) rfl rfl (hb hby d2_4) t (by rw [len_of S1 M1]; exact k)) ?_
  refine own_go (st' := s₁.setTop (mkF m 6 #[oR a1, oR ax] [.null, (.int (0 : Int32)), (.int (0 : Int32)), (.ref ax), (.ref a1)])) (fun _ k => XS.aconstNull X0.here hx rfl (hb hby d2_5) k) ?_
  obtain ⟨_, _, ⟨T2, LC2, kC2, nC2⟩, -, X2, hS2, hg2, ⟨Lc2, hQ2, lq2, yq2, zq2, CR2⟩, st2⟩ := X0.specialBackS hx (y := oM2) rfl hown (mvT hZ (own_hw hw 15)) (mvT hZ (own_hw hw 16)) (mvT hZ (own_hw hw 18)) (by decide) (backOfSH (W := 0) (rsi_0 l Z a0 hw [] a1 ax h0 n0 (by omega) pr1 pr2 pr3 (by omega)) hZ (own_hw hw 18) (own_hw hw 10) (by decide) (by decide) hEL A0.1) (g := (mkF m 6 #[oR a1, oR ax] [.null, (.int (0 : Int32)), (.int (0 : Int32)), (.ref ax), (.ref a1)])) rfl (by rw [hml]; rfl) (Steps.refl _) (a := a1) (argsL := [(.ref ax), (.int (0 : Int32)), (.int (0 : Int32)), .null]) (rest := []) (lenOf pd_5 rfl) rfl (by show 2 * 0 + _ ≤ _; exact Nat.le_of_eq rfl) (hb hby d2_6) (fun _ _ => ⟨rfl, e0, (by decide : 0 + 2 ≤ _), (by decide : 0 + 4 ≤ _)⟩)
  dsimp only [Pt.U, Pt.locs, Pt.cells, Pt.slots] at X2 lq2 yq2 zq2 st2 hQ2
  subst lq2 yq2 zq2
  dsimp only [Pt.U, Pt.locs, Pt.cells, Pt.slots] at hS2 hg2 CR2
  obtain ⟨X2, hS2, hZ, hown⟩ := rebS hS0 (by rw [e0]; omega) X2 hS2 hg2 hZ hown
  obtain ⟨h2, e2⟩ : ∃ z, T2.heap = z := ⟨_, rfl⟩
  rw [e2] at hQ2 hS2
  obtain ⟨r_2, kr_2, rfl, Nq2, K2, g2_0, g2_1, g2_2, g2_3⟩ := hQ2
  have sz2 : h0.size ≤ h2.size := K2.1
  rw [e2] at CR2
  have AA3 := A0.trans CR2
  have sf4 := CHr.safe CR2 (show @LT.lt Nat _ a1 h0.size by omega) sf_a1
  have N2 := Fr.app N0 Nq2
  have lt2_1 : @LT.lt Nat _ a1 h2.size := g2_0.lt
  have lt2_2 : @LT.lt Nat _ r_2 h2.size := g2_3.lt
  have ap5 : @Ne Nat a1 r_2 := own_ne_oa (own_hw hw 9) g2_0 g2_3
  refine own_go (st' := T2.setTop (mkF m 9 #[oR a1, oR ax] [])) (fun _ k => st2.trans k) ?_
  obtain ⟨fs, hr, hrun, hended, hR1, hR2, hR3, hR4⟩ := X2.leaveW hS2 (by rw [e2]; omega) (v := none) (fun _ => rfl)
  refine ⟨_, _, ?_, hP _ _ hrun hended ⟨_, _, rfl, ?_, (by rw [hh]; show CHr Z own_EL s.vm h0 T2.vm T2.heap; rw [e2]; exact AA3.trans (CHv.at X2 hZ hEL AA3.1)), hR1, hR2, hR3, hR4.mono (by decide) (by decide)⟩⟩
  · exact X2.returnOut hx Bd.returns (hb hby d2_9) hr
  · show Qrsc_0 Z a1 ax ka h0 n0 _ T2.heap _
    rw [e2]
    exact ⟨r_2, kr_2, rfl, N2, ((Keep.refl h0 [a1]).trans K2 (allS (P := fun x => x ∈ [a1] ∨ h0.size ≤ x) (Or.inl (List.mem_of_getElem? (i := 0) rfl)) all0)), g2_0, g2_1, g2_2, g2_3⟩
theorem d9_0 : decode jdk_42_method_66_code 0 = .ok (.aload_n 0, 1) := by decide +kernel
theorem d9_1 : decode jdk_42_method_66_code 1 = .ok (.aload_n 1, 1) := by decide +kernel
theorem d9_2 : decode jdk_42_method_66_code 2 = .ok (.if_acmp .ne 5, 3) := by decide +kernel
theorem d9_5 : decode jdk_42_method_66_code 5 = .ok (.iconst 1, 1) := by decide +kernel
theorem d9_6 : decode jdk_42_method_66_code 6 = .ok (.ireturn, 1) := by decide +kernel
theorem pn_9 : plainName "java/lang/String" = true := by first | (simp [plainName, overriddenIn]; done) | decide +kernel
theorem ef_rse_same (m : MethodId) (x0 : Addr) (x1 : Addr) : entryFrame m #[(.ref x0), (.ref x1)] 3 = mkF m 0 #[.val (.ref x0), .val (.ref x1), .unset] [] := by first | (simp [entryFrame, mkF, argsToLocals, Value.category]; done) | rfl
def Qrse_same (Z : State) (a1 : Addr) (h0 : Heap) (n0 : Nat) (v : Option Value) (h : Heap) (L : List Loc) : Prop := (v = some (.int (1 : Int32))) ∧ (Fr n0 L) ∧ (h = h0)
set_option maxRecDepth 65536 in
set_option maxHeartbeats 40000000 in
theorem rse_same (l : Launch) (Z : State) (a0 : Array Value) (hw : ∀ d ∈ tables_1, d.before a0 Z = true) (ws : List Jvm.Cond) (a1 : Addr) (h0 : Heap) (n0 : Nat) (Z0 : n0 ≤ h0.size)  :
    MetFree l oM4 (head1 (Jvm.Cond.code oM4 jdk_42_method_66_code 3 (some .boolean) :: ws) ({ frames := 0, cells := 0, slots := 0, locals := 0 } : Room)) (fun a U => a = #[(.ref a1), (.ref a1)] ∧ Z.Warmed39 U.vm ∧ U.heap = h0) (fun _ _ _ _ _ => True) (fun _ U o U' => ∃ v L, o = .returned v ∧ Qrse_same Z a1 h0 n0 v U'.heap L ∧ FrameEnd U o U' L ({ frames := 0, cells := 0, slots := 0, locals := 0 } : Room).cells ({ frames := 0, cells := 0, slots := 0, locals := 0 } : Room).slots) := by
  refine MetFree.of_bodySF (plainFor_of_name pn_9) hisR ?_
  intro p e s m args below meth c s₁ Bd hml0 hP0 hK
  obtain ⟨rfl, hZ, hh⟩ := hP0
  have hx := Bd.exec
  have hby := Bd.bytes
  have hml : c.maxLocals = 3 := hml0
  have hown : s.vm.findClass oS0 = some m.cls := findClass_of_methodNamed Bd.named
  have hnm := (name_of_methodNamed Bd.named Bd.method).1
  have X0 : Stand p l e ({ frames := 0, cells := 0, slots := 0, locals := 0 } : Room) s m #[(.ref a1), (.ref a1)] below meth c s₁ [] 0 0 := Stand.of_body Bd
  have e0 : s₁.heap = h0 := by rw [← hh, Bd.state]; rfl
  have N0 := Fr.nil n0
  suffices own_H : ∀ (P : State → Outcome → Prop), (∀ U o, U.status = .running → Ended U below o → (∃ v L, o = .returned v ∧ Qrse_same Z a1 h0 n0 v U.heap L ∧ FrameEnd s o U L ({ frames := 0, cells := 0, slots := 0, locals := 0 } : Room).cells ({ frames := 0, cells := 0, slots := 0, locals := 0 } : Room).slots) → P U o) → own_Go p.tables e below P (s₁.setTop (mkF m 0 #[oR a1, oR a1, .unset] [])) from own_go (fun _ k => castTop (ef_rse_same m a1 a1) k) (own_H _ (fun U o h1 h2 h3 => ⟨h1, h2, h3⟩))
  intro P hP
  refine own_go (st' := s₁.setTop (mkF m 1 #[oR a1, oR a1, .unset] [(.ref a1)])) (fun _ k => XS.aloadN X0.here hx rfl (hb hby d9_0) rfl rfl k) ?_
  refine own_go (st' := s₁.setTop (mkF m 2 #[oR a1, oR a1, .unset] [(.ref a1), (.ref a1)])) (fun _ k => XS.aloadN X0.here hx rfl (hb hby d9_1) rfl rfl k) ?_
  refine own_go (st' := s₁.setTop (mkF m 5 #[oR a1, oR a1, .unset] [])) (fun _ k => Jvm.RoadKit.acmp (g := (mkF m 2 #[oR a1, oR a1, .unset] [(.ref a1), (.ref a1)])) X0 hx rfl rfl rfl (pc0 := 2) (pc' := 5) (same := true) rfl (hb hby d9_2) rfl (decide_eq_true rfl) (by decide) (by decide) k) ?_
  refine own_go (st' := s₁.setTop (mkF m 6 #[oR a1, oR a1, .unset] [(.int (1 : Int32))])) (fun _ k => XS.iconst X0.here hx rfl (hb hby d9_5) k) ?_
  obtain ⟨fs, hr, hrun, hended, hW, hsame⟩ := X0.leave (v := some (.int (1 : Int32))) (fun h => by rw [Bd.returns] at h; cases h)
  refine ⟨_, _, ?_, hP _ _ hrun hended ⟨_, _, rfl, ?_, ⟨_, rfl⟩, hW, hsame.mono (by decide) (by decide)⟩⟩
  · exact retN X0 hx (t := .boolean) Bd.returns (by simp) (hb hby d9_6) hr
  · show Qrse_same Z a1 h0 n0 _ s₁.heap _
    rw [e0]
    exact ⟨rfl, N0, rfl⟩
theorem d10_0 : decode jdk_43_method_13_code 0 = .ok (.aload_n 0, 1) := by decide +kernel
theorem d10_1 : decode jdk_43_method_13_code 1 = .ok (.arraylength, 1) := by decide +kernel
theorem d10_2 : decode jdk_43_method_13_code 2 = .ok (.aload_n 1, 1) := by decide +kernel
theorem d10_3 : decode jdk_43_method_13_code 3 = .ok (.arraylength, 1) := by decide +kernel
theorem d10_4 : decode jdk_43_method_13_code 4 = .ok (.if_icmp .ne 30, 3) := by decide +kernel
theorem d10_7 : decode jdk_43_method_13_code 7 = .ok (.iconst 0, 1) := by decide +kernel
theorem d10_8 : decode jdk_43_method_13_code 8 = .ok (.istore_n 2, 1) := by decide +kernel
theorem d10_9 : decode jdk_43_method_13_code 9 = .ok (.iload_n 2, 1) := by decide +kernel
theorem d10_10 : decode jdk_43_method_13_code 10 = .ok (.aload_n 0, 1) := by decide +kernel
theorem d10_11 : decode jdk_43_method_13_code 11 = .ok (.arraylength, 1) := by decide +kernel
theorem d10_12 : decode jdk_43_method_13_code 12 = .ok (.if_icmp .ge 20, 3) := by decide +kernel
theorem d10_32 : decode jdk_43_method_13_code 32 = .ok (.iconst 1, 1) := by decide +kernel
theorem d10_33 : decode jdk_43_method_13_code 33 = .ok (.ireturn, 1) := by decide +kernel
theorem pn_10 : plainName "java/lang/StringLatin1" = true := by first | (simp [plainName, overriddenIn]; done) | decide +kernel
theorem ef_rle_00 (m : MethodId) (x0 : Addr) (x1 : Addr) : entryFrame m #[(.ref x0), (.ref x1)] 3 = mkF m 0 #[.val (.ref x0), .val (.ref x1), .unset] [] := by first | (simp [entryFrame, mkF, argsToLocals, Value.category]; done) | rfl
def Qrle_00 (Z : State) (ax : Addr) (ka : ClassId) (ay : Addr) (kb : ClassId) (h0 : Heap) (n0 : Nat) (v : Option Value) (h : Heap) (L : List Loc) : Prop := (v = some (.int (1 : Int32))) ∧ (Fr n0 L) ∧ (h = h0)
set_option maxRecDepth 65536 in
set_option maxHeartbeats 40000000 in
theorem rle_00 (l : Launch) (Z : State) (a0 : Array Value) (hw : ∀ d ∈ tables_1, d.before a0 Z = true) (ws : List Jvm.Cond) (ax : Addr) (ka : ClassId) (ay : Addr) (kb : ClassId) (h0 : Heap) (n0 : Nat) (Z0 : n0 ≤ h0.size) (pr1 : Arv Z h0 ax ka .byte (0 : Int32) [] (.int (0 : Int32))) (pr2 : Arv Z h0 ay kb .byte (0 : Int32) [] (.int (0 : Int32))) :
    MetFree l oM0 (head1 (Jvm.Cond.code oM0 jdk_43_method_13_code 3 (some .boolean) :: ws) ({ frames := 0, cells := 0, slots := 0, locals := 0 } : Room)) (fun a U => a = #[(.ref ax), (.ref ay)] ∧ Z.Warmed39 U.vm ∧ U.heap = h0) (fun _ _ _ _ _ => True) (fun _ U o U' => ∃ v L, o = .returned v ∧ Qrle_00 Z ax ka ay kb h0 n0 v U'.heap L ∧ FrameEnd U o U' L ({ frames := 0, cells := 0, slots := 0, locals := 0 } : Room).cells ({ frames := 0, cells := 0, slots := 0, locals := 0 } : Room).slots) := by
  refine MetFree.of_bodySF (plainFor_of_name pn_10) hisR ?_
  intro p e s m args below meth c s₁ Bd hml0 hP0 hK
  obtain ⟨rfl, hZ, hh⟩ := hP0
  have hx := Bd.exec
  have hby := Bd.bytes
  have hml : c.maxLocals = 3 := hml0
  have hown : s.vm.findClass oS5 = some m.cls := findClass_of_methodNamed Bd.named
  have hnm := (name_of_methodNamed Bd.named Bd.method).1
  have X0 : Stand p l e ({ frames := 0, cells := 0, slots := 0, locals := 0 } : Room) s m #[(.ref ax), (.ref ay)] below meth c s₁ [] 0 0 := Stand.of_body Bd
  have e0 : s₁.heap = h0 := by rw [← hh, Bd.state]; rfl
  have N0 := Fr.nil n0
  suffices own_H : ∀ (P : State → Outcome → Prop), (∀ U o, U.status = .running → Ended U below o → (∃ v L, o = .returned v ∧ Qrle_00 Z ax ka ay kb h0 n0 v U.heap L ∧ FrameEnd s o U L ({ frames := 0, cells := 0, slots := 0, locals := 0 } : Room).cells ({ frames := 0, cells := 0, slots := 0, locals := 0 } : Room).slots) → P U o) → own_Go p.tables e below P (s₁.setTop (mkF m 0 #[oR ax, oR ay, .unset] [])) from own_go (fun _ k => castTop (ef_rle_00 m ax ay) k) (own_H _ (fun U o h1 h2 h3 => ⟨h1, h2, h3⟩))
  intro P hP
  have lt_ax : @LT.lt Nat _ ax h0.size := pr1.lt
  have lt_ay : @LT.lt Nat _ ay h0.size := pr2.lt
  refine own_go (st' := s₁.setTop (mkF m 1 #[oR ax, oR ay, .unset] [(.ref ax)])) (fun _ k => XS.aloadN X0.here hx rfl (hb hby d10_0) rfl rfl k) ?_
  obtain ⟨cl1, Ar1, -, S1, M1, -, -⟩ := id pr1
  refine own_go (st' := s₁.setTop (mkF m 2 #[oR ax, oR ay, .unset] [(.int (0 : Int32))])) (fun t k => X0.arraylength hx (by rw [e0]; exact Ar1.1) (State.isArrayOf_alike hZ.alike Ar1.2.1) (g := (mkF m 1 #[oR ax, oR ay, .unset] [(.ref ax)])) rfl rfl (hb hby d10_1) t (by rw [len_of S1 M1]; exact k)) ?_
  refine own_go (st' := s₁.setTop (mkF m 3 #[oR ax, oR ay, .unset] [(.ref ay), (.int (0 : Int32))])) (fun _ k => XS.aloadN X0.here hx rfl (hb hby d10_2) rfl rfl k) ?_
  obtain ⟨cl2, Ar2, -, S2, M2, -, -⟩ := id pr2
  refine own_go (st' := s₁.setTop (mkF m 4 #[oR ax, oR ay, .unset] [(.int (0 : Int32)), (.int (0 : Int32))])) (fun t k => X0.arraylength hx (by rw [e0]; exact Ar2.1) (State.isArrayOf_alike hZ.alike Ar2.2.1) (g := (mkF m 3 #[oR ax, oR ay, .unset] [(.ref ay), (.int (0 : Int32))])) rfl rfl (hb hby d10_3) t (by rw [len_of S2 M2]; exact k)) ?_
  have hc3 : (0 : Int32) = (0 : Int32) := by decide
  refine own_go (st' := s₁.setTop (mkF m 7 #[oR ax, oR ay, .unset] [])) (fun _ k => XS.icmpNo X0.here hx rfl (hb hby d10_4) rfl (teq hc3).2 k) ?_
  refine own_go (st' := s₁.setTop (mkF m 8 #[oR ax, oR ay, .unset] [(.int (0 : Int32))])) (fun _ k => XS.iconst X0.here hx rfl (hb hby d10_7) k) ?_
  refine own_go (st' := s₁.setTop (mkF m 9 #[oR ax, oR ay, oi 0] [])) (fun _ k => XS.istoreN X0.here hx rfl (hb hby d10_8) rfl (l' := #[oR ax, oR ay, oi 0]) rfl k) ?_
  refine own_go (st' := s₁.setTop (mkF m 10 #[oR ax, oR ay, oi 0] [(.int (0 : Int32))])) (fun _ k => XS.iloadN X0.here hx rfl (hb hby d10_9) rfl k) ?_
  refine own_go (st' := s₁.setTop (mkF m 11 #[oR ax, oR ay, oi 0] [(.ref ax), (.int (0 : Int32))])) (fun _ k => XS.aloadN X0.here hx rfl (hb hby d10_10) rfl rfl k) ?_
  obtain ⟨cl4, Ar4, -, S4, M4, -, -⟩ := id pr1
  refine own_go (st' := s₁.setTop (mkF m 12 #[oR ax, oR ay, oi 0] [(.int (0 : Int32)), (.int (0 : Int32))])) (fun t k => X0.arraylength hx (by rw [e0]; exact Ar4.1) (State.isArrayOf_alike hZ.alike Ar4.2.1) (g := (mkF m 11 #[oR ax, oR ay, oi 0] [(.ref ax), (.int (0 : Int32))])) rfl rfl (hb hby d10_11) t (by rw [len_of S4 M4]; exact k)) ?_
  have hc5 : ¬ ((0 : Int32) < (0 : Int32)) := by decide
  refine own_go (st' := s₁.setTop (mkF m 32 #[oR ax, oR ay, oi 0] [])) (fun _ k => XS.icmpYes X0.here hx rfl (pc0 := 12) (pc' := 32) rfl (hb hby d10_12) rfl (flt hc5).2.1 (by decide) (by decide) k) ?_
  refine own_go (st' := s₁.setTop (mkF m 33 #[oR ax, oR ay, oi 0] [(.int (1 : Int32))])) (fun _ k => XS.iconst X0.here hx rfl (hb hby d10_32) k) ?_
  obtain ⟨fs, hr, hrun, hended, hW, hsame⟩ := X0.leave (v := some (.int (1 : Int32))) (fun h => by rw [Bd.returns] at h; cases h)
  refine ⟨_, _, ?_, hP _ _ hrun hended ⟨_, _, rfl, ?_, ⟨_, rfl⟩, hW, hsame.mono (by decide) (by decide)⟩⟩
  · exact retN X0 hx (t := .boolean) Bd.returns (by simp) (hb hby d10_33) hr
  · show Qrle_00 Z ax ka ay kb h0 n0 _ s₁.heap _
    rw [e0]
    exact ⟨rfl, N0, rfl⟩
theorem d10_34 : decode jdk_43_method_13_code 34 = .ok (.iconst 0, 1) := by decide +kernel
theorem d10_35 : decode jdk_43_method_13_code 35 = .ok (.ireturn, 1) := by decide +kernel
theorem ef_rle_01 (m : MethodId) (x0 : Addr) (x1 : Addr) : entryFrame m #[(.ref x0), (.ref x1)] 3 = mkF m 0 #[.val (.ref x0), .val (.ref x1), .unset] [] := by first | (simp [entryFrame, mkF, argsToLocals, Value.category]; done) | rfl
def Qrle_01 (Z : State) (ax : Addr) (ka : ClassId) (ay : Addr) (kb : ClassId) (z0 : Int32) (h0 : Heap) (n0 : Nat) (v : Option Value) (h : Heap) (L : List Loc) : Prop := (v = some (.int (0 : Int32))) ∧ (Fr n0 L) ∧ (h = h0)
set_option maxRecDepth 65536 in
set_option maxHeartbeats 40000000 in
theorem rle_01 (l : Launch) (Z : State) (a0 : Array Value) (hw : ∀ d ∈ tables_1, d.before a0 Z = true) (ws : List Jvm.Cond) (ax : Addr) (ka : ClassId) (ay : Addr) (kb : ClassId) (z0 : Int32) (h0 : Heap) (n0 : Nat) (Z0 : n0 ≤ h0.size) (pr1 : Arv Z h0 ax ka .byte (0 : Int32) [] (.int (0 : Int32))) (pr2 : Arv Z h0 ay kb .byte (1 : Int32) [(.int z0)] (.int (0 : Int32))) :
    MetFree l oM0 (head1 (Jvm.Cond.code oM0 jdk_43_method_13_code 3 (some .boolean) :: ws) ({ frames := 0, cells := 0, slots := 0, locals := 0 } : Room)) (fun a U => a = #[(.ref ax), (.ref ay)] ∧ Z.Warmed39 U.vm ∧ U.heap = h0) (fun _ _ _ _ _ => True) (fun _ U o U' => ∃ v L, o = .returned v ∧ Qrle_01 Z ax ka ay kb z0 h0 n0 v U'.heap L ∧ FrameEnd U o U' L ({ frames := 0, cells := 0, slots := 0, locals := 0 } : Room).cells ({ frames := 0, cells := 0, slots := 0, locals := 0 } : Room).slots) := by
  refine MetFree.of_bodySF (plainFor_of_name pn_10) hisR ?_
  intro p e s m args below meth c s₁ Bd hml0 hP0 hK
  obtain ⟨rfl, hZ, hh⟩ := hP0
  have hx := Bd.exec
  have hby := Bd.bytes
  have hml : c.maxLocals = 3 := hml0
  have hown : s.vm.findClass oS5 = some m.cls := findClass_of_methodNamed Bd.named
  have hnm := (name_of_methodNamed Bd.named Bd.method).1
  have X0 : Stand p l e ({ frames := 0, cells := 0, slots := 0, locals := 0 } : Room) s m #[(.ref ax), (.ref ay)] below meth c s₁ [] 0 0 := Stand.of_body Bd
  have e0 : s₁.heap = h0 := by rw [← hh, Bd.state]; rfl
  have N0 := Fr.nil n0
  suffices own_H : ∀ (P : State → Outcome → Prop), (∀ U o, U.status = .running → Ended U below o → (∃ v L, o = .returned v ∧ Qrle_01 Z ax ka ay kb z0 h0 n0 v U.heap L ∧ FrameEnd s o U L ({ frames := 0, cells := 0, slots := 0, locals := 0 } : Room).cells ({ frames := 0, cells := 0, slots := 0, locals := 0 } : Room).slots) → P U o) → own_Go p.tables e below P (s₁.setTop (mkF m 0 #[oR ax, oR ay, .unset] [])) from own_go (fun _ k => castTop (ef_rle_01 m ax ay) k) (own_H _ (fun U o h1 h2 h3 => ⟨h1, h2, h3⟩))
  intro P hP
  have lt_ax : @LT.lt Nat _ ax h0.size := pr1.lt
  have lt_ay : @LT.lt Nat _ ay h0.size := pr2.lt
  refine own_go (st' := s₁.setTop (mkF m 1 #[oR ax, oR ay, .unset] [(.ref ax)])) (fun _ k => XS.aloadN X0.here hx rfl (hb hby d10_0) rfl rfl k) ?_
  obtain ⟨cl1, Ar1, -, S1, M1, -, -⟩ := id pr1
  refine own_go (st' := s₁.setTop (mkF m 2 #[oR ax, oR ay, .unset] [(.int (0 : Int32))])) (fun t k => X0.arraylength hx (by rw [e0]; exact Ar1.1) (State.isArrayOf_alike hZ.alike Ar1.2.1) (g := (mkF m 1 #[oR ax, oR ay, .unset] [(.ref ax)])) rfl rfl (hb hby d10_1) t (by rw [len_of S1 M1]; exact k)) ?_
  refine own_go (st' := s₁.setTop (mkF m 3 #[oR ax, oR ay, .unset] [(.ref ay), (.int (0 : Int32))])) (fun _ k => XS.aloadN X0.here hx rfl (hb hby d10_2) rfl rfl k) ?_
  obtain ⟨cl2, Ar2, -, S2, M2, -, -⟩ := id pr2
  refine own_go (st' := s₁.setTop (mkF m 4 #[oR ax, oR ay, .unset] [(.int (1 : Int32)), (.int (0 : Int32))])) (fun t k => X0.arraylength hx (by rw [e0]; exact Ar2.1) (State.isArrayOf_alike hZ.alike Ar2.2.1) (g := (mkF m 3 #[oR ax, oR ay, .unset] [(.ref ay), (.int (0 : Int32))])) rfl rfl (hb hby d10_3) t (by rw [len_of S2 M2]; exact k)) ?_
  have hc3 : ¬ ((0 : Int32) = (1 : Int32)) := by decide
  refine own_go (st' := s₁.setTop (mkF m 34 #[oR ax, oR ay, .unset] [])) (fun _ k => XS.icmpYes X0.here hx rfl (pc0 := 4) (pc' := 34) rfl (hb hby d10_4) rfl (feq hc3).2 (by decide) (by decide) k) ?_
  refine own_go (st' := s₁.setTop (mkF m 35 #[oR ax, oR ay, .unset] [(.int (0 : Int32))])) (fun _ k => XS.iconst X0.here hx rfl (hb hby d10_34) k) ?_
  obtain ⟨fs, hr, hrun, hended, hW, hsame⟩ := X0.leave (v := some (.int (0 : Int32))) (fun h => by rw [Bd.returns] at h; cases h)
  refine ⟨_, _, ?_, hP _ _ hrun hended ⟨_, _, rfl, ?_, ⟨_, rfl⟩, hW, hsame.mono (by decide) (by decide)⟩⟩
  · exact retN X0 hx (t := .boolean) Bd.returns (by simp) (hb hby d10_35) hr
  · show Qrle_01 Z ax ka ay kb z0 h0 n0 _ s₁.heap _
    rw [e0]
    exact ⟨rfl, N0, rfl⟩
theorem ef_rle_02 (m : MethodId) (x0 : Addr) (x1 : Addr) : entryFrame m #[(.ref x0), (.ref x1)] 3 = mkF m 0 #[.val (.ref x0), .val (.ref x1), .unset] [] := by first | (simp [entryFrame, mkF, argsToLocals, Value.category]; done) | rfl
def Qrle_02 (Z : State) (ax : Addr) (ka : ClassId) (ay : Addr) (kb : ClassId) (z0 : Int32) (z1 : Int32) (h0 : Heap) (n0 : Nat) (v : Option Value) (h : Heap) (L : List Loc) : Prop := (v = some (.int (0 : Int32))) ∧ (Fr n0 L) ∧ (h = h0)
set_option maxRecDepth 65536 in
set_option maxHeartbeats 40000000 in
theorem rle_02 (l : Launch) (Z : State) (a0 : Array Value) (hw : ∀ d ∈ tables_1, d.before a0 Z = true) (ws : List Jvm.Cond) (ax : Addr) (ka : ClassId) (ay : Addr) (kb : ClassId) (z0 : Int32) (z1 : Int32) (h0 : Heap) (n0 : Nat) (Z0 : n0 ≤ h0.size) (pr1 : Arv Z h0 ax ka .byte (0 : Int32) [] (.int (0 : Int32))) (pr2 : Arv Z h0 ay kb .byte (2 : Int32) [(.int z0), (.int z1)] (.int (0 : Int32))) :
    MetFree l oM0 (head1 (Jvm.Cond.code oM0 jdk_43_method_13_code 3 (some .boolean) :: ws) ({ frames := 0, cells := 0, slots := 0, locals := 0 } : Room)) (fun a U => a = #[(.ref ax), (.ref ay)] ∧ Z.Warmed39 U.vm ∧ U.heap = h0) (fun _ _ _ _ _ => True) (fun _ U o U' => ∃ v L, o = .returned v ∧ Qrle_02 Z ax ka ay kb z0 z1 h0 n0 v U'.heap L ∧ FrameEnd U o U' L ({ frames := 0, cells := 0, slots := 0, locals := 0 } : Room).cells ({ frames := 0, cells := 0, slots := 0, locals := 0 } : Room).slots) := by
  refine MetFree.of_bodySF (plainFor_of_name pn_10) hisR ?_
  intro p e s m args below meth c s₁ Bd hml0 hP0 hK
  obtain ⟨rfl, hZ, hh⟩ := hP0
  have hx := Bd.exec
  have hby := Bd.bytes
  have hml : c.maxLocals = 3 := hml0
  have hown : s.vm.findClass oS5 = some m.cls := findClass_of_methodNamed Bd.named
  have hnm := (name_of_methodNamed Bd.named Bd.method).1
  have X0 : Stand p l e ({ frames := 0, cells := 0, slots := 0, locals := 0 } : Room) s m #[(.ref ax), (.ref ay)] below meth c s₁ [] 0 0 := Stand.of_body Bd
  have e0 : s₁.heap = h0 := by rw [← hh, Bd.state]; rfl
  have N0 := Fr.nil n0
  suffices own_H : ∀ (P : State → Outcome → Prop), (∀ U o, U.status = .running → Ended U below o → (∃ v L, o = .returned v ∧ Qrle_02 Z ax ka ay kb z0 z1 h0 n0 v U.heap L ∧ FrameEnd s o U L ({ frames := 0, cells := 0, slots := 0, locals := 0 } : Room).cells ({ frames := 0, cells := 0, slots := 0, locals := 0 } : Room).slots) → P U o) → own_Go p.tables e below P (s₁.setTop (mkF m 0 #[oR ax, oR ay, .unset] [])) from own_go (fun _ k => castTop (ef_rle_02 m ax ay) k) (own_H _ (fun U o h1 h2 h3 => ⟨h1, h2, h3⟩))
  intro P hP
  have lt_ax : @LT.lt Nat _ ax h0.size := pr1.lt
  have lt_ay : @LT.lt Nat _ ay h0.size := pr2.lt
  refine own_go (st' := s₁.setTop (mkF m 1 #[oR ax, oR ay, .unset] [(.ref ax)])) (fun _ k => XS.aloadN X0.here hx rfl (hb hby d10_0) rfl rfl k) ?_
  obtain ⟨cl1, Ar1, -, S1, M1, -, -⟩ := id pr1
  refine own_go (st' := s₁.setTop (mkF m 2 #[oR ax, oR ay, .unset] [(.int (0 : Int32))])) (fun t k => X0.arraylength hx (by rw [e0]; exact Ar1.1) (State.isArrayOf_alike hZ.alike Ar1.2.1) (g := (mkF m 1 #[oR ax, oR ay, .unset] [(.ref ax)])) rfl rfl (hb hby d10_1) t (by rw [len_of S1 M1]; exact k)) ?_
  refine own_go (st' := s₁.setTop (mkF m 3 #[oR ax, oR ay, .unset] [(.ref ay), (.int (0 : Int32))])) (fun _ k => XS.aloadN X0.here hx rfl (hb hby d10_2) rfl rfl k) ?_
  obtain ⟨cl2, Ar2, -, S2, M2, -, -⟩ := id pr2
  refine own_go (st' := s₁.setTop (mkF m 4 #[oR ax, oR ay, .unset] [(.int (2 : Int32)), (.int (0 : Int32))])) (fun t k => X0.arraylength hx (by rw [e0]; exact Ar2.1) (State.isArrayOf_alike hZ.alike Ar2.2.1) (g := (mkF m 3 #[oR ax, oR ay, .unset] [(.ref ay), (.int (0 : Int32))])) rfl rfl (hb hby d10_3) t (by rw [len_of S2 M2]; exact k)) ?_
  have hc3 : ¬ ((0 : Int32) = (2 : Int32)) := by decide
  refine own_go (st' := s₁.setTop (mkF m 34 #[oR ax, oR ay, .unset] [])) (fun _ k => XS.icmpYes X0.here hx rfl (pc0 := 4) (pc' := 34) rfl (hb hby d10_4) rfl (feq hc3).2 (by decide) (by decide) k) ?_
  refine own_go (st' := s₁.setTop (mkF m 35 #[oR ax, oR ay, .unset] [(.int (0 : Int32))])) (fun _ k => XS.iconst X0.here hx rfl (hb hby d10_34) k) ?_
  obtain ⟨fs, hr, hrun, hended, hW, hsame⟩ := X0.leave (v := some (.int (0 : Int32))) (fun h => by rw [Bd.returns] at h; cases h)
  refine ⟨_, _, ?_, hP _ _ hrun hended ⟨_, _, rfl, ?_, ⟨_, rfl⟩, hW, hsame.mono (by decide) (by decide)⟩⟩
  · exact retN X0 hx (t := .boolean) Bd.returns (by simp) (hb hby d10_35) hr
  · show Qrle_02 Z ax ka ay kb z0 z1 h0 n0 _ s₁.heap _
    rw [e0]
    exact ⟨rfl, N0, rfl⟩
theorem ef_rle_10 (m : MethodId) (x0 : Addr) (x1 : Addr) : entryFrame m #[(.ref x0), (.ref x1)] 3 = mkF m 0 #[.val (.ref x0), .val (.ref x1), .unset] [] := by first | (simp [entryFrame, mkF, argsToLocals, Value.category]; done) | rfl
def Qrle_10 (Z : State) (ax : Addr) (ka : ClassId) (ay : Addr) (kb : ClassId) (w0 : Int32) (h0 : Heap) (n0 : Nat) (v : Option Value) (h : Heap) (L : List Loc) : Prop := (v = some (.int (0 : Int32))) ∧ (Fr n0 L) ∧ (h = h0)
set_option maxRecDepth 65536 in
set_option maxHeartbeats 40000000 in
theorem rle_10 (l : Launch) (Z : State) (a0 : Array Value) (hw : ∀ d ∈ tables_1, d.before a0 Z = true) (ws : List Jvm.Cond) (ax : Addr) (ka : ClassId) (ay : Addr) (kb : ClassId) (w0 : Int32) (h0 : Heap) (n0 : Nat) (Z0 : n0 ≤ h0.size) (pr1 : Arv Z h0 ax ka .byte (1 : Int32) [(.int w0)] (.int (0 : Int32))) (pr2 : Arv Z h0 ay kb .byte (0 : Int32) [] (.int (0 : Int32))) :
    MetFree l oM0 (head1 (Jvm.Cond.code oM0 jdk_43_method_13_code 3 (some .boolean) :: ws) ({ frames := 0, cells := 0, slots := 0, locals := 0 } : Room)) (fun a U => a = #[(.ref ax), (.ref ay)] ∧ Z.Warmed39 U.vm ∧ U.heap = h0) (fun _ _ _ _ _ => True) (fun _ U o U' => ∃ v L, o = .returned v ∧ Qrle_10 Z ax ka ay kb w0 h0 n0 v U'.heap L ∧ FrameEnd U o U' L ({ frames := 0, cells := 0, slots := 0, locals := 0 } : Room).cells ({ frames := 0, cells := 0, slots := 0, locals := 0 } : Room).slots) := by
  refine MetFree.of_bodySF (plainFor_of_name pn_10) hisR ?_
  intro p e s m args below meth c s₁ Bd hml0 hP0 hK
  obtain ⟨rfl, hZ, hh⟩ := hP0
  have hx := Bd.exec
  have hby := Bd.bytes
  have hml : c.maxLocals = 3 := hml0
  have hown : s.vm.findClass oS5 = some m.cls := findClass_of_methodNamed Bd.named
  have hnm := (name_of_methodNamed Bd.named Bd.method).1
  have X0 : Stand p l e ({ frames := 0, cells := 0, slots := 0, locals := 0 } : Room) s m #[(.ref ax), (.ref ay)] below meth c s₁ [] 0 0 := Stand.of_body Bd
  have e0 : s₁.heap = h0 := by rw [← hh, Bd.state]; rfl
  have N0 := Fr.nil n0
  suffices own_H : ∀ (P : State → Outcome → Prop), (∀ U o, U.status = .running → Ended U below o → (∃ v L, o = .returned v ∧ Qrle_10 Z ax ka ay kb w0 h0 n0 v U.heap L ∧ FrameEnd s o U L ({ frames := 0, cells := 0, slots := 0, locals := 0 } : Room).cells ({ frames := 0, cells := 0, slots := 0, locals := 0 } : Room).slots) → P U o) → own_Go p.tables e below P (s₁.setTop (mkF m 0 #[oR ax, oR ay, .unset] [])) from own_go (fun _ k => castTop (ef_rle_10 m ax ay) k) (own_H _ (fun U o h1 h2 h3 => ⟨h1, h2, h3⟩))
  intro P hP
  have lt_ax : @LT.lt Nat _ ax h0.size := pr1.lt
  have lt_ay : @LT.lt Nat _ ay h0.size := pr2.lt
  refine own_go (st' := s₁.setTop (mkF m 1 #[oR ax, oR ay, .unset] [(.ref ax)])) (fun _ k => XS.aloadN X0.here hx rfl (hb hby d10_0) rfl rfl k) ?_
  obtain ⟨cl1, Ar1, -, S1, M1, -, -⟩ := id pr1
  refine own_go (st' := s₁.setTop (mkF m 2 #[oR ax, oR ay, .unset] [(.int (1 : Int32))])) (fun t k => X0.arraylength hx (by rw [e0]; exact Ar1.1) (State.isArrayOf_alike hZ.alike Ar1.2.1) (g := (mkF m 1 #[oR ax, oR ay, .unset] [(.ref ax)])) rfl rfl (hb hby d10_1) t (by rw [len_of S1 M1]; exact k)) ?_
  refine own_go (st' := s₁.setTop (mkF m 3 #[oR ax, oR ay, .unset] [(.ref ay), (.int (1 : Int32))])) (fun _ k => XS.aloadN X0.here hx rfl (hb hby d10_2) rfl rfl k) ?_
  obtain ⟨cl2, Ar2, -, S2, M2, -, -⟩ := id pr2
  refine own_go (st' := s₁.setTop (mkF m 4 #[oR ax, oR ay, .unset] [(.int (0 : Int32)), (.int (1 : Int32))])) (fun t k => X0.arraylength hx (by rw [e0]; exact Ar2.1) (State.isArrayOf_alike hZ.alike Ar2.2.1) (g := (mkF m 3 #[oR ax, oR ay, .unset] [(.ref ay), (.int (1 : Int32))])) rfl rfl (hb hby d10_3) t (by rw [len_of S2 M2]; exact k)) ?_
  have hc3 : ¬ ((1 : Int32) = (0 : Int32)) := by decide
  refine own_go (st' := s₁.setTop (mkF m 34 #[oR ax, oR ay, .unset] [])) (fun _ k => XS.icmpYes X0.here hx rfl (pc0 := 4) (pc' := 34) rfl (hb hby d10_4) rfl (feq hc3).2 (by decide) (by decide) k) ?_
  refine own_go (st' := s₁.setTop (mkF m 35 #[oR ax, oR ay, .unset] [(.int (0 : Int32))])) (fun _ k => XS.iconst X0.here hx rfl (hb hby d10_34) k) ?_
  obtain ⟨fs, hr, hrun, hended, hW, hsame⟩ := X0.leave (v := some (.int (0 : Int32))) (fun h => by rw [Bd.returns] at h; cases h)
  refine ⟨_, _, ?_, hP _ _ hrun hended ⟨_, _, rfl, ?_, ⟨_, rfl⟩, hW, hsame.mono (by decide) (by decide)⟩⟩
  · exact retN X0 hx (t := .boolean) Bd.returns (by simp) (hb hby d10_35) hr
  · show Qrle_10 Z ax ka ay kb w0 h0 n0 _ s₁.heap _
    rw [e0]
    exact ⟨rfl, N0, rfl⟩
theorem d10_15 : decode jdk_43_method_13_code 15 = .ok (.aload_n 0, 1) := by decide +kernel
theorem d10_16 : decode jdk_43_method_13_code 16 = .ok (.iload_n 2, 1) := by decide +kernel
theorem d10_17 : decode jdk_43_method_13_code 17 = .ok (.baload, 1) := by decide +kernel
theorem d10_18 : decode jdk_43_method_13_code 18 = .ok (.aload_n 1, 1) := by decide +kernel
theorem d10_19 : decode jdk_43_method_13_code 19 = .ok (.iload_n 2, 1) := by decide +kernel
theorem d10_20 : decode jdk_43_method_13_code 20 = .ok (.baload, 1) := by decide +kernel
theorem d10_21 : decode jdk_43_method_13_code 21 = .ok (.if_icmp .eq 5, 3) := by decide +kernel
theorem d10_24 : decode jdk_43_method_13_code 24 = .ok (.iconst 0, 1) := by decide +kernel
theorem d10_25 : decode jdk_43_method_13_code 25 = .ok (.ireturn, 1) := by decide +kernel
theorem d10_26 : decode jdk_43_method_13_code 26 = .ok (.iinc 2 1, 3) := by decide +kernel
theorem d10_29 : decode jdk_43_method_13_code 29 = .ok (.goto (-20), 3) := by decide +kernel
theorem ef_rle_11 (m : MethodId) (x0 : Addr) (x1 : Addr) : entryFrame m #[(.ref x0), (.ref x1)] 3 = mkF m 0 #[.val (.ref x0), .val (.ref x1), .unset] [] := by first | (simp [entryFrame, mkF, argsToLocals, Value.category]; done) | rfl
def Qrle_11 (Z : State) (ax : Addr) (ka : ClassId) (ay : Addr) (kb : ClassId) (w0 : Int32) (z0 : Int32) (h0 : Heap) (n0 : Nat) (v : Option Value) (h : Heap) (L : List Loc) : Prop := (v = some (.int (own_eq1 w0 z0))) ∧ (Fr n0 L) ∧ (h = h0)
set_option maxRecDepth 65536 in
set_option maxHeartbeats 40000000 in
theorem rle_11 (l : Launch) (Z : State) (a0 : Array Value) (hw : ∀ d ∈ tables_1, d.before a0 Z = true) (ws : List Jvm.Cond) (ax : Addr) (ka : ClassId) (ay : Addr) (kb : ClassId) (w0 : Int32) (z0 : Int32) (h0 : Heap) (n0 : Nat) (Z0 : n0 ≤ h0.size) (pr1 : Arv Z h0 ax ka .byte (1 : Int32) [(.int w0)] (.int (0 : Int32))) (pr2 : Arv Z h0 ay kb .byte (1 : Int32) [(.int z0)] (.int (0 : Int32))) :
    MetFree l oM0 (head1 (Jvm.Cond.code oM0 jdk_43_method_13_code 3 (some .boolean) :: ws) ({ frames := 0, cells := 0, slots := 0, locals := 0 } : Room)) (fun a U => a = #[(.ref ax), (.ref ay)] ∧ Z.Warmed39 U.vm ∧ U.heap = h0) (fun _ _ _ _ _ => True) (fun _ U o U' => ∃ v L, o = .returned v ∧ Qrle_11 Z ax ka ay kb w0 z0 h0 n0 v U'.heap L ∧ FrameEnd U o U' L ({ frames := 0, cells := 0, slots := 0, locals := 0 } : Room).cells ({ frames := 0, cells := 0, slots := 0, locals := 0 } : Room).slots) := by
  refine MetFree.of_bodySF (plainFor_of_name pn_10) hisR ?_
  intro p e s m args below meth c s₁ Bd hml0 hP0 hK
  obtain ⟨rfl, hZ, hh⟩ := hP0
  have hx := Bd.exec
  have hby := Bd.bytes
  have hml : c.maxLocals = 3 := hml0
  have hown : s.vm.findClass oS5 = some m.cls := findClass_of_methodNamed Bd.named
  have hnm := (name_of_methodNamed Bd.named Bd.method).1
  have X0 : Stand p l e ({ frames := 0, cells := 0, slots := 0, locals := 0 } : Room) s m #[(.ref ax), (.ref ay)] below meth c s₁ [] 0 0 := Stand.of_body Bd
  have e0 : s₁.heap = h0 := by rw [← hh, Bd.state]; rfl
  have N0 := Fr.nil n0
  suffices own_H : ∀ (P : State → Outcome → Prop), (∀ U o, U.status = .running → Ended U below o → (∃ v L, o = .returned v ∧ Qrle_11 Z ax ka ay kb w0 z0 h0 n0 v U.heap L ∧ FrameEnd s o U L ({ frames := 0, cells := 0, slots := 0, locals := 0 } : Room).cells ({ frames := 0, cells := 0, slots := 0, locals := 0 } : Room).slots) → P U o) → own_Go p.tables e below P (s₁.setTop (mkF m 0 #[oR ax, oR ay, .unset] [])) from own_go (fun _ k => castTop (ef_rle_11 m ax ay) k) (own_H _ (fun U o h1 h2 h3 => ⟨h1, h2, h3⟩))
  intro P hP
  have lt_ax : @LT.lt Nat _ ax h0.size := pr1.lt
  have lt_ay : @LT.lt Nat _ ay h0.size := pr2.lt
  refine own_go (st' := s₁.setTop (mkF m 1 #[oR ax, oR ay, .unset] [(.ref ax)])) (fun _ k => XS.aloadN X0.here hx rfl (hb hby d10_0) rfl rfl k) ?_
  obtain ⟨cl1, Ar1, -, S1, M1, -, -⟩ := id pr1
  refine own_go (st' := s₁.setTop (mkF m 2 #[oR ax, oR ay, .unset] [(.int (1 : Int32))])) (fun t k => X0.arraylength hx (by rw [e0]; exact Ar1.1) (State.isArrayOf_alike hZ.alike Ar1.2.1) (g := (mkF m 1 #[oR ax, oR ay, .unset] [(.ref ax)])) rfl rfl (hb hby d10_1) t (by rw [len_of S1 M1]; exact k)) ?_
  refine own_go (st' := s₁.setTop (mkF m 3 #[oR ax, oR ay, .unset] [(.ref ay), (.int (1 : Int32))])) (fun _ k => XS.aloadN X0.here hx rfl (hb hby d10_2) rfl rfl k) ?_
  obtain ⟨cl2, Ar2, -, S2, M2, -, -⟩ := id pr2
  refine own_go (st' := s₁.setTop (mkF m 4 #[oR ax, oR ay, .unset] [(.int (1 : Int32)), (.int (1 : Int32))])) (fun t k => X0.arraylength hx (by rw [e0]; exact Ar2.1) (State.isArrayOf_alike hZ.alike Ar2.2.1) (g := (mkF m 3 #[oR ax, oR ay, .unset] [(.ref ay), (.int (1 : Int32))])) rfl rfl (hb hby d10_3) t (by rw [len_of S2 M2]; exact k)) ?_
  have hc3 : (1 : Int32) = (1 : Int32) := by decide
  refine own_go (st' := s₁.setTop (mkF m 7 #[oR ax, oR ay, .unset] [])) (fun _ k => XS.icmpNo X0.here hx rfl (hb hby d10_4) rfl (teq hc3).2 k) ?_
  refine own_go (st' := s₁.setTop (mkF m 8 #[oR ax, oR ay, .unset] [(.int (0 : Int32))])) (fun _ k => XS.iconst X0.here hx rfl (hb hby d10_7) k) ?_
  refine own_go (st' := s₁.setTop (mkF m 9 #[oR ax, oR ay, oi 0] [])) (fun _ k => XS.istoreN X0.here hx rfl (hb hby d10_8) rfl (l' := #[oR ax, oR ay, oi 0]) rfl k) ?_
  refine own_go (st' := s₁.setTop (mkF m 10 #[oR ax, oR ay, oi 0] [(.int (0 : Int32))])) (fun _ k => XS.iloadN X0.here hx rfl (hb hby d10_9) rfl k) ?_
  refine own_go (st' := s₁.setTop (mkF m 11 #[oR ax, oR ay, oi 0] [(.ref ax), (.int (0 : Int32))])) (fun _ k => XS.aloadN X0.here hx rfl (hb hby d10_10) rfl rfl k) ?_
  obtain ⟨cl4, Ar4, -, S4, M4, -, -⟩ := id pr1
  refine own_go (st' := s₁.setTop (mkF m 12 #[oR ax, oR ay, oi 0] [(.int (1 : Int32)), (.int (0 : Int32))])) (fun t k => X0.arraylength hx (by rw [e0]; exact Ar4.1) (State.isArrayOf_alike hZ.alike Ar4.2.1) (g := (mkF m 11 #[oR ax, oR ay, oi 0] [(.ref ax), (.int (0 : Int32))])) rfl rfl (hb hby d10_11) t (by rw [len_of S4 M4]; exact k)) ?_
  have hc5 : (0 : Int32) < (1 : Int32) := by decide
  refine own_go (st' := s₁.setTop (mkF m 15 #[oR ax, oR ay, oi 0] [])) (fun _ k => XS.icmpNo X0.here hx rfl (hb hby d10_12) rfl (tlt hc5).2.1 k) ?_
  refine own_go (st' := s₁.setTop (mkF m 16 #[oR ax, oR ay, oi 0] [(.ref ax)])) (fun _ k => XS.aloadN X0.here hx rfl (hb hby d10_15) rfl rfl k) ?_
  refine own_go (st' := s₁.setTop (mkF m 17 #[oR ax, oR ay, oi 0] [(.int (0 : Int32)), (.ref ax)])) (fun _ k => XS.iloadN X0.here hx rfl (hb hby d10_16) rfl k) ?_
  obtain ⟨cl6, Ar6, -, S6, M6, H6, -⟩ := id pr1
  have hin6 : ¬ ((0 : Int32) < 0 ∨ cl6.slots.size ≤ ((0 : Int32)).toNatClampNeg) := (inb_of S6 ⟨by decide, by decide⟩)
  have hat6 : cl6.slots[((0 : Int32)).toNatClampNeg]? = some (.int w0) := (H6.at hin6 rfl)
  refine own_go (st' := s₁.setTop (mkF m 18 #[oR ax, oR ay, oi 0] [(.int w0)])) (X0.baloadBytes hx (j := (0 : Int32)) (v := (.int w0)) (by rw [e0]; exact Ar6.1) (State.isArrayOf_alike hZ.alike Ar6.2.1) Ar6.2.2 hin6 hat6 (g := (mkF m 17 #[oR ax, oR ay, oi 0] [(.int (0 : Int32)), (.ref ax)])) rfl rfl (hb hby d10_17)) ?_
  refine own_go (st' := s₁.setTop (mkF m 19 #[oR ax, oR ay, oi 0] [(.ref ay), (.int w0)])) (fun _ k => XS.aloadN X0.here hx rfl (hb hby d10_18) rfl rfl k) ?_
  refine own_go (st' := s₁.setTop (mkF m 20 #[oR ax, oR ay, oi 0] [(.int (0 : Int32)), (.ref ay), (.int w0)])) (fun _ k => XS.iloadN X0.here hx rfl (hb hby d10_19) rfl k) ?_
  obtain ⟨cl7, Ar7, -, S7, M7, H7, -⟩ := id pr2
  have hin7 : ¬ ((0 : Int32) < 0 ∨ cl7.slots.size ≤ ((0 : Int32)).toNatClampNeg) := (inb_of S7 ⟨by decide, by decide⟩)
  have hat7 : cl7.slots[((0 : Int32)).toNatClampNeg]? = some (.int z0) := (H7.at hin7 rfl)
  refine own_go (st' := s₁.setTop (mkF m 21 #[oR ax, oR ay, oi 0] [(.int z0), (.int w0)])) (X0.baloadBytes hx (j := (0 : Int32)) (v := (.int z0)) (by rw [e0]; exact Ar7.1) (State.isArrayOf_alike hZ.alike Ar7.2.1) Ar7.2.2 hin7 hat7 (g := (mkF m 20 #[oR ax, oR ay, oi 0] [(.int (0 : Int32)), (.ref ay), (.int w0)])) rfl rfl (hb hby d10_20)) ?_
  by_cases hc8 : w0 = z0
  · --
    refine own_go (st' := s₁.setTop (mkF m 26 #[oR ax, oR ay, oi 0] [])) (fun _ k => XS.icmpYes X0.here hx rfl (pc0 := 21) (pc' := 26) rfl (hb hby d10_21) rfl (teq hc8).1 (by decide) (by decide) k) ?_
    refine own_go (st' := s₁.setTop (mkF m 29 #[oR ax, oR ay, oi 1] [])) (fun _ k => XS.iinc X0.here hx rfl (hb hby d10_26) rfl (l' := #[oR ax, oR ay, oi 1]) (by rw [show ((0 : Int32) + Int32.ofInt 1) = (1 : Int32) by decide]; rfl) k) ?_
    refine own_go (st' := s₁.setTop (mkF m 9 #[oR ax, oR ay, oi 1] [])) (fun _ k => XS.goto X0.here hx rfl (pc0 := 29) (pc' := 9) rfl (hb hby d10_29) (by decide) (by decide) k) ?_
    refine own_go (st' := s₁.setTop (mkF m 10 #[oR ax, oR ay, oi 1] [(.int (1 : Int32))])) (fun _ k => XS.iloadN X0.here hx rfl (hb hby d10_9) rfl k) ?_
    refine own_go (st' := s₁.setTop (mkF m 11 #[oR ax, oR ay, oi 1] [(.ref ax), (.int (1 : Int32))])) (fun _ k => XS.aloadN X0.here hx rfl (hb hby d10_10) rfl rfl k) ?_
    obtain ⟨cl9, Ar9, -, S9, M9, -, -⟩ := id pr1
    refine own_go (st' := s₁.setTop (mkF m 12 #[oR ax, oR ay, oi 1] [(.int (1 : Int32)), (.int (1 : Int32))])) (fun t k => X0.arraylength hx (by rw [e0]; exact Ar9.1) (State.isArrayOf_alike hZ.alike Ar9.2.1) (g := (mkF m 11 #[oR ax, oR ay, oi 1] [(.ref ax), (.int (1 : Int32))])) rfl rfl (hb hby d10_11) t (by rw [len_of S9 M9]; exact k)) ?_
    have hc10 : ¬ ((1 : Int32) < (1 : Int32)) := by decide
    refine own_go (st' := s₁.setTop (mkF m 32 #[oR ax, oR ay, oi 1] [])) (fun _ k => XS.icmpYes X0.here hx rfl (pc0 := 12) (pc' := 32) rfl (hb hby d10_12) rfl (flt hc10).2.1 (by decide) (by decide) k) ?_
    refine own_go (st' := s₁.setTop (mkF m 33 #[oR ax, oR ay, oi 1] [(.int (1 : Int32))])) (fun _ k => XS.iconst X0.here hx rfl (hb hby d10_32) k) ?_
    obtain ⟨fs, hr, hrun, hended, hW, hsame⟩ := X0.leave (v := some (.int (1 : Int32))) (fun h => by rw [Bd.returns] at h; cases h)
    refine ⟨_, _, ?_, hP _ _ hrun hended ⟨_, _, rfl, ?_, ⟨_, rfl⟩, hW, hsame.mono (by decide) (by decide)⟩⟩
    · exact retN X0 hx (t := .boolean) Bd.returns (by simp) (hb hby d10_33) hr
    · show Qrle_11 Z ax ka ay kb w0 z0 h0 n0 _ s₁.heap _
      rw [e0]
      exact ⟨(by unfold own_eq1; rw [if_pos hc8]), N0, rfl⟩
  · --
    refine own_go (st' := s₁.setTop (mkF m 24 #[oR ax, oR ay, oi 0] [])) (fun _ k => XS.icmpNo X0.here hx rfl (hb hby d10_21) rfl (feq hc8).1 k) ?_
    refine own_go (st' := s₁.setTop (mkF m 25 #[oR ax, oR ay, oi 0] [(.int (0 : Int32))])) (fun _ k => XS.iconst X0.here hx rfl (hb hby d10_24) k) ?_
    obtain ⟨fs, hr, hrun, hended, hW, hsame⟩ := X0.leave (v := some (.int (0 : Int32))) (fun h => by rw [Bd.returns] at h; cases h)
    refine ⟨_, _, ?_, hP _ _ hrun hended ⟨_, _, rfl, ?_, ⟨_, rfl⟩, hW, hsame.mono (by decide) (by decide)⟩⟩
    · exact retN X0 hx (t := .boolean) Bd.returns (by simp) (hb hby d10_25) hr
    · show Qrle_11 Z ax ka ay kb w0 z0 h0 n0 _ s₁.heap _
      rw [e0]
      exact ⟨(by unfold own_eq1; rw [if_neg hc8]), N0, rfl⟩
theorem ef_rle_12 (m : MethodId) (x0 : Addr) (x1 : Addr) : entryFrame m #[(.ref x0), (.ref x1)] 3 = mkF m 0 #[.val (.ref x0), .val (.ref x1), .unset] [] := by first | (simp [entryFrame, mkF, argsToLocals, Value.category]; done) | rfl
def Qrle_12 (Z : State) (ax : Addr) (ka : ClassId) (ay : Addr) (kb : ClassId) (w0 : Int32) (z0 : Int32) (z1 : Int32) (h0 : Heap) (n0 : Nat) (v : Option Value) (h : Heap) (L : List Loc) : Prop := (v = some (.int (0 : Int32))) ∧ (Fr n0 L) ∧ (h = h0)
set_option maxRecDepth 65536 in
set_option maxHeartbeats 40000000 in
theorem rle_12 (l : Launch) (Z : State) (a0 : Array Value) (hw : ∀ d ∈ tables_1, d.before a0 Z = true) (ws : List Jvm.Cond) (ax : Addr) (ka : ClassId) (ay : Addr) (kb : ClassId) (w0 : Int32) (z0 : Int32) (z1 : Int32) (h0 : Heap) (n0 : Nat) (Z0 : n0 ≤ h0.size) (pr1 : Arv Z h0 ax ka .byte (1 : Int32) [(.int w0)] (.int (0 : Int32))) (pr2 : Arv Z h0 ay kb .byte (2 : Int32) [(.int z0), (.int z1)] (.int (0 : Int32))) :
    MetFree l oM0 (head1 (Jvm.Cond.code oM0 jdk_43_method_13_code 3 (some .boolean) :: ws) ({ frames := 0, cells := 0, slots := 0, locals := 0 } : Room)) (fun a U => a = #[(.ref ax), (.ref ay)] ∧ Z.Warmed39 U.vm ∧ U.heap = h0) (fun _ _ _ _ _ => True) (fun _ U o U' => ∃ v L, o = .returned v ∧ Qrle_12 Z ax ka ay kb w0 z0 z1 h0 n0 v U'.heap L ∧ FrameEnd U o U' L ({ frames := 0, cells := 0, slots := 0, locals := 0 } : Room).cells ({ frames := 0, cells := 0, slots := 0, locals := 0 } : Room).slots) := by
  refine MetFree.of_bodySF (plainFor_of_name pn_10) hisR ?_
  intro p e s m args below meth c s₁ Bd hml0 hP0 hK
  obtain ⟨rfl, hZ, hh⟩ := hP0
  have hx := Bd.exec
  have hby := Bd.bytes
  have hml : c.maxLocals = 3 := hml0
  have hown : s.vm.findClass oS5 = some m.cls := findClass_of_methodNamed Bd.named
  have hnm := (name_of_methodNamed Bd.named Bd.method).1
  have X0 : Stand p l e ({ frames := 0, cells := 0, slots := 0, locals := 0 } : Room) s m #[(.ref ax), (.ref ay)] below meth c s₁ [] 0 0 := Stand.of_body Bd
  have e0 : s₁.heap = h0 := by rw [← hh, Bd.state]; rfl
  have N0 := Fr.nil n0
  suffices own_H : ∀ (P : State → Outcome → Prop), (∀ U o, U.status = .running → Ended U below o → (∃ v L, o = .returned v ∧ Qrle_12 Z ax ka ay kb w0 z0 z1 h0 n0 v U.heap L ∧ FrameEnd s o U L ({ frames := 0, cells := 0, slots := 0, locals := 0 } : Room).cells ({ frames := 0, cells := 0, slots := 0, locals := 0 } : Room).slots) → P U o) → own_Go p.tables e below P (s₁.setTop (mkF m 0 #[oR ax, oR ay, .unset] [])) from own_go (fun _ k => castTop (ef_rle_12 m ax ay) k) (own_H _ (fun U o h1 h2 h3 => ⟨h1, h2, h3⟩))
  intro P hP
  have lt_ax : @LT.lt Nat _ ax h0.size := pr1.lt
  have lt_ay : @LT.lt Nat _ ay h0.size := pr2.lt
  refine own_go (st' := s₁.setTop (mkF m 1 #[oR ax, oR ay, .unset] [(.ref ax)])) (fun _ k => XS.aloadN X0.here hx rfl (hb hby d10_0) rfl rfl k) ?_
  obtain ⟨cl1, Ar1, -, S1, M1, -, -⟩ := id pr1
  refine own_go (st' := s₁.setTop (mkF m 2 #[oR ax, oR ay, .unset] [(.int (1 : Int32))])) (fun t k => X0.arraylength hx (by rw [e0]; exact Ar1.1) (State.isArrayOf_alike hZ.alike Ar1.2.1) (g := (mkF m 1 #[oR ax, oR ay, .unset] [(.ref ax)])) rfl rfl (hb hby d10_1) t (by rw [len_of S1 M1]; exact k)) ?_
  refine own_go (st' := s₁.setTop (mkF m 3 #[oR ax, oR ay, .unset] [(.ref ay), (.int (1 : Int32))])) (fun _ k => XS.aloadN X0.here hx rfl (hb hby d10_2) rfl rfl k) ?_
  obtain ⟨cl2, Ar2, -, S2, M2, -, -⟩ := id pr2
  refine own_go (st' := s₁.setTop (mkF m 4 #[oR ax, oR ay, .unset] [(.int (2 : Int32)), (.int (1 : Int32))])) (fun t k => X0.arraylength hx (by rw [e0]; exact Ar2.1) (State.isArrayOf_alike hZ.alike Ar2.2.1) (g := (mkF m 3 #[oR ax, oR ay, .unset] [(.ref ay), (.int (1 : Int32))])) rfl rfl (hb hby d10_3) t (by rw [len_of S2 M2]; exact k)) ?_
  have hc3 : ¬ ((1 : Int32) = (2 : Int32)) := by decide
  refine own_go (st' := s₁.setTop (mkF m 34 #[oR ax, oR ay, .unset] [])) (fun _ k => XS.icmpYes X0.here hx rfl (pc0 := 4) (pc' := 34) rfl (hb hby d10_4) rfl (feq hc3).2 (by decide) (by decide) k) ?_
  refine own_go (st' := s₁.setTop (mkF m 35 #[oR ax, oR ay, .unset] [(.int (0 : Int32))])) (fun _ k => XS.iconst X0.here hx rfl (hb hby d10_34) k) ?_
  obtain ⟨fs, hr, hrun, hended, hW, hsame⟩ := X0.leave (v := some (.int (0 : Int32))) (fun h => by rw [Bd.returns] at h; cases h)
  refine ⟨_, _, ?_, hP _ _ hrun hended ⟨_, _, rfl, ?_, ⟨_, rfl⟩, hW, hsame.mono (by decide) (by decide)⟩⟩
  · exact retN X0 hx (t := .boolean) Bd.returns (by simp) (hb hby d10_35) hr
  · show Qrle_12 Z ax ka ay kb w0 z0 z1 h0 n0 _ s₁.heap _
    rw [e0]
    exact ⟨rfl, N0, rfl⟩
theorem ef_rle_20 (m : MethodId) (x0 : Addr) (x1 : Addr) : entryFrame m #[(.ref x0), (.ref x1)] 3 = mkF m 0 #[.val (.ref x0), .val (.ref x1), .unset] [] := by first | (simp [entryFrame, mkF, argsToLocals, Value.category]; done) | rfl
def Qrle_20 (Z : State) (ax : Addr) (ka : ClassId) (ay : Addr) (kb : ClassId) (w0 : Int32) (w1 : Int32) (h0 : Heap) (n0 : Nat) (v : Option Value) (h : Heap) (L : List Loc) : Prop := (v = some (.int (0 : Int32))) ∧ (Fr n0 L) ∧ (h = h0)
set_option maxRecDepth 65536 in
set_option maxHeartbeats 40000000 in
theorem rle_20 (l : Launch) (Z : State) (a0 : Array Value) (hw : ∀ d ∈ tables_1, d.before a0 Z = true) (ws : List Jvm.Cond) (ax : Addr) (ka : ClassId) (ay : Addr) (kb : ClassId) (w0 : Int32) (w1 : Int32) (h0 : Heap) (n0 : Nat) (Z0 : n0 ≤ h0.size) (pr1 : Arv Z h0 ax ka .byte (2 : Int32) [(.int w0), (.int w1)] (.int (0 : Int32))) (pr2 : Arv Z h0 ay kb .byte (0 : Int32) [] (.int (0 : Int32))) :
    MetFree l oM0 (head1 (Jvm.Cond.code oM0 jdk_43_method_13_code 3 (some .boolean) :: ws) ({ frames := 0, cells := 0, slots := 0, locals := 0 } : Room)) (fun a U => a = #[(.ref ax), (.ref ay)] ∧ Z.Warmed39 U.vm ∧ U.heap = h0) (fun _ _ _ _ _ => True) (fun _ U o U' => ∃ v L, o = .returned v ∧ Qrle_20 Z ax ka ay kb w0 w1 h0 n0 v U'.heap L ∧ FrameEnd U o U' L ({ frames := 0, cells := 0, slots := 0, locals := 0 } : Room).cells ({ frames := 0, cells := 0, slots := 0, locals := 0 } : Room).slots) := by
  refine MetFree.of_bodySF (plainFor_of_name pn_10) hisR ?_
  intro p e s m args below meth c s₁ Bd hml0 hP0 hK
  obtain ⟨rfl, hZ, hh⟩ := hP0
  have hx := Bd.exec
  have hby := Bd.bytes
  have hml : c.maxLocals = 3 := hml0
  have hown : s.vm.findClass oS5 = some m.cls := findClass_of_methodNamed Bd.named
  have hnm := (name_of_methodNamed Bd.named Bd.method).1
  have X0 : Stand p l e ({ frames := 0, cells := 0, slots := 0, locals := 0 } : Room) s m #[(.ref ax), (.ref ay)] below meth c s₁ [] 0 0 := Stand.of_body Bd
  have e0 : s₁.heap = h0 := by rw [← hh, Bd.state]; rfl
  have N0 := Fr.nil n0
  suffices own_H : ∀ (P : State → Outcome → Prop), (∀ U o, U.status = .running → Ended U below o → (∃ v L, o = .returned v ∧ Qrle_20 Z ax ka ay kb w0 w1 h0 n0 v U.heap L ∧ FrameEnd s o U L ({ frames := 0, cells := 0, slots := 0, locals := 0 } : Room).cells ({ frames := 0, cells := 0, slots := 0, locals := 0 } : Room).slots) → P U o) → own_Go p.tables e below P (s₁.setTop (mkF m 0 #[oR ax, oR ay, .unset] [])) from own_go (fun _ k => castTop (ef_rle_20 m ax ay) k) (own_H _ (fun U o h1 h2 h3 => ⟨h1, h2, h3⟩))
  intro P hP
  have lt_ax : @LT.lt Nat _ ax h0.size := pr1.lt
  have lt_ay : @LT.lt Nat _ ay h0.size := pr2.lt
  refine own_go (st' := s₁.setTop (mkF m 1 #[oR ax, oR ay, .unset] [(.ref ax)])) (fun _ k => XS.aloadN X0.here hx rfl (hb hby d10_0) rfl rfl k) ?_
  obtain ⟨cl1, Ar1, -, S1, M1, -, -⟩ := id pr1
  refine own_go (st' := s₁.setTop (mkF m 2 #[oR ax, oR ay, .unset] [(.int (2 : Int32))])) (fun t k => X0.arraylength hx (by rw [e0]; exact Ar1.1) (State.isArrayOf_alike hZ.alike Ar1.2.1) (g := (mkF m 1 #[oR ax, oR ay, .unset] [(.ref ax)])) rfl rfl (hb hby d10_1) t (by rw [len_of S1 M1]; exact k)) ?_
  refine own_go (st' := s₁.setTop (mkF m 3 #[oR ax, oR ay, .unset] [(.ref ay), (.int (2 : Int32))])) (fun _ k => XS.aloadN X0.here hx rfl (hb hby d10_2) rfl rfl k) ?_
  obtain ⟨cl2, Ar2, -, S2, M2, -, -⟩ := id pr2
  refine own_go (st' := s₁.setTop (mkF m 4 #[oR ax, oR ay, .unset] [(.int (0 : Int32)), (.int (2 : Int32))])) (fun t k => X0.arraylength hx (by rw [e0]; exact Ar2.1) (State.isArrayOf_alike hZ.alike Ar2.2.1) (g := (mkF m 3 #[oR ax, oR ay, .unset] [(.ref ay), (.int (2 : Int32))])) rfl rfl (hb hby d10_3) t (by rw [len_of S2 M2]; exact k)) ?_
  have hc3 : ¬ ((2 : Int32) = (0 : Int32)) := by decide
  refine own_go (st' := s₁.setTop (mkF m 34 #[oR ax, oR ay, .unset] [])) (fun _ k => XS.icmpYes X0.here hx rfl (pc0 := 4) (pc' := 34) rfl (hb hby d10_4) rfl (feq hc3).2 (by decide) (by decide) k) ?_
  refine own_go (st' := s₁.setTop (mkF m 35 #[oR ax, oR ay, .unset] [(.int (0 : Int32))])) (fun _ k => XS.iconst X0.here hx rfl (hb hby d10_34) k) ?_
  obtain ⟨fs, hr, hrun, hended, hW, hsame⟩ := X0.leave (v := some (.int (0 : Int32))) (fun h => by rw [Bd.returns] at h; cases h)
  refine ⟨_, _, ?_, hP _ _ hrun hended ⟨_, _, rfl, ?_, ⟨_, rfl⟩, hW, hsame.mono (by decide) (by decide)⟩⟩
  · exact retN X0 hx (t := .boolean) Bd.returns (by simp) (hb hby d10_35) hr
  · show Qrle_20 Z ax ka ay kb w0 w1 h0 n0 _ s₁.heap _
    rw [e0]
    exact ⟨rfl, N0, rfl⟩
theorem ef_rle_21 (m : MethodId) (x0 : Addr) (x1 : Addr) : entryFrame m #[(.ref x0), (.ref x1)] 3 = mkF m 0 #[.val (.ref x0), .val (.ref x1), .unset] [] := by first | (simp [entryFrame, mkF, argsToLocals, Value.category]; done) | rfl
def Qrle_21 (Z : State) (ax : Addr) (ka : ClassId) (ay : Addr) (kb : ClassId) (w0 : Int32) (w1 : Int32) (z0 : Int32) (h0 : Heap) (n0 : Nat) (v : Option Value) (h : Heap) (L : List Loc) : Prop := (v = some (.int (0 : Int32))) ∧ (Fr n0 L) ∧ (h = h0)
set_option maxRecDepth 65536 in
set_option maxHeartbeats 40000000 in
theorem rle_21 (l : Launch) (Z : State) (a0 : Array Value) (hw : ∀ d ∈ tables_1, d.before a0 Z = true) (ws : List Jvm.Cond) (ax : Addr) (ka : ClassId) (ay : Addr) (kb : ClassId) (w0 : Int32) (w1 : Int32) (z0 : Int32) (h0 : Heap) (n0 : Nat) (Z0 : n0 ≤ h0.size) (pr1 : Arv Z h0 ax ka .byte (2 : Int32) [(.int w0), (.int w1)] (.int (0 : Int32))) (pr2 : Arv Z h0 ay kb .byte (1 : Int32) [(.int z0)] (.int (0 : Int32))) :
    MetFree l oM0 (head1 (Jvm.Cond.code oM0 jdk_43_method_13_code 3 (some .boolean) :: ws) ({ frames := 0, cells := 0, slots := 0, locals := 0 } : Room)) (fun a U => a = #[(.ref ax), (.ref ay)] ∧ Z.Warmed39 U.vm ∧ U.heap = h0) (fun _ _ _ _ _ => True) (fun _ U o U' => ∃ v L, o = .returned v ∧ Qrle_21 Z ax ka ay kb w0 w1 z0 h0 n0 v U'.heap L ∧ FrameEnd U o U' L ({ frames := 0, cells := 0, slots := 0, locals := 0 } : Room).cells ({ frames := 0, cells := 0, slots := 0, locals := 0 } : Room).slots) := by
  refine MetFree.of_bodySF (plainFor_of_name pn_10) hisR ?_
  intro p e s m args below meth c s₁ Bd hml0 hP0 hK
  obtain ⟨rfl, hZ, hh⟩ := hP0
  have hx := Bd.exec
  have hby := Bd.bytes
  have hml : c.maxLocals = 3 := hml0
  have hown : s.vm.findClass oS5 = some m.cls := findClass_of_methodNamed Bd.named
  have hnm := (name_of_methodNamed Bd.named Bd.method).1
  have X0 : Stand p l e ({ frames := 0, cells := 0, slots := 0, locals := 0 } : Room) s m #[(.ref ax), (.ref ay)] below meth c s₁ [] 0 0 := Stand.of_body Bd
  have e0 : s₁.heap = h0 := by rw [← hh, Bd.state]; rfl
  have N0 := Fr.nil n0
  suffices own_H : ∀ (P : State → Outcome → Prop), (∀ U o, U.status = .running → Ended U below o → (∃ v L, o = .returned v ∧ Qrle_21 Z ax ka ay kb w0 w1 z0 h0 n0 v U.heap L ∧ FrameEnd s o U L ({ frames := 0, cells := 0, slots := 0, locals := 0 } : Room).cells ({ frames := 0, cells := 0, slots := 0, locals := 0 } : Room).slots) → P U o) → own_Go p.tables e below P (s₁.setTop (mkF m 0 #[oR ax, oR ay, .unset] [])) from own_go (fun _ k => castTop (ef_rle_21 m ax ay) k) (own_H _ (fun U o h1 h2 h3 => ⟨h1, h2, h3⟩))
  intro P hP
  have lt_ax : @LT.lt Nat _ ax h0.size := pr1.lt
  have lt_ay : @LT.lt Nat _ ay h0.size := pr2.lt
  refine own_go (st' := s₁.setTop (mkF m 1 #[oR ax, oR ay, .unset] [(.ref ax)])) (fun _ k => XS.aloadN X0.here hx rfl (hb hby d10_0) rfl rfl k) ?_
  obtain ⟨cl1, Ar1, -, S1, M1, -, -⟩ := id pr1
  refine own_go (st' := s₁.setTop (mkF m 2 #[oR ax, oR ay, .unset] [(.int (2 : Int32))])) (fun t k => X0.arraylength hx (by rw [e0]; exact Ar1.1) (State.isArrayOf_alike hZ.alike Ar1.2.1) (g := (mkF m 1 #[oR ax, oR ay, .unset] [(.ref ax)])) rfl rfl (hb hby d10_1) t (by rw [len_of S1 M1]; exact k)) ?_
  refine own_go (st' := s₁.setTop (mkF m 3 #[oR ax, oR ay, .unset] [(.ref ay), (.int (2 : Int32))])) (fun _ k => XS.aloadN X0.here hx rfl (hb hby d10_2) rfl rfl k) ?_
  obtain ⟨cl2, Ar2, -, S2, M2, -, -⟩ := id pr2
  refine own_go (st' := s₁.setTop (mkF m 4 #[oR ax, oR ay, .unset] [(.int (1 : Int32)), (.int (2 : Int32))])) (fun t k => X0.arraylength hx (by rw [e0]; exact Ar2.1) (State.isArrayOf_alike hZ.alike Ar2.2.1) (g := (mkF m 3 #[oR ax, oR ay, .unset] [(.ref ay), (.int (2 : Int32))])) rfl rfl (hb hby d10_3) t (by rw [len_of S2 M2]; exact k)) ?_
  have hc3 : ¬ ((2 : Int32) = (1 : Int32)) := by decide
  refine own_go (st' := s₁.setTop (mkF m 34 #[oR ax, oR ay, .unset] [])) (fun _ k => XS.icmpYes X0.here hx rfl (pc0 := 4) (pc' := 34) rfl (hb hby d10_4) rfl (feq hc3).2 (by decide) (by decide) k) ?_
  refine own_go (st' := s₁.setTop (mkF m 35 #[oR ax, oR ay, .unset] [(.int (0 : Int32))])) (fun _ k => XS.iconst X0.here hx rfl (hb hby d10_34) k) ?_
  obtain ⟨fs, hr, hrun, hended, hW, hsame⟩ := X0.leave (v := some (.int (0 : Int32))) (fun h => by rw [Bd.returns] at h; cases h)
  refine ⟨_, _, ?_, hP _ _ hrun hended ⟨_, _, rfl, ?_, ⟨_, rfl⟩, hW, hsame.mono (by decide) (by decide)⟩⟩
  · exact retN X0 hx (t := .boolean) Bd.returns (by simp) (hb hby d10_35) hr
  · show Qrle_21 Z ax ka ay kb w0 w1 z0 h0 n0 _ s₁.heap _
    rw [e0]
    exact ⟨rfl, N0, rfl⟩
theorem ef_rle_22 (m : MethodId) (x0 : Addr) (x1 : Addr) : entryFrame m #[(.ref x0), (.ref x1)] 3 = mkF m 0 #[.val (.ref x0), .val (.ref x1), .unset] [] := by first | (simp [entryFrame, mkF, argsToLocals, Value.category]; done) | rfl
def Qrle_22 (Z : State) (ax : Addr) (ka : ClassId) (ay : Addr) (kb : ClassId) (w0 : Int32) (w1 : Int32) (z0 : Int32) (z1 : Int32) (h0 : Heap) (n0 : Nat) (v : Option Value) (h : Heap) (L : List Loc) : Prop := (v = some (.int (own_eq2 w0 w1 z0 z1))) ∧ (Fr n0 L) ∧ (h = h0)
set_option maxRecDepth 65536 in
set_option maxHeartbeats 40000000 in
theorem rle_22 (l : Launch) (Z : State) (a0 : Array Value) (hw : ∀ d ∈ tables_1, d.before a0 Z = true) (ws : List Jvm.Cond) (ax : Addr) (ka : ClassId) (ay : Addr) (kb : ClassId) (w0 : Int32) (w1 : Int32) (z0 : Int32) (z1 : Int32) (h0 : Heap) (n0 : Nat) (Z0 : n0 ≤ h0.size) (pr1 : Arv Z h0 ax ka .byte (2 : Int32) [(.int w0), (.int w1)] (.int (0 : Int32))) (pr2 : Arv Z h0 ay kb .byte (2 : Int32) [(.int z0), (.int z1)] (.int (0 : Int32))) :
    MetFree l oM0 (head1 (Jvm.Cond.code oM0 jdk_43_method_13_code 3 (some .boolean) :: ws) ({ frames := 0, cells := 0, slots := 0, locals := 0 } : Room)) (fun a U => a = #[(.ref ax), (.ref ay)] ∧ Z.Warmed39 U.vm ∧ U.heap = h0) (fun _ _ _ _ _ => True) (fun _ U o U' => ∃ v L, o = .returned v ∧ Qrle_22 Z ax ka ay kb w0 w1 z0 z1 h0 n0 v U'.heap L ∧ FrameEnd U o U' L ({ frames := 0, cells := 0, slots := 0, locals := 0 } : Room).cells ({ frames := 0, cells := 0, slots := 0, locals := 0 } : Room).slots) := by
  refine MetFree.of_bodySF (plainFor_of_name pn_10) hisR ?_
  intro p e s m args below meth c s₁ Bd hml0 hP0 hK
  obtain ⟨rfl, hZ, hh⟩ := hP0
  have hx := Bd.exec
  have hby := Bd.bytes
  have hml : c.maxLocals = 3 := hml0
  have hown : s.vm.findClass oS5 = some m.cls := findClass_of_methodNamed Bd.named
  have hnm := (name_of_methodNamed Bd.named Bd.method).1
  have X0 : Stand p l e ({ frames := 0, cells := 0, slots := 0, locals := 0 } : Room) s m #[(.ref ax), (.ref ay)] below meth c s₁ [] 0 0 := Stand.of_body Bd
  have e0 : s₁.heap = h0 := by rw [← hh, Bd.state]; rfl
  have N0 := Fr.nil n0
  suffices own_H : ∀ (P : State → Outcome → Prop), (∀ U o, U.status = .running → Ended U below o → (∃ v L, o = .returned v ∧ Qrle_22 Z ax ka ay kb w0 w1 z0 z1 h0 n0 v U.heap L ∧ FrameEnd s o U L ({ frames := 0, cells := 0, slots := 0, locals := 0 } : Room).cells ({ frames := 0, cells := 0, slots := 0, locals := 0 } : Room).slots) → P U o) → own_Go p.tables e below P (s₁.setTop (mkF m 0 #[oR ax, oR ay, .unset] [])) from own_go (fun _ k => castTop (ef_rle_22 m ax ay) k) (own_H _ (fun U o h1 h2 h3 => ⟨h1, h2, h3⟩))
  intro P hP
  have lt_ax : @LT.lt Nat _ ax h0.size := pr1.lt
  have lt_ay : @LT.lt Nat _ ay h0.size := pr2.lt
  refine own_go (st' := s₁.setTop (mkF m 1 #[oR ax, oR ay, .unset] [(.ref ax)])) (fun _ k => XS.aloadN X0.here hx rfl (hb hby d10_0) rfl rfl k) ?_
  obtain ⟨cl1, Ar1, -, S1, M1, -, -⟩ := id pr1
  refine own_go (st' := s₁.setTop (mkF m 2 #[oR ax, oR ay, .unset] [(.int (2 : Int32))])) (fun t k => X0.arraylength hx (by rw [e0]; exact Ar1.1) (State.isArrayOf_alike hZ.alike Ar1.2.1) (g := (mkF m 1 #[oR ax, oR ay, .unset] [(.ref ax)])) rfl rfl (hb hby d10_1) t (by rw [len_of S1 M1]; exact k)) ?_
  refine own_go (st' := s₁.setTop (mkF m 3 #[oR ax, oR ay, .unset] [(.ref ay), (.int (2 : Int32))])) (fun _ k => XS.aloadN X0.here hx rfl (hb hby d10_2) rfl rfl k) ?_
  obtain ⟨cl2, Ar2, -, S2, M2, -, -⟩ := id pr2
  refine own_go (st' := s₁.setTop (mkF m 4 #[oR ax, oR ay, .unset] [(.int (2 : Int32)), (.int (2 : Int32))])) (fun t k => X0.arraylength hx (by rw [e0]; exact Ar2.1) (State.isArrayOf_alike hZ.alike Ar2.2.1) (g := (mkF m 3 #[oR ax, oR ay, .unset] [(.ref ay), (.int (2 : Int32))])) rfl rfl (hb hby d10_3) t (by rw [len_of S2 M2]; exact k)) ?_
  have hc3 : (2 : Int32) = (2 : Int32) := by decide
  refine own_go (st' := s₁.setTop (mkF m 7 #[oR ax, oR ay, .unset] [])) (fun _ k => XS.icmpNo X0.here hx rfl (hb hby d10_4) rfl (teq hc3).2 k) ?_
  refine own_go (st' := s₁.setTop (mkF m 8 #[oR ax, oR ay, .unset] [(.int (0 : Int32))])) (fun _ k => XS.iconst X0.here hx rfl (hb hby d10_7) k) ?_
  refine own_go (st' := s₁.setTop (mkF m 9 #[oR ax, oR ay, oi 0] [])) (fun _ k => XS.istoreN X0.here hx rfl (hb hby d10_8) rfl (l' := #[oR ax, oR ay, oi 0]) rfl k) ?_
  refine own_go (st' := s₁.setTop (mkF m 10 #[oR ax, oR ay, oi 0] [(.int (0 : Int32))])) (fun _ k => XS.iloadN X0.here hx rfl (hb hby d10_9) rfl k) ?_
  refine own_go (st' := s₁.setTop (mkF m 11 #[oR ax, oR ay, oi 0] [(.ref ax), (.int (0 : Int32))])) (fun _ k => XS.aloadN X0.here hx rfl (hb hby d10_10) rfl rfl k) ?_
  obtain ⟨cl4, Ar4, -, S4, M4, -, -⟩ := id pr1
  refine own_go (st' := s₁.setTop (mkF m 12 #[oR ax, oR ay, oi 0] [(.int (2 : Int32)), (.int (0 : Int32))])) (fun t k => X0.arraylength hx (by rw [e0]; exact Ar4.1) (State.isArrayOf_alike hZ.alike Ar4.2.1) (g := (mkF m 11 #[oR ax, oR ay, oi 0] [(.ref ax), (.int (0 : Int32))])) rfl rfl (hb hby d10_11) t (by rw [len_of S4 M4]; exact k)) ?_
  have hc5 : (0 : Int32) < (2 : Int32) := by decide
  refine own_go (st' := s₁.setTop (mkF m 15 #[oR ax, oR ay, oi 0] [])) (fun _ k => XS.icmpNo X0.here hx rfl (hb hby d10_12) rfl (tlt hc5).2.1 k) ?_
  refine own_go (st' := s₁.setTop (mkF m 16 #[oR ax, oR ay, oi 0] [(.ref ax)])) (fun _ k => XS.aloadN X0.here hx rfl (hb hby d10_15) rfl rfl k) ?_
  refine own_go (st' := s₁.setTop (mkF m 17 #[oR ax, oR ay, oi 0] [(.int (0 : Int32)), (.ref ax)])) (fun _ k => XS.iloadN X0.here hx rfl (hb hby d10_16) rfl k) ?_
  obtain ⟨cl6, Ar6, -, S6, M6, H6, -⟩ := id pr1
  have hin6 : ¬ ((0 : Int32) < 0 ∨ cl6.slots.size ≤ ((0 : Int32)).toNatClampNeg) := (inb_of S6 ⟨by decide, by decide⟩)
  have hat6 : cl6.slots[((0 : Int32)).toNatClampNeg]? = some (.int w0) := (H6.at hin6 rfl)
  refine own_go (st' := s₁.setTop (mkF m 18 #[oR ax, oR ay, oi 0] [(.int w0)])) (X0.baloadBytes hx (j := (0 : Int32)) (v := (.int w0)) (by rw [e0]; exact Ar6.1) (State.isArrayOf_alike hZ.alike Ar6.2.1) Ar6.2.2 hin6 hat6 (g := (mkF m 17 #[oR ax, oR ay, oi 0] [(.int (0 : Int32)), (.ref ax)])) rfl rfl (hb hby d10_17)) ?_
  refine own_go (st' := s₁.setTop (mkF m 19 #[oR ax, oR ay, oi 0] [(.ref ay), (.int w0)])) (fun _ k => XS.aloadN X0.here hx rfl (hb hby d10_18) rfl rfl k) ?_
  refine own_go (st' := s₁.setTop (mkF m 20 #[oR ax, oR ay, oi 0] [(.int (0 : Int32)), (.ref ay), (.int w0)])) (fun _ k => XS.iloadN X0.here hx rfl (hb hby d10_19) rfl k) ?_
  obtain ⟨cl7, Ar7, -, S7, M7, H7, -⟩ := id pr2
  have hin7 : ¬ ((0 : Int32) < 0 ∨ cl7.slots.size ≤ ((0 : Int32)).toNatClampNeg) := (inb_of S7 ⟨by decide, by decide⟩)
  have hat7 : cl7.slots[((0 : Int32)).toNatClampNeg]? = some (.int z0) := (H7.at hin7 rfl)
  refine own_go (st' := s₁.setTop (mkF m 21 #[oR ax, oR ay, oi 0] [(.int z0), (.int w0)])) (X0.baloadBytes hx (j := (0 : Int32)) (v := (.int z0)) (by rw [e0]; exact Ar7.1) (State.isArrayOf_alike hZ.alike Ar7.2.1) Ar7.2.2 hin7 hat7 (g := (mkF m 20 #[oR ax, oR ay, oi 0] [(.int (0 : Int32)), (.ref ay), (.int w0)])) rfl rfl (hb hby d10_20)) ?_
  by_cases hc8 : w0 = z0
  · --
    refine own_go (st' := s₁.setTop (mkF m 26 #[oR ax, oR ay, oi 0] [])) (fun _ k => XS.icmpYes X0.here hx rfl (pc0 := 21) (pc' := 26) rfl (hb hby d10_21) rfl (teq hc8).1 (by decide) (by decide) k) ?_
    refine own_go (st' := s₁.setTop (mkF m 29 #[oR ax, oR ay, oi 1] [])) (fun _ k => XS.iinc X0.here hx rfl (hb hby d10_26) rfl (l' := #[oR ax, oR ay, oi 1]) (by rw [show ((0 : Int32) + Int32.ofInt 1) = (1 : Int32) by decide]; rfl) k) ?_
    refine own_go (st' := s₁.setTop (mkF m 9 #[oR ax, oR ay, oi 1] [])) (fun _ k => XS.goto X0.here hx rfl (pc0 := 29) (pc' := 9) rfl (hb hby d10_29) (by decide) (by decide) k) ?_
    refine own_go (st' := s₁.setTop (mkF m 10 #[oR ax, oR ay, oi 1] [(.int (1 : Int32))])) (fun _ k => XS.iloadN X0.here hx rfl (hb hby d10_9) rfl k) ?_
    refine own_go (st' := s₁.setTop (mkF m 11 #[oR ax, oR ay, oi 1] [(.ref ax), (.int (1 : Int32))])) (fun _ k => XS.aloadN X0.here hx rfl (hb hby d10_10) rfl rfl k) ?_
    obtain ⟨cl9, Ar9, -, S9, M9, -, -⟩ := id pr1
    refine own_go (st' := s₁.setTop (mkF m 12 #[oR ax, oR ay, oi 1] [(.int (2 : Int32)), (.int (1 : Int32))])) (fun t k => X0.arraylength hx (by rw [e0]; exact Ar9.1) (State.isArrayOf_alike hZ.alike Ar9.2.1) (g := (mkF m 11 #[oR ax, oR ay, oi 1] [(.ref ax), (.int (1 : Int32))])) rfl rfl (hb hby d10_11) t (by rw [len_of S9 M9]; exact k)) ?_
    have hc10 : (1 : Int32) < (2 : Int32) := by decide
    refine own_go (st' := s₁.setTop (mkF m 15 #[oR ax, oR ay, oi 1] [])) (fun _ k => XS.icmpNo X0.here hx rfl (hb hby d10_12) rfl (tlt hc10).2.1 k) ?_
    refine own_go (st' := s₁.setTop (mkF m 16 #[oR ax, oR ay, oi 1] [(.ref ax)])) (fun _ k => XS.aloadN X0.here hx rfl (hb hby d10_15) rfl rfl k) ?_
    refine own_go (st' := s₁.setTop (mkF m 17 #[oR ax, oR ay, oi 1] [(.int (1 : Int32)), (.ref ax)])) (fun _ k => XS.iloadN X0.here hx rfl (hb hby d10_16) rfl k) ?_
    obtain ⟨cl11, Ar11, -, S11, M11, H11, -⟩ := id pr1
    have hin11 : ¬ ((1 : Int32) < 0 ∨ cl11.slots.size ≤ ((1 : Int32)).toNatClampNeg) := (inb_of S11 ⟨by decide, by decide⟩)
    have hat11 : cl11.slots[((1 : Int32)).toNatClampNeg]? = some (.int w1) := (H11.at hin11 rfl)
    refine own_go (st' := s₁.setTop (mkF m 18 #[oR ax, oR ay, oi 1] [(.int w1)])) (X0.baloadBytes hx (j := (1 : Int32)) (v := (.int w1)) (by rw [e0]; exact Ar11.1) (State.isArrayOf_alike hZ.alike Ar11.2.1) Ar11.2.2 hin11 hat11 (g := (mkF m 17 #[oR ax, oR ay, oi 1] [(.int (1 : Int32)), (.ref ax)])) rfl rfl (hb hby d10_17)) ?_
    refine own_go (st' := s₁.setTop (mkF m 19 #[oR ax, oR ay, oi 1] [(.ref ay), (.int w1)])) (fun _ k => XS.aloadN X0.here hx rfl (hb hby d10_18) rfl rfl k) ?_
    refine own_go (st' := s₁.setTop (mkF m 20 #[oR ax, oR ay, oi 1] [(.int (1 : Int32)), (.ref ay), (.int w1)])) (fun _ k => XS.iloadN X0.here hx rfl (hb hby d10_19) rfl k) ?_
    obtain ⟨cl12, Ar12, -, S12, M12, H12, -⟩ := id pr2
    have hin12 : ¬ ((1 : Int32) < 0 ∨ cl12.slots.size ≤ ((1 : Int32)).toNatClampNeg) := (inb_of S12 ⟨by decide, by decide⟩)
    have hat12 : cl12.slots[((1 : Int32)).toNatClampNeg]? = some (.int z1) := (H12.at hin12 rfl)
    refine own_go (st' := s₁.setTop (mkF m 21 #[oR ax, oR ay, oi 1] [(.int z1), (.int w1)])) (X0.baloadBytes hx (j := (1 : Int32)) (v := (.int z1)) (by rw [e0]; exact Ar12.1) (State.isArrayOf_alike hZ.alike Ar12.2.1) Ar12.2.2 hin12 hat12 (g := (mkF m 20 #[oR ax, oR ay, oi 1] [(.int (1 : Int32)), (.ref ay), (.int w1)])) rfl rfl (hb hby d10_20)) ?_
    by_cases hc13 : w1 = z1
    · --
      refine own_go (st' := s₁.setTop (mkF m 26 #[oR ax, oR ay, oi 1] [])) (fun _ k => XS.icmpYes X0.here hx rfl (pc0 := 21) (pc' := 26) rfl (hb hby d10_21) rfl (teq hc13).1 (by decide) (by decide) k) ?_
      refine own_go (st' := s₁.setTop (mkF m 29 #[oR ax, oR ay, oi 2] [])) (fun _ k => XS.iinc X0.here hx rfl (hb hby d10_26) rfl (l' := #[oR ax, oR ay, oi 2]) (by rw [show ((1 : Int32) + Int32.ofInt 1) = (2 : Int32) by decide]; rfl) k) ?_
      refine own_go (st' := s₁.setTop (mkF m 9 #[oR ax, oR ay, oi 2] [])) (fun _ k => XS.goto X0.here hx rfl (pc0 := 29) (pc' := 9) rfl (hb hby d10_29) (by decide) (by decide) k) ?_
      refine own_go (st' := s₁.setTop (mkF m 10 #[oR ax, oR ay, oi 2] [(.int (2 : Int32))])) (fun _ k => XS.iloadN X0.here hx rfl (hb hby d10_9) rfl k) ?_
      refine own_go (st' := s₁.setTop (mkF m 11 #[oR ax, oR ay, oi 2] [(.ref ax), (.int (2 : Int32))])) (fun _ k => XS.aloadN X0.here hx rfl (hb hby d10_10) rfl rfl k) ?_
      obtain ⟨cl14, Ar14, -, S14, M14, -, -⟩ := id pr1
      refine own_go (st' := s₁.setTop (mkF m 12 #[oR ax, oR ay, oi 2] [(.int (2 : Int32)), (.int (2 : Int32))])) (fun t k => X0.arraylength hx (by rw [e0]; exact Ar14.1) (State.isArrayOf_alike hZ.alike Ar14.2.1) (g := (mkF m 11 #[oR ax, oR ay, oi 2] [(.ref ax), (.int (2 : Int32))])) rfl rfl (hb hby d10_11) t (by rw [len_of S14 M14]; exact k)) ?_
      have hc15 : ¬ ((2 : Int32) < (2 : Int32)) := by decide
      refine own_go (st' := s₁.setTop (mkF m 32 #[oR ax, oR ay, oi 2] [])) (fun _ k => XS.icmpYes X0.here hx rfl (pc0 := 12) (pc' := 32) rfl (hb hby d10_12) rfl (flt hc15).2.1 (by decide) (by decide) k) ?_
      refine own_go (st' := s₁.setTop (mkF m 33 #[oR ax, oR ay, oi 2] [(.int (1 : Int32))])) (fun _ k => XS.iconst X0.here hx rfl (hb hby d10_32) k) ?_
      obtain ⟨fs, hr, hrun, hended, hW, hsame⟩ := X0.leave (v := some (.int (1 : Int32))) (fun h => by rw [Bd.returns] at h; cases h)
      refine ⟨_, _, ?_, hP _ _ hrun hended ⟨_, _, rfl, ?_, ⟨_, rfl⟩, hW, hsame.mono (by decide) (by decide)⟩⟩
      · exact retN X0 hx (t := .boolean) Bd.returns (by simp) (hb hby d10_33) hr
      · show Qrle_22 Z ax ka ay kb w0 w1 z0 z1 h0 n0 _ s₁.heap _
        rw [e0]
        exact ⟨(by unfold own_eq2; rw [if_pos hc8, if_pos hc13]), N0, rfl⟩
    · --
      refine own_go (st' := s₁.setTop (mkF m 24 #[oR ax, oR ay, oi 1] [])) (fun _ k => XS.icmpNo X0.here hx rfl (hb hby d10_21) rfl (feq hc13).1 k) ?_
      refine own_go (st' := s₁.setTop (mkF m 25 #[oR ax, oR ay, oi 1] [(.int (0 : Int32))])) (fun _ k => XS.iconst X0.here hx rfl (hb hby d10_24) k) ?_
      obtain ⟨fs, hr, hrun, hended, hW, hsame⟩ := X0.leave (v := some (.int (0 : Int32))) (fun h => by rw [Bd.returns] at h; cases h)
      refine ⟨_, _, ?_, hP _ _ hrun hended ⟨_, _, rfl, ?_, ⟨_, rfl⟩, hW, hsame.mono (by decide) (by decide)⟩⟩
      · exact retN X0 hx (t := .boolean) Bd.returns (by simp) (hb hby d10_25) hr
      · show Qrle_22 Z ax ka ay kb w0 w1 z0 z1 h0 n0 _ s₁.heap _
        rw [e0]
        exact ⟨(by unfold own_eq2; rw [if_pos hc8, if_neg hc13]), N0, rfl⟩
  · --
    refine own_go (st' := s₁.setTop (mkF m 24 #[oR ax, oR ay, oi 0] [])) (fun _ k => XS.icmpNo X0.here hx rfl (hb hby d10_21) rfl (feq hc8).1 k) ?_
    refine own_go (st' := s₁.setTop (mkF m 25 #[oR ax, oR ay, oi 0] [(.int (0 : Int32))])) (fun _ k => XS.iconst X0.here hx rfl (hb hby d10_24) k) ?_
    obtain ⟨fs, hr, hrun, hended, hW, hsame⟩ := X0.leave (v := some (.int (0 : Int32))) (fun h => by rw [Bd.returns] at h; cases h)
    refine ⟨_, _, ?_, hP _ _ hrun hended ⟨_, _, rfl, ?_, ⟨_, rfl⟩, hW, hsame.mono (by decide) (by decide)⟩⟩
    · exact retN X0 hx (t := .boolean) Bd.returns (by simp) (hb hby d10_25) hr
    · show Qrle_22 Z ax ka ay kb w0 w1 z0 z1 h0 n0 _ s₁.heap _
      rw [e0]
      exact ⟨(by unfold own_eq2; rw [if_neg hc8]), N0, rfl⟩
theorem pd_6 : parseMethodDescriptor "([B[B)Z" = some ⟨[(.array .byte), (.array .byte)], some .boolean⟩ := by decide +kernel
theorem d9_7 : decode jdk_42_method_66_code 7 = .ok (.aload_n 1, 1) := by decide +kernel
theorem d9_8 : decode jdk_42_method_66_code 8 = .ok (.instanceof 10, 3) := by decide +kernel
theorem d9_11 : decode jdk_42_method_66_code 11 = .ok (.ifCond .eq 43, 3) := by decide +kernel
theorem d9_14 : decode jdk_42_method_66_code 14 = .ok (.aload_n 1, 1) := by decide +kernel
theorem d9_15 : decode jdk_42_method_66_code 15 = .ok (.checkcast 10, 3) := by decide +kernel
theorem d9_18 : decode jdk_42_method_66_code 18 = .ok (.astore_n 2, 1) := by decide +kernel
theorem d9_19 : decode jdk_42_method_66_code 19 = .ok (.getstatic 38, 3) := by decide +kernel
theorem d9_22 : decode jdk_42_method_66_code 22 = .ok (.ifCond .eq 14, 3) := by decide +kernel
theorem d9_25 : decode jdk_42_method_66_code 25 = .ok (.aload_n 0, 1) := by decide +kernel
theorem d9_26 : decode jdk_42_method_66_code 26 = .ok (.getfield 15, 3) := by decide +kernel
theorem d9_29 : decode jdk_42_method_66_code 29 = .ok (.aload_n 2, 1) := by decide +kernel
theorem d9_30 : decode jdk_42_method_66_code 30 = .ok (.getfield 15, 3) := by decide +kernel
theorem d9_33 : decode jdk_42_method_66_code 33 = .ok (.if_icmp .ne 21, 3) := by decide +kernel
theorem d9_36 : decode jdk_42_method_66_code 36 = .ok (.aload_n 0, 1) := by decide +kernel
theorem d9_37 : decode jdk_42_method_66_code 37 = .ok (.getfield 9, 3) := by decide +kernel
theorem d9_40 : decode jdk_42_method_66_code 40 = .ok (.aload_n 2, 1) := by decide +kernel
theorem d9_41 : decode jdk_42_method_66_code 41 = .ok (.getfield 9, 3) := by decide +kernel
theorem d9_44 : decode jdk_42_method_66_code 44 = .ok (.invokestatic 541, 3) := by decide +kernel
theorem d9_47 : decode jdk_42_method_66_code 47 = .ok (.ifCond .eq 7, 3) := by decide +kernel
theorem d9_50 : decode jdk_42_method_66_code 50 = .ok (.iconst 1, 1) := by decide +kernel
theorem d9_51 : decode jdk_42_method_66_code 51 = .ok (.goto 4, 3) := by decide +kernel
theorem d9_54 : decode jdk_42_method_66_code 54 = .ok (.iconst 0, 1) := by decide +kernel
theorem d9_55 : decode jdk_42_method_66_code 55 = .ok (.ireturn, 1) := by decide +kernel
theorem ef_rse_gen (m : MethodId) (x0 : Addr) (x1 : Addr) : entryFrame m #[(.ref x0), (.ref x1)] 3 = mkF m 0 #[.val (.ref x0), .val (.ref x1), .unset] [] := by first | (simp [entryFrame, mkF, argsToLocals, Value.category]; done) | rfl
def Qrse_gen (Z : State) (a1 : Addr) (a2 : Addr) (zc : Int32) (ax : Addr) (ka : ClassId) (zn : Int32) (vs : List Value) (ay : Addr) (kb : ClassId) (zm : Int32) (vt : List Value) (h0 : Heap) (n0 : Nat) (v : Option Value) (h : Heap) (L : List Loc) : Prop := (v = some (.int (own_veq vs vt))) ∧ (Fr n0 L) ∧ (h = h0)
set_option maxRecDepth 65536 in
set_option maxHeartbeats 40000000 in
theorem rse_gen (l : Launch) (Z : State) (a0 : Array Value) (hw : ∀ d ∈ tables_1, d.before a0 Z = true) (ws : List Jvm.Cond) (a1 : Addr) (a2 : Addr) (zc : Int32) (ax : Addr) (ka : ClassId) (zn : Int32) (vs : List Value) (ay : Addr) (kb : ClassId) (zm : Int32) (vt : List Value) (h0 : Heap) (n0 : Nat) (Z0 : n0 ≤ h0.size) (pr1 : Sta Z h0 oS0 oS2 "Z" (.int zc)) (hzc : ¬ zc = (0 : Int32)) (pr2 : @Ne Nat a1 a2) (pr3 : Exa Z h0 a1 oS0) (pr4 : Fld Z h0 a1 oS0 "value" "[B" (.ref ax)) (pr5 : Fld Z h0 a1 oS0 "coder" "B" (.int (0 : Int32))) (pr6 : Exa Z h0 a2 oS0) (pr7 : Fld Z h0 a2 oS0 "value" "[B" (.ref ay)) (pr8 : Fld Z h0 a2 oS0 "coder" "B" (.int (0 : Int32))) (pr9 : Arv Z h0 ax ka .byte zn vs (.int (0 : Int32))) (pr10 : Arv Z h0 ay kb .byte zm vt (.int (0 : Int32))) (hsh1 : own_sh zn vs) (hsh2 : own_sh zm vt) :
    MetFree l oM4 (head1 (Jvm.Cond.code oM4 jdk_42_method_66_code 3 (some .boolean) :: ws) ({ frames := 1, cells := 0, slots := 0, locals := 14 } : Room)) (fun a U => a = #[(.ref a1), (.ref a2)] ∧ Z.Warmed39 U.vm ∧ U.heap = h0) (fun _ _ _ _ _ => True) (fun _ U o U' => ∃ v L, o = .returned v ∧ Qrse_gen Z a1 a2 zc ax ka zn vs ay kb zm vt h0 n0 v U'.heap L ∧ FrameEnd U o U' L ({ frames := 1, cells := 0, slots := 0, locals := 14 } : Room).cells ({ frames := 1, cells := 0, slots := 0, locals := 14 } : Room).slots) := by
  refine MetFree.of_bodySF (plainFor_of_name pn_9) hisR ?_
  intro p e s m args below meth c s₁ Bd hml0 hP0 hK
  obtain ⟨rfl, hZ, hh⟩ := hP0
  have hx := Bd.exec
  have hby := Bd.bytes
  have hml : c.maxLocals = 3 := hml0
  have hown : s.vm.findClass oS0 = some m.cls := findClass_of_methodNamed Bd.named
  have hnm := (name_of_methodNamed Bd.named Bd.method).1
  have X0 : Stand p l e ({ frames := 1, cells := 0, slots := 0, locals := 14 } : Room) s m #[(.ref a1), (.ref a2)] below meth c s₁ [] 0 0 := Stand.of_body Bd
  have e0 : s₁.heap = h0 := by rw [← hh, Bd.state]; rfl
  have N0 := Fr.nil n0
  suffices own_H : ∀ (P : State → Outcome → Prop), (∀ U o, U.status = .running → Ended U below o → (∃ v L, o = .returned v ∧ Qrse_gen Z a1 a2 zc ax ka zn vs ay kb zm vt h0 n0 v U.heap L ∧ FrameEnd s o U L ({ frames := 1, cells := 0, slots := 0, locals := 14 } : Room).cells ({ frames := 1, cells := 0, slots := 0, locals := 14 } : Room).slots) → P U o) → own_Go p.tables e below P (s₁.setTop (mkF m 0 #[oR a1, oR a2, .unset] [])) from own_go (fun _ k => castTop (ef_rse_gen m a1 a2) k) (own_H _ (fun U o h1 h2 h3 => ⟨h1, h2, h3⟩))
  intro P hP
  have lt_a1 : @LT.lt Nat _ a1 h0.size := pr3.lt
  have lt_a2 : @LT.lt Nat _ a2 h0.size := pr6.lt
  have lt_ax : @LT.lt Nat _ ax h0.size := pr9.lt
  have lt_ay : @LT.lt Nat _ ay h0.size := pr10.lt
  refine own_go (st' := s₁.setTop (mkF m 1 #[oR a1, oR a2, .unset] [(.ref a1)])) (fun _ k => XS.aloadN X0.here hx rfl (hb hby d9_0) rfl rfl k) ?_
  refine own_go (st' := s₁.setTop (mkF m 2 #[oR a1, oR a2, .unset] [(.ref a2), (.ref a1)])) (fun _ k => XS.aloadN X0.here hx rfl (hb hby d9_1) rfl rfl k) ?_
  have hc1 : ¬ (a1 = a2) := (fun q_ => (own_ne' (by assumption)) q_)
  refine own_go (st' := s₁.setTop (mkF m 7 #[oR a1, oR a2, .unset] [])) (fun _ k => Jvm.RoadKit.acmp (g := (mkF m 2 #[oR a1, oR a2, .unset] [(.ref a2), (.ref a1)])) X0 hx rfl rfl rfl (pc0 := 2) (pc' := 7) (same := false) rfl (hb hby d9_2) rfl (decide_eq_false fun q_ => hc1 (Value.ref.inj q_)) (by decide) (by decide) k) ?_
  refine own_go (st' := s₁.setTop (mkF m 8 #[oR a1, oR a2, .unset] [(.ref a2)])) (fun _ k => XS.aloadN X0.here hx rfl (hb hby d9_7) rfl rfl k) ?_
  obtain ⟨T2, X2, e2, st2⟩ := instY X0 hx hZ hown (own_hw hw 59) e0 (Ins.self pr6) (g := (mkF m 8 #[oR a1, oR a2, .unset] [(.ref a2)])) rfl rfl (hb hby d9_8)
  refine own_go (st' := T2.setTop (mkF m 11 #[oR a1, oR a2, .unset] [(.int (1 : Int32))])) (st2) ?_
  have hc3 : ¬ ((1 : Int32) = (0 : Int32)) := by decide
  refine own_go (st' := T2.setTop (mkF m 14 #[oR a1, oR a2, .unset] [])) (fun _ k => XS.ifNo X2.here hx rfl (hb hby d9_11) rfl ((if0 _ _).trans (feq hc3).1) k) ?_
  refine own_go (st' := T2.setTop (mkF m 15 #[oR a1, oR a2, .unset] [(.ref a2)])) (fun _ k => XS.aloadN X2.here hx rfl (hb hby d9_14) rfl rfl k) ?_
  obtain ⟨T4, X4, e4, st4⟩ := castY X2 hx hZ hown (own_hw hw 59) e2 (Ins.self pr6) (g := (mkF m 15 #[oR a1, oR a2, .unset] [(.ref a2)])) rfl rfl (hb hby d9_15)
  refine own_go (st' := T4.setTop (mkF m 18 #[oR a1, oR a2, .unset] [(.ref a2)])) (st4) ?_
  refine own_go (st' := T4.setTop (mkF m 19 #[oR a1, oR a2, oR a2] [])) (fun _ k => XS.astoreN X4.here hx rfl (hb hby d9_18) rfl rfl (l' := #[oR a1, oR a2, oR a2]) rfl k) ?_
  obtain ⟨T5, X5, e5, st5⟩ := getS2 X4 hx hZ hown (host := "") (Or.inl (own_hw hw 60)) Via.refl e4 pr1 (g := (mkF m 19 #[oR a1, oR a2, oR a2] [])) rfl (hb hby d9_19)
  refine own_go (st' := T5.setTop (mkF m 22 #[oR a1, oR a2, oR a2] [(.int zc)])) (st5) ?_
  have hc6 : ¬ (zc = (0 : Int32)) := hzc
  refine own_go (st' := T5.setTop (mkF m 25 #[oR a1, oR a2, oR a2] [])) (fun _ k => XS.ifNo X5.here hx rfl (hb hby d9_22) rfl ((if0 _ _).trans (feq hc6).1) k) ?_
  refine own_go (st' := T5.setTop (mkF m 26 #[oR a1, oR a2, oR a2] [(.ref a1)])) (fun _ k => XS.aloadN X5.here hx rfl (hb hby d9_25) rfl rfl k) ?_
  obtain ⟨T7, X7, e7, st7⟩ := getF X5 hx hZ hown (host := "") (Or.inl (own_hw hw 29)) Via.refl e5 pr5 (g := (mkF m 26 #[oR a1, oR a2, oR a2] [(.ref a1)])) rfl rfl (hb hby d9_26)
  refine own_go (st' := T7.setTop (mkF m 29 #[oR a1, oR a2, oR a2] [(.int (0 : Int32))])) (st7) ?_
  refine own_go (st' := T7.setTop (mkF m 30 #[oR a1, oR a2, oR a2] [(.ref a2), (.int (0 : Int32))])) (fun _ k => XS.aloadN X7.here hx rfl (hb hby d9_29) rfl rfl k) ?_
  obtain ⟨T8, X8, e8, st8⟩ := getF X7 hx hZ hown (host := "") (Or.inl (own_hw hw 29)) Via.refl e7 pr8 (g := (mkF m 30 #[oR a1, oR a2, oR a2] [(.ref a2), (.int (0 : Int32))])) rfl rfl (hb hby d9_30)
  refine own_go (st' := T8.setTop (mkF m 33 #[oR a1, oR a2, oR a2] [(.int (0 : Int32)), (.int (0 : Int32))])) (st8) ?_
  have hc9 : (0 : Int32) = (0 : Int32) := by decide
  refine own_go (st' := T8.setTop (mkF m 36 #[oR a1, oR a2, oR a2] [])) (fun _ k => XS.icmpNo X8.here hx rfl (hb hby d9_33) rfl (teq hc9).2 k) ?_
  rcases hsh1 with ⟨hnn, hvn⟩ | ⟨w0, hnn, hvn⟩ | ⟨w0, w1, hnn, hvn⟩
  · --
    have v10 : Arv Z h0 ax ka .byte (0 : Int32) [] (.int (0 : Int32)) := by have q_ := pr9; rw [hnn, hvn] at q_; exact q_
    rcases hsh2 with ⟨hnm, hvm⟩ | ⟨z0, hnm, hvm⟩ | ⟨z0, z1, hnm, hvm⟩
    · --
      have v11 : Arv Z h0 ay kb .byte (0 : Int32) [] (.int (0 : Int32)) := by have q_ := pr10; rw [hnm, hvm] at q_; exact q_
      refine own_go (st' := T8.setTop (mkF m 37 #[oR a1, oR a2, oR a2] [(.ref a1)])) (fun _ k => XS.aloadN X8.here hx rfl (hb hby d9_36) rfl rfl k) ?_
      obtain ⟨T12, X12, e12, st12⟩ := getF X8 hx hZ hown (host := "") (Or.inl (own_hw hw 28)) Via.refl e8 pr4 (g := (mkF m 37 #[oR a1, oR a2, oR a2] [(.ref a1)])) rfl rfl (hb hby d9_37)
      refine own_go (st' := T12.setTop (mkF m 40 #[oR a1, oR a2, oR a2] [(.ref ax)])) (st12) ?_
      refine own_go (st' := T12.setTop (mkF m 41 #[oR a1, oR a2, oR a2] [(.ref a2), (.ref ax)])) (fun _ k => XS.aloadN X12.here hx rfl (hb hby d9_40) rfl rfl k) ?_
      obtain ⟨T13, X13, e13, st13⟩ := getF X12 hx hZ hown (host := "") (Or.inl (own_hw hw 28)) Via.refl e12 pr7 (g := (mkF m 41 #[oR a1, oR a2, oR a2] [(.ref a2), (.ref ax)])) rfl rfl (hb hby d9_41)
      refine own_go (st' := T13.setTop (mkF m 44 #[oR a1, oR a2, oR a2] [(.ref ay), (.ref ax)])) (st13) ?_
      obtain ⟨_, _, ⟨T14, LC14, kC14, nC14⟩, -, X14, ⟨Lc14, hQ14, lq14, yq14, zq14⟩, st14⟩ := Jvm.LawKit.callS X13 hx (y := oM0) hown (mvT hZ (own_hw hw 61)) (mvT hZ (own_hw hw 62)) (mvT hZ (own_hw hw 63)) (mvT hZ (own_hw hw 64)) (by decide) (backOf (W := 0) (rle_00 l Z a0 hw [] ax ka ay kb h0 n0 (by omega) v10 v11) hZ (own_hw hw 64) (own_hw hw 63) (by decide) (by decide)) (g := (mkF m 44 #[oR a1, oR a2, oR a2] [(.ref ay), (.ref ax)])) rfl (by rw [hml]; rfl) (argsL := [(.ref ax), (.ref ay)]) (rest := []) (lenOf pd_6 rfl) rfl (by show 2 * 0 + _ ≤ _; exact Nat.le_of_eq rfl) (hb hby d9_44) (fun _ _ => ⟨rfl, e13, (by decide : 0 + 0 ≤ _), (by decide : 0 + 0 ≤ _)⟩)
      dsimp only [Pt.U, Pt.locs, Pt.cells, Pt.slots] at X14 lq14 yq14 zq14 st14 hQ14
      subst lq14 yq14 zq14
      obtain ⟨rfl, Nq14, eq14⟩ := hQ14
      have N14 := Fr.app N0 Nq14
      refine own_go (st' := T14.setTop (mkF m 47 #[oR a1, oR a2, oR a2] [(.int (1 : Int32))])) (fun t k => st14 t k) ?_
      have hc15 : ¬ ((1 : Int32) = (0 : Int32)) := by decide
      refine own_go (st' := T14.setTop (mkF m 50 #[oR a1, oR a2, oR a2] [])) (fun _ k => XS.ifNo X14.here hx rfl (hb hby d9_47) rfl ((if0 _ _).trans (feq hc15).1) k) ?_
      refine own_go (st' := T14.setTop (mkF m 51 #[oR a1, oR a2, oR a2] [(.int (1 : Int32))])) (fun _ k => XS.iconst X14.here hx rfl (hb hby d9_50) k) ?_
      refine own_go (st' := T14.setTop (mkF m 55 #[oR a1, oR a2, oR a2] [(.int (1 : Int32))])) (fun _ k => XS.goto X14.here hx rfl (pc0 := 51) (pc' := 55) rfl (hb hby d9_51) (by decide) (by decide) k) ?_
      obtain ⟨fs, hr, hrun, hended, hW, hsame⟩ := X14.leave (v := some (.int (1 : Int32))) (fun h => by rw [Bd.returns] at h; cases h)
      refine ⟨_, _, ?_, hP _ _ hrun hended ⟨_, _, rfl, ?_, ⟨_, rfl⟩, hW, hsame.mono (by decide) (by decide)⟩⟩
      · exact retN X14 hx (t := .boolean) Bd.returns (by simp) (hb hby d9_55) hr
      · show Qrse_gen Z a1 a2 zc ax ka zn vs ay kb zm vt h0 n0 _ T14.heap _
        rw [eq14]
        exact ⟨(by rw [hvn, hvm]; simp [own_veq]), N14, rfl⟩
    · --
      have v17 : Arv Z h0 ay kb .byte (1 : Int32) [(.int z0)] (.int (0 : Int32)) := by have q_ := pr10; rw [hnm, hvm] at q_; exact q_
      refine own_go (st' := T8.setTop (mkF m 37 #[oR a1, oR a2, oR a2] [(.ref a1)])) (fun _ k => XS.aloadN X8.here hx rfl (hb hby d9_36) rfl rfl k) ?_
      obtain ⟨T18, X18, e18, st18⟩ := getF X8 hx hZ hown (host := "") (Or.inl (own_hw hw 28)) Via.refl e8 pr4 (g := (mkF m 37 #[oR a1, oR a2, oR a2] [(.ref a1)])) rfl rfl (hb hby d9_37)
      refine own_go (st' := T18.setTop (mkF m 40 #[oR a1, oR a2, oR a2] [(.ref ax)])) (st18) ?_
      refine own_go (st' := T18.setTop (mkF m 41 #[oR a1, oR a2, oR a2] [(.ref a2), (.ref ax)])) (fun _ k => XS.aloadN X18.here hx rfl (hb hby d9_40) rfl rfl k) ?_
      obtain ⟨T19, X19, e19, st19⟩ := getF X18 hx hZ hown (host := "") (Or.inl (own_hw hw 28)) Via.refl e18 pr7 (g := (mkF m 41 #[oR a1, oR a2, oR a2] [(.ref a2), (.ref ax)])) rfl rfl (hb hby d9_41)
      refine own_go (st' := T19.setTop (mkF m 44 #[oR a1, oR a2, oR a2] [(.ref ay), (.ref ax)])) (st19) ?_
      obtain ⟨_, _, ⟨T20, LC20, kC20, nC20⟩, -, X20, ⟨Lc20, hQ20, lq20, yq20, zq20⟩, st20⟩ := Jvm.LawKit.callS X19 hx (y := oM0) hown (mvT hZ (own_hw hw 61)) (mvT hZ (own_hw hw 62)) (mvT hZ (own_hw hw 63)) (mvT hZ (own_hw hw 64)) (by decide) (backOf (W := 0) (rle_01 l Z a0 hw [] ax ka ay kb z0 h0 n0 (by omega) v10 v17) hZ (own_hw hw 64) (own_hw hw 63) (by decide) (by decide)) (g := (mkF m 44 #[oR a1, oR a2, oR a2] [(.ref ay), (.ref ax)])) rfl (by rw [hml]; rfl) (argsL := [(.ref ax), (.ref ay)]) (rest := []) (lenOf pd_6 rfl) rfl (by show 2 * 0 + _ ≤ _; exact Nat.le_of_eq rfl) (hb hby d9_44) (fun _ _ => ⟨rfl, e19, (by decide : 0 + 0 ≤ _), (by decide : 0 + 0 ≤ _)⟩)
      dsimp only [Pt.U, Pt.locs, Pt.cells, Pt.slots] at X20 lq20 yq20 zq20 st20 hQ20
      subst lq20 yq20 zq20
      obtain ⟨rfl, Nq20, eq20⟩ := hQ20
      have N20 := Fr.app N0 Nq20
      refine own_go (st' := T20.setTop (mkF m 47 #[oR a1, oR a2, oR a2] [(.int (0 : Int32))])) (fun t k => st20 t k) ?_
      have hc21 : (0 : Int32) = (0 : Int32) := by decide
      refine own_go (st' := T20.setTop (mkF m 54 #[oR a1, oR a2, oR a2] [])) (fun _ k => XS.ifYes X20.here hx rfl (pc0 := 47) (pc' := 54) rfl (hb hby d9_47) rfl ((if0 _ _).trans (teq hc21).1) (by decide) (by decide) k) ?_
      refine own_go (st' := T20.setTop (mkF m 55 #[oR a1, oR a2, oR a2] [(.int (0 : Int32))])) (fun _ k => XS.iconst X20.here hx rfl (hb hby d9_54) k) ?_
      obtain ⟨fs, hr, hrun, hended, hW, hsame⟩ := X20.leave (v := some (.int (0 : Int32))) (fun h => by rw [Bd.returns] at h; cases h)
      refine ⟨_, _, ?_, hP _ _ hrun hended ⟨_, _, rfl, ?_, ⟨_, rfl⟩, hW, hsame.mono (by decide) (by decide)⟩⟩
      · exact retN X20 hx (t := .boolean) Bd.returns (by simp) (hb hby d9_55) hr
      · show Qrse_gen Z a1 a2 zc ax ka zn vs ay kb zm vt h0 n0 _ T20.heap _
        rw [eq20]
        exact ⟨(by rw [hvn, hvm]; simp [own_veq]), N20, rfl⟩
    · --
      have v23 : Arv Z h0 ay kb .byte (2 : Int32) [(.int z0), (.int z1)] (.int (0 : Int32)) := by have q_ := pr10; rw [hnm, hvm] at q_; exact q_
      refine own_go (st' := T8.setTop (mkF m 37 #[oR a1, oR a2, oR a2] [(.ref a1)])) (fun _ k => XS.aloadN X8.here hx rfl (hb hby d9_36) rfl rfl k) ?_
      obtain ⟨T24, X24, e24, st24⟩ := getF X8 hx hZ hown (host := "") (Or.inl (own_hw hw 28)) Via.refl e8 pr4 (g := (mkF m 37 #[oR a1, oR a2, oR a2] [(.ref a1)])) rfl rfl (hb hby d9_37)
      refine own_go (st' := T24.setTop (mkF m 40 #[oR a1, oR a2, oR a2] [(.ref ax)])) (st24) ?_
      refine own_go (st' := T24.setTop (mkF m 41 #[oR a1, oR a2, oR a2] [(.ref a2), (.ref ax)])) (fun _ k => XS.aloadN X24.here hx rfl (hb hby d9_40) rfl rfl k) ?_
      obtain ⟨T25, X25, e25, st25⟩ := getF X24 hx hZ hown (host := "") (Or.inl (own_hw hw 28)) Via.refl e24 pr7 (g := (mkF m 41 #[oR a1, oR a2, oR a2] [(.ref a2), (.ref ax)])) rfl rfl (hb hby d9_41)
      refine own_go (st' := T25.setTop (mkF m 44 #[oR a1, oR a2, oR a2] [(.ref ay), (.ref ax)])) (st25) ?_
      obtain ⟨_, _, ⟨T26, LC26, kC26, nC26⟩, -, X26, ⟨Lc26, hQ26, lq26, yq26, zq26⟩, st26⟩ := Jvm.LawKit.callS X25 hx (y := oM0) hown (mvT hZ (own_hw hw 61)) (mvT hZ (own_hw hw 62)) (mvT hZ (own_hw hw 63)) (mvT hZ (own_hw hw 64)) (by decide) (backOf (W := 0) (rle_02 l Z a0 hw [] ax ka ay kb z0 z1 h0 n0 (by omega) v10 v23) hZ (own_hw hw 64) (own_hw hw 63) (by decide) (by decide)) (g := (mkF m 44 #[oR a1, oR a2, oR a2] [(.ref ay), (.ref ax)])) rfl (by rw [hml]; rfl) (argsL := [(.ref ax), (.ref ay)]) (rest := []) (lenOf pd_6 rfl) rfl (by show 2 * 0 + _ ≤ _; exact Nat.le_of_eq rfl) (hb hby d9_44) (fun _ _ => ⟨rfl, e25, (by decide : 0 + 0 ≤ _), (by decide : 0 + 0 ≤ _)⟩)
      dsimp only [Pt.U, Pt.locs, Pt.cells, Pt.slots] at X26 lq26 yq26 zq26 st26 hQ26
      subst lq26 yq26 zq26
      obtain ⟨rfl, Nq26, eq26⟩ := hQ26
      have N26 := Fr.app N0 Nq26
      refine own_go (st' := T26.setTop (mkF m 47 #[oR a1, oR a2, oR a2] [(.int (0 : Int32))])) (fun t k => st26 t k) ?_
      have hc27 : (0 : Int32) = (0 : Int32) := by decide
      refine own_go (st' := T26.setTop (mkF m 54 #[oR a1, oR a2, oR a2] [])) (fun _ k => XS.ifYes X26.here hx rfl (pc0 := 47) (pc' := 54) rfl (hb hby d9_47) rfl ((if0 _ _).trans (teq hc27).1) (by decide) (by decide) k) ?_
      refine own_go (st' := T26.setTop (mkF m 55 #[oR a1, oR a2, oR a2] [(.int (0 : Int32))])) (fun _ k => XS.iconst X26.here hx rfl (hb hby d9_54) k) ?_
      obtain ⟨fs, hr, hrun, hended, hW, hsame⟩ := X26.leave (v := some (.int (0 : Int32))) (fun h => by rw [Bd.returns] at h; cases h)
      refine ⟨_, _, ?_, hP _ _ hrun hended ⟨_, _, rfl, ?_, ⟨_, rfl⟩, hW, hsame.mono (by decide) (by decide)⟩⟩
      · exact retN X26 hx (t := .boolean) Bd.returns (by simp) (hb hby d9_55) hr
      · show Qrse_gen Z a1 a2 zc ax ka zn vs ay kb zm vt h0 n0 _ T26.heap _
        rw [eq26]
        exact ⟨(by rw [hvn, hvm]; simp [own_veq]), N26, rfl⟩
  · --
    have v29 : Arv Z h0 ax ka .byte (1 : Int32) [(.int w0)] (.int (0 : Int32)) := by have q_ := pr9; rw [hnn, hvn] at q_; exact q_
    rcases hsh2 with ⟨hnm, hvm⟩ | ⟨z0, hnm, hvm⟩ | ⟨z0, z1, hnm, hvm⟩
    · --
      have v30 : Arv Z h0 ay kb .byte (0 : Int32) [] (.int (0 : Int32)) := by have q_ := pr10; rw [hnm, hvm] at q_; exact q_
      refine own_go (st' := T8.setTop (mkF m 37 #[oR a1, oR a2, oR a2] [(.ref a1)])) (fun _ k => XS.aloadN X8.here hx rfl (hb hby d9_36) rfl rfl k) ?_
      obtain ⟨T31, X31, e31, st31⟩ := getF X8 hx hZ hown (host := "") (Or.inl (own_hw hw 28)) Via.refl e8 pr4 (g := (mkF m 37 #[oR a1, oR a2, oR a2] [(.ref a1)])) rfl rfl (hb hby d9_37)
      refine own_go (st' := T31.setTop (mkF m 40 #[oR a1, oR a2, oR a2] [(.ref ax)])) (st31) ?_
      refine own_go (st' := T31.setTop (mkF m 41 #[oR a1, oR a2, oR a2] [(.ref a2), (.ref ax)])) (fun _ k => XS.aloadN X31.here hx rfl (hb hby d9_40) rfl rfl k) ?_
      obtain ⟨T32, X32, e32, st32⟩ := getF X31 hx hZ hown (host := "") (Or.inl (own_hw hw 28)) Via.refl e31 pr7 (g := (mkF m 41 #[oR a1, oR a2, oR a2] [(.ref a2), (.ref ax)])) rfl rfl (hb hby d9_41)
      refine own_go (st' := T32.setTop (mkF m 44 #[oR a1, oR a2, oR a2] [(.ref ay), (.ref ax)])) (st32) ?_
      obtain ⟨_, _, ⟨T33, LC33, kC33, nC33⟩, -, X33, ⟨Lc33, hQ33, lq33, yq33, zq33⟩, st33⟩ := Jvm.LawKit.callS X32 hx (y := oM0) hown (mvT hZ (own_hw hw 61)) (mvT hZ (own_hw hw 62)) (mvT hZ (own_hw hw 63)) (mvT hZ (own_hw hw 64)) (by decide) (backOf (W := 0) (rle_10 l Z a0 hw [] ax ka ay kb w0 h0 n0 (by omega) v29 v30) hZ (own_hw hw 64) (own_hw hw 63) (by decide) (by decide)) (g := (mkF m 44 #[oR a1, oR a2, oR a2] [(.ref ay), (.ref ax)])) rfl (by rw [hml]; rfl) (argsL := [(.ref ax), (.ref ay)]) (rest := []) (lenOf pd_6 rfl) rfl (by show 2 * 0 + _ ≤ _; exact Nat.le_of_eq rfl) (hb hby d9_44) (fun _ _ => ⟨rfl, e32, (by decide : 0 + 0 ≤ _), (by decide : 0 + 0 ≤ _)⟩)
      dsimp only [Pt.U, Pt.locs, Pt.cells, Pt.slots] at X33 lq33 yq33 zq33 st33 hQ33
      subst lq33 yq33 zq33
      obtain ⟨rfl, Nq33, eq33⟩ := hQ33
      have N33 := Fr.app N0 Nq33
      refine own_go (st' := T33.setTop (mkF m 47 #[oR a1, oR a2, oR a2] [(.int (0 : Int32))])) (fun t k => st33 t k) ?_
      have hc34 : (0 : Int32) = (0 : Int32) := by decide
      refine own_go (st' := T33.setTop (mkF m 54 #[oR a1, oR a2, oR a2] [])) (fun _ k => XS.ifYes X33.here hx rfl (pc0 := 47) (pc' := 54) rfl (hb hby d9_47) rfl ((if0 _ _).trans (teq hc34).1) (by decide) (by decide) k) ?_
      refine own_go (st' := T33.setTop (mkF m 55 #[oR a1, oR a2, oR a2] [(.int (0 : Int32))])) (fun _ k => XS.iconst X33.here hx rfl (hb hby d9_54) k) ?_
      obtain ⟨fs, hr, hrun, hended, hW, hsame⟩ := X33.leave (v := some (.int (0 : Int32))) (fun h => by rw [Bd.returns] at h; cases h)
      refine ⟨_, _, ?_, hP _ _ hrun hended ⟨_, _, rfl, ?_, ⟨_, rfl⟩, hW, hsame.mono (by decide) (by decide)⟩⟩
      · exact retN X33 hx (t := .boolean) Bd.returns (by simp) (hb hby d9_55) hr
      · show Qrse_gen Z a1 a2 zc ax ka zn vs ay kb zm vt h0 n0 _ T33.heap _
        rw [eq33]
        exact ⟨(by rw [hvn, hvm]; simp [own_veq]), N33, rfl⟩
    · --
      have v36 : Arv Z h0 ay kb .byte (1 : Int32) [(.int z0)] (.int (0 : Int32)) := by have q_ := pr10; rw [hnm, hvm] at q_; exact q_
      refine own_go (st' := T8.setTop (mkF m 37 #[oR a1, oR a2, oR a2] [(.ref a1)])) (fun _ k => XS.aloadN X8.here hx rfl (hb hby d9_36) rfl rfl k) ?_
      obtain ⟨T37, X37, e37, st37⟩ := getF X8 hx hZ hown (host := "") (Or.inl (own_hw hw 28)) Via.refl e8 pr4 (g := (mkF m 37 #[oR a1, oR a2, oR a2] [(.ref a1)])) rfl rfl (hb hby d9_37)
      refine own_go (st' := T37.setTop (mkF m 40 #[oR a1, oR a2, oR a2] [(.ref ax)])) (st37) ?_
      refine own_go (st' := T37.setTop (mkF m 41 #[oR a1, oR a2, oR a2] [(.ref a2), (.ref ax)])) (fun _ k => XS.aloadN X37.here hx rfl (hb hby d9_40) rfl rfl k) ?_
      obtain ⟨T38, X38, e38, st38⟩ := getF X37 hx hZ hown (host := "") (Or.inl (own_hw hw 28)) Via.refl e37 pr7 (g := (mkF m 41 #[oR a1, oR a2, oR a2] [(.ref a2), (.ref ax)])) rfl rfl (hb hby d9_41)
      refine own_go (st' := T38.setTop (mkF m 44 #[oR a1, oR a2, oR a2] [(.ref ay), (.ref ax)])) (st38) ?_
      obtain ⟨_, _, ⟨T39, LC39, kC39, nC39⟩, -, X39, ⟨Lc39, hQ39, lq39, yq39, zq39⟩, st39⟩ := Jvm.LawKit.callS X38 hx (y := oM0) hown (mvT hZ (own_hw hw 61)) (mvT hZ (own_hw hw 62)) (mvT hZ (own_hw hw 63)) (mvT hZ (own_hw hw 64)) (by decide) (backOf (W := 0) (rle_11 l Z a0 hw [] ax ka ay kb w0 z0 h0 n0 (by omega) v29 v36) hZ (own_hw hw 64) (own_hw hw 63) (by decide) (by decide)) (g := (mkF m 44 #[oR a1, oR a2, oR a2] [(.ref ay), (.ref ax)])) rfl (by rw [hml]; rfl) (argsL := [(.ref ax), (.ref ay)]) (rest := []) (lenOf pd_6 rfl) rfl (by show 2 * 0 + _ ≤ _; exact Nat.le_of_eq rfl) (hb hby d9_44) (fun _ _ => ⟨rfl, e38, (by decide : 0 + 0 ≤ _), (by decide : 0 + 0 ≤ _)⟩)
      dsimp only [Pt.U, Pt.locs, Pt.cells, Pt.slots] at X39 lq39 yq39 zq39 st39 hQ39
      subst lq39 yq39 zq39
      obtain ⟨rfl, Nq39, eq39⟩ := hQ39
      have N39 := Fr.app N0 Nq39
      refine own_go (st' := T39.setTop (mkF m 47 #[oR a1, oR a2, oR a2] [(.int (own_eq1 w0 z0))])) (fun t k => st39 t k) ?_
      by_cases hc40 : (own_eq1 w0 z0) = (0 : Int32)
      · --
        refine own_go (st' := T39.setTop (mkF m 54 #[oR a1, oR a2, oR a2] [])) (fun _ k => XS.ifYes X39.here hx rfl (pc0 := 47) (pc' := 54) rfl (hb hby d9_47) rfl ((if0 _ _).trans (teq hc40).1) (by decide) (by decide) k) ?_
        refine own_go (st' := T39.setTop (mkF m 55 #[oR a1, oR a2, oR a2] [(.int (0 : Int32))])) (fun _ k => XS.iconst X39.here hx rfl (hb hby d9_54) k) ?_
        obtain ⟨fs, hr, hrun, hended, hW, hsame⟩ := X39.leave (v := some (.int (0 : Int32))) (fun h => by rw [Bd.returns] at h; cases h)
        refine ⟨_, _, ?_, hP _ _ hrun hended ⟨_, _, rfl, ?_, ⟨_, rfl⟩, hW, hsame.mono (by decide) (by decide)⟩⟩
        · exact retN X39 hx (t := .boolean) Bd.returns (by simp) (hb hby d9_55) hr
        · show Qrse_gen Z a1 a2 zc ax ka zn vs ay kb zm vt h0 n0 _ T39.heap _
          rw [eq39]
          exact ⟨(by rw [hvn, hvm]; have q_ := hc40; unfold own_eq1 at q_; unfold own_veq; by_cases e0 : w0 = z0 <;> simp_all), N39, rfl⟩
      · --
        refine own_go (st' := T39.setTop (mkF m 50 #[oR a1, oR a2, oR a2] [])) (fun _ k => XS.ifNo X39.here hx rfl (hb hby d9_47) rfl ((if0 _ _).trans (feq hc40).1) k) ?_
        refine own_go (st' := T39.setTop (mkF m 51 #[oR a1, oR a2, oR a2] [(.int (1 : Int32))])) (fun _ k => XS.iconst X39.here hx rfl (hb hby d9_50) k) ?_
        refine own_go (st' := T39.setTop (mkF m 55 #[oR a1, oR a2, oR a2] [(.int (1 : Int32))])) (fun _ k => XS.goto X39.here hx rfl (pc0 := 51) (pc' := 55) rfl (hb hby d9_51) (by decide) (by decide) k) ?_
        obtain ⟨fs, hr, hrun, hended, hW, hsame⟩ := X39.leave (v := some (.int (1 : Int32))) (fun h => by rw [Bd.returns] at h; cases h)
        refine ⟨_, _, ?_, hP _ _ hrun hended ⟨_, _, rfl, ?_, ⟨_, rfl⟩, hW, hsame.mono (by decide) (by decide)⟩⟩
        · exact retN X39 hx (t := .boolean) Bd.returns (by simp) (hb hby d9_55) hr
        · show Qrse_gen Z a1 a2 zc ax ka zn vs ay kb zm vt h0 n0 _ T39.heap _
          rw [eq39]
          exact ⟨(by rw [hvn, hvm]; have q_ := hc40; unfold own_eq1 at q_; unfold own_veq; by_cases e0 : w0 = z0 <;> simp_all), N39, rfl⟩
    · --
      have v43 : Arv Z h0 ay kb .byte (2 : Int32) [(.int z0), (.int z1)] (.int (0 : Int32)) := by have q_ := pr10; rw [hnm, hvm] at q_; exact q_
      refine own_go (st' := T8.setTop (mkF m 37 #[oR a1, oR a2, oR a2] [(.ref a1)])) (fun _ k => XS.aloadN X8.here hx rfl (hb hby d9_36) rfl rfl k) ?_
      obtain ⟨T44, X44, e44, st44⟩ := getF X8 hx hZ hown (host := "") (Or.inl (own_hw hw 28)) Via.refl e8 pr4 (g := (mkF m 37 #[oR a1, oR a2, oR a2] [(.ref a1)])) rfl rfl (hb hby d9_37)
      refine own_go (st' := T44.setTop (mkF m 40 #[oR a1, oR a2, oR a2] [(.ref ax)])) (st44) ?_
      refine own_go (st' := T44.setTop (mkF m 41 #[oR a1, oR a2, oR a2] [(.ref a2), (.ref ax)])) (fun _ k => XS.aloadN X44.here hx rfl (hb hby d9_40) rfl rfl k) ?_
      obtain ⟨T45, X45, e45, st45⟩ := getF X44 hx hZ hown (host := "") (Or.inl (own_hw hw 28)) Via.refl e44 pr7 (g := (mkF m 41 #[oR a1, oR a2, oR a2] [(.ref a2), (.ref ax)])) rfl rfl (hb hby d9_41)
      refine own_go (st' := T45.setTop (mkF m 44 #[oR a1, oR a2, oR a2] [(.ref ay), (.ref ax)])) (st45) ?_
      obtain ⟨_, _, ⟨T46, LC46, kC46, nC46⟩, -, X46, ⟨Lc46, hQ46, lq46, yq46, zq46⟩, st46⟩ := Jvm.LawKit.callS X45 hx (y := oM0) hown (mvT hZ (own_hw hw 61)) (mvT hZ (own_hw hw 62)) (mvT hZ (own_hw hw 63)) (mvT hZ (own_hw hw 64)) (by decide) (backOf (W := 0) (rle_12 l Z a0 hw [] ax ka ay kb w0 z0 z1 h0 n0 (by omega) v29 v43) hZ (own_hw hw 64) (own_hw hw 63) (by decide) (by decide)) (g := (mkF m 44 #[oR a1, oR a2, oR a2] [(.ref ay), (.ref ax)])) rfl (by rw [hml]; rfl) (argsL := [(.ref ax), (.ref ay)]) (rest := []) (lenOf pd_6 rfl) rfl (by show 2 * 0 + _ ≤ _; exact Nat.le_of_eq rfl) (hb hby d9_44) (fun _ _ => ⟨rfl, e45, (by decide : 0 + 0 ≤ _), (by decide : 0 + 0 ≤ _)⟩)
      dsimp only [Pt.U, Pt.locs, Pt.cells, Pt.slots] at X46 lq46 yq46 zq46 st46 hQ46
      subst lq46 yq46 zq46
      obtain ⟨rfl, Nq46, eq46⟩ := hQ46
      have N46 := Fr.app N0 Nq46
      refine own_go (st' := T46.setTop (mkF m 47 #[oR a1, oR a2, oR a2] [(.int (0 : Int32))])) (fun t k => st46 t k) ?_
      have hc47 : (0 : Int32) = (0 : Int32) := by decide
      refine own_go (st' := T46.setTop (mkF m 54 #[oR a1, oR a2, oR a2] [])) (fun _ k => XS.ifYes X46.here hx rfl (pc0 := 47) (pc' := 54) rfl (hb hby d9_47) rfl ((if0 _ _).trans (teq hc47).1) (by decide) (by decide) k) ?_
      refine own_go (st' := T46.setTop (mkF m 55 #[oR a1, oR a2, oR a2] [(.int (0 : Int32))])) (fun _ k => XS.iconst X46.here hx rfl (hb hby d9_54) k) ?_
      obtain ⟨fs, hr, hrun, hended, hW, hsame⟩ := X46.leave (v := some (.int (0 : Int32))) (fun h => by rw [Bd.returns] at h; cases h)
      refine ⟨_, _, ?_, hP _ _ hrun hended ⟨_, _, rfl, ?_, ⟨_, rfl⟩, hW, hsame.mono (by decide) (by decide)⟩⟩
      · exact retN X46 hx (t := .boolean) Bd.returns (by simp) (hb hby d9_55) hr
      · show Qrse_gen Z a1 a2 zc ax ka zn vs ay kb zm vt h0 n0 _ T46.heap _
        rw [eq46]
        exact ⟨(by rw [hvn, hvm]; simp [own_veq]), N46, rfl⟩
  · --
    have v49 : Arv Z h0 ax ka .byte (2 : Int32) [(.int w0), (.int w1)] (.int (0 : Int32)) := by have q_ := pr9; rw [hnn, hvn] at q_; exact q_
    rcases hsh2 with ⟨hnm, hvm⟩ | ⟨z0, hnm, hvm⟩ | ⟨z0, z1, hnm, hvm⟩
    · --
      have v50 : Arv Z h0 ay kb .byte (0 : Int32) [] (.int (0 : Int32)) := by have q_ := pr10; rw [hnm, hvm] at q_; exact q_
      refine own_go (st' := T8.setTop (mkF m 37 #[oR a1, oR a2, oR a2] [(.ref a1)])) (fun _ k => XS.aloadN X8.here hx rfl (hb hby d9_36) rfl rfl k) ?_
      obtain ⟨T51, X51, e51, st51⟩ := getF X8 hx hZ hown (host := "") (Or.inl (own_hw hw 28)) Via.refl e8 pr4 (g := (mkF m 37 #[oR a1, oR a2, oR a2] [(.ref a1)])) rfl rfl (hb hby d9_37)
      refine own_go (st' := T51.setTop (mkF m 40 #[oR a1, oR a2, oR a2] [(.ref ax)])) (st51) ?_
      refine own_go (st' := T51.setTop (mkF m 41 #[oR a1, oR a2, oR a2] [(.ref a2), (.ref ax)])) (fun _ k => XS.aloadN X51.here hx rfl (hb hby d9_40) rfl rfl k) ?_
      obtain ⟨T52, X52, e52, st52⟩ := getF X51 hx hZ hown (host := "") (Or.inl (own_hw hw 28)) Via.refl e51 pr7 (g := (mkF m 41 #[oR a1, oR a2, oR a2] [(.ref a2), (.ref ax)])) rfl rfl (hb hby d9_41)
      refine own_go (st' := T52.setTop (mkF m 44 #[oR a1, oR a2, oR a2] [(.ref ay), (.ref ax)])) (st52) ?_
      obtain ⟨_, _, ⟨T53, LC53, kC53, nC53⟩, -, X53, ⟨Lc53, hQ53, lq53, yq53, zq53⟩, st53⟩ := Jvm.LawKit.callS X52 hx (y := oM0) hown (mvT hZ (own_hw hw 61)) (mvT hZ (own_hw hw 62)) (mvT hZ (own_hw hw 63)) (mvT hZ (own_hw hw 64)) (by decide) (backOf (W := 0) (rle_20 l Z a0 hw [] ax ka ay kb w0 w1 h0 n0 (by omega) v49 v50) hZ (own_hw hw 64) (own_hw hw 63) (by decide) (by decide)) (g := (mkF m 44 #[oR a1, oR a2, oR a2] [(.ref ay), (.ref ax)])) rfl (by rw [hml]; rfl) (argsL := [(.ref ax), (.ref ay)]) (rest := []) (lenOf pd_6 rfl) rfl (by show 2 * 0 + _ ≤ _; exact Nat.le_of_eq rfl) (hb hby d9_44) (fun _ _ => ⟨rfl, e52, (by decide : 0 + 0 ≤ _), (by decide : 0 + 0 ≤ _)⟩)
      dsimp only [Pt.U, Pt.locs, Pt.cells, Pt.slots] at X53 lq53 yq53 zq53 st53 hQ53
      subst lq53 yq53 zq53
      obtain ⟨rfl, Nq53, eq53⟩ := hQ53
      have N53 := Fr.app N0 Nq53
      refine own_go (st' := T53.setTop (mkF m 47 #[oR a1, oR a2, oR a2] [(.int (0 : Int32))])) (fun t k => st53 t k) ?_
      have hc54 : (0 : Int32) = (0 : Int32) := by decide
      refine own_go (st' := T53.setTop (mkF m 54 #[oR a1, oR a2, oR a2] [])) (fun _ k => XS.ifYes X53.here hx rfl (pc0 := 47) (pc' := 54) rfl (hb hby d9_47) rfl ((if0 _ _).trans (teq hc54).1) (by decide) (by decide) k) ?_
      refine own_go (st' := T53.setTop (mkF m 55 #[oR a1, oR a2, oR a2] [(.int (0 : Int32))])) (fun _ k => XS.iconst X53.here hx rfl (hb hby d9_54) k) ?_
      obtain ⟨fs, hr, hrun, hended, hW, hsame⟩ := X53.leave (v := some (.int (0 : Int32))) (fun h => by rw [Bd.returns] at h; cases h)
      refine ⟨_, _, ?_, hP _ _ hrun hended ⟨_, _, rfl, ?_, ⟨_, rfl⟩, hW, hsame.mono (by decide) (by decide)⟩⟩
      · exact retN X53 hx (t := .boolean) Bd.returns (by simp) (hb hby d9_55) hr
      · show Qrse_gen Z a1 a2 zc ax ka zn vs ay kb zm vt h0 n0 _ T53.heap _
        rw [eq53]
        exact ⟨(by rw [hvn, hvm]; simp [own_veq]), N53, rfl⟩
    · --
      have v56 : Arv Z h0 ay kb .byte (1 : Int32) [(.int z0)] (.int (0 : Int32)) := by have q_ := pr10; rw [hnm, hvm] at q_; exact q_
      refine own_go (st' := T8.setTop (mkF m 37 #[oR a1, oR a2, oR a2] [(.ref a1)])) (fun _ k => XS.aloadN X8.here hx rfl (hb hby d9_36) rfl rfl k) ?_
      obtain ⟨T57, X57, e57, st57⟩ := getF X8 hx hZ hown (host := "") (Or.inl (own_hw hw 28)) Via.refl e8 pr4 (g := (mkF m 37 #[oR a1, oR a2, oR a2] [(.ref a1)])) rfl rfl (hb hby d9_37)
      refine own_go (st' := T57.setTop (mkF m 40 #[oR a1, oR a2, oR a2] [(.ref ax)])) (st57) ?_
      refine own_go (st' := T57.setTop (mkF m 41 #[oR a1, oR a2, oR a2] [(.ref a2), (.ref ax)])) (fun _ k => XS.aloadN X57.here hx rfl (hb hby d9_40) rfl rfl k) ?_
      obtain ⟨T58, X58, e58, st58⟩ := getF X57 hx hZ hown (host := "") (Or.inl (own_hw hw 28)) Via.refl e57 pr7 (g := (mkF m 41 #[oR a1, oR a2, oR a2] [(.ref a2), (.ref ax)])) rfl rfl (hb hby d9_41)
      refine own_go (st' := T58.setTop (mkF m 44 #[oR a1, oR a2, oR a2] [(.ref ay), (.ref ax)])) (st58) ?_
      obtain ⟨_, _, ⟨T59, LC59, kC59, nC59⟩, -, X59, ⟨Lc59, hQ59, lq59, yq59, zq59⟩, st59⟩ := Jvm.LawKit.callS X58 hx (y := oM0) hown (mvT hZ (own_hw hw 61)) (mvT hZ (own_hw hw 62)) (mvT hZ (own_hw hw 63)) (mvT hZ (own_hw hw 64)) (by decide) (backOf (W := 0) (rle_21 l Z a0 hw [] ax ka ay kb w0 w1 z0 h0 n0 (by omega) v49 v56) hZ (own_hw hw 64) (own_hw hw 63) (by decide) (by decide)) (g := (mkF m 44 #[oR a1, oR a2, oR a2] [(.ref ay), (.ref ax)])) rfl (by rw [hml]; rfl) (argsL := [(.ref ax), (.ref ay)]) (rest := []) (lenOf pd_6 rfl) rfl (by show 2 * 0 + _ ≤ _; exact Nat.le_of_eq rfl) (hb hby d9_44) (fun _ _ => ⟨rfl, e58, (by decide : 0 + 0 ≤ _), (by decide : 0 + 0 ≤ _)⟩)
      dsimp only [Pt.U, Pt.locs, Pt.cells, Pt.slots] at X59 lq59 yq59 zq59 st59 hQ59
      subst lq59 yq59 zq59
      obtain ⟨rfl, Nq59, eq59⟩ := hQ59
      have N59 := Fr.app N0 Nq59
      refine own_go (st' := T59.setTop (mkF m 47 #[oR a1, oR a2, oR a2] [(.int (0 : Int32))])) (fun t k => st59 t k) ?_
      have hc60 : (0 : Int32) = (0 : Int32) := by decide
      refine own_go (st' := T59.setTop (mkF m 54 #[oR a1, oR a2, oR a2] [])) (fun _ k => XS.ifYes X59.here hx rfl (pc0 := 47) (pc' := 54) rfl (hb hby d9_47) rfl ((if0 _ _).trans (teq hc60).1) (by decide) (by decide) k) ?_
      refine own_go (st' := T59.setTop (mkF m 55 #[oR a1, oR a2, oR a2] [(.int (0 : Int32))])) (fun _ k => XS.iconst X59.here hx rfl (hb hby d9_54) k) ?_
      obtain ⟨fs, hr, hrun, hended, hW, hsame⟩ := X59.leave (v := some (.int (0 : Int32))) (fun h => by rw [Bd.returns] at h; cases h)
      refine ⟨_, _, ?_, hP _ _ hrun hended ⟨_, _, rfl, ?_, ⟨_, rfl⟩, hW, hsame.mono (by decide) (by decide)⟩⟩
      · exact retN X59 hx (t := .boolean) Bd.returns (by simp) (hb hby d9_55) hr
      · show Qrse_gen Z a1 a2 zc ax ka zn vs ay kb zm vt h0 n0 _ T59.heap _
        rw [eq59]
        exact ⟨(by rw [hvn, hvm]; simp [own_veq]), N59, rfl⟩
    · --
      have v62 : Arv Z h0 ay kb .byte (2 : Int32) [(.int z0), (.int z1)] (.int (0 : Int32)) := by have q_ := pr10; rw [hnm, hvm] at q_; exact q_
      refine own_go (st' := T8.setTop (mkF m 37 #[oR a1, oR a2, oR a2] [(.ref a1)])) (fun _ k => XS.aloadN X8.here hx rfl (hb hby d9_36) rfl rfl k) ?_
      obtain ⟨T63, X63, e63, st63⟩ := getF X8 hx hZ hown (host := "") (Or.inl (own_hw hw 28)) Via.refl e8 pr4 (g := (mkF m 37 #[oR a1, oR a2, oR a2] [(.ref a1)])) rfl rfl (hb hby d9_37)
      refine own_go (st' := T63.setTop (mkF m 40 #[oR a1, oR a2, oR a2] [(.ref ax)])) (st63) ?_
      refine own_go (st' := T63.setTop (mkF m 41 #[oR a1, oR a2, oR a2] [(.ref a2), (.ref ax)])) (fun _ k => XS.aloadN X63.here hx rfl (hb hby d9_40) rfl rfl k) ?_
      obtain ⟨T64, X64, e64, st64⟩ := getF X63 hx hZ hown (host := "") (Or.inl (own_hw hw 28)) Via.refl e63 pr7 (g := (mkF m 41 #[oR a1, oR a2, oR a2] [(.ref a2), (.ref ax)])) rfl rfl (hb hby d9_41)
      refine own_go (st' := T64.setTop (mkF m 44 #[oR a1, oR a2, oR a2] [(.ref ay), (.ref ax)])) (st64) ?_
      obtain ⟨_, _, ⟨T65, LC65, kC65, nC65⟩, -, X65, ⟨Lc65, hQ65, lq65, yq65, zq65⟩, st65⟩ := Jvm.LawKit.callS X64 hx (y := oM0) hown (mvT hZ (own_hw hw 61)) (mvT hZ (own_hw hw 62)) (mvT hZ (own_hw hw 63)) (mvT hZ (own_hw hw 64)) (by decide) (backOf (W := 0) (rle_22 l Z a0 hw [] ax ka ay kb w0 w1 z0 z1 h0 n0 (by omega) v49 v62) hZ (own_hw hw 64) (own_hw hw 63) (by decide) (by decide)) (g := (mkF m 44 #[oR a1, oR a2, oR a2] [(.ref ay), (.ref ax)])) rfl (by rw [hml]; rfl) (argsL := [(.ref ax), (.ref ay)]) (rest := []) (lenOf pd_6 rfl) rfl (by show 2 * 0 + _ ≤ _; exact Nat.le_of_eq rfl) (hb hby d9_44) (fun _ _ => ⟨rfl, e64, (by decide : 0 + 0 ≤ _), (by decide : 0 + 0 ≤ _)⟩)
      dsimp only [Pt.U, Pt.locs, Pt.cells, Pt.slots] at X65 lq65 yq65 zq65 st65 hQ65
      subst lq65 yq65 zq65
      obtain ⟨rfl, Nq65, eq65⟩ := hQ65
      have N65 := Fr.app N0 Nq65
      refine own_go (st' := T65.setTop (mkF m 47 #[oR a1, oR a2, oR a2] [(.int (own_eq2 w0 w1 z0 z1))])) (fun t k => st65 t k) ?_
      by_cases hc66 : (own_eq2 w0 w1 z0 z1) = (0 : Int32)
      · --
        refine own_go (st' := T65.setTop (mkF m 54 #[oR a1, oR a2, oR a2] [])) (fun _ k => XS.ifYes X65.here hx rfl (pc0 := 47) (pc' := 54) rfl (hb hby d9_47) rfl ((if0 _ _).trans (teq hc66).1) (by decide) (by decide) k) ?_
        refine own_go (st' := T65.setTop (mkF m 55 #[oR a1, oR a2, oR a2] [(.int (0 : Int32))])) (fun _ k => XS.iconst X65.here hx rfl (hb hby d9_54) k) ?_
        obtain ⟨fs, hr, hrun, hended, hW, hsame⟩ := X65.leave (v := some (.int (0 : Int32))) (fun h => by rw [Bd.returns] at h; cases h)
        refine ⟨_, _, ?_, hP _ _ hrun hended ⟨_, _, rfl, ?_, ⟨_, rfl⟩, hW, hsame.mono (by decide) (by decide)⟩⟩
        · exact retN X65 hx (t := .boolean) Bd.returns (by simp) (hb hby d9_55) hr
        · show Qrse_gen Z a1 a2 zc ax ka zn vs ay kb zm vt h0 n0 _ T65.heap _
          rw [eq65]
          exact ⟨(by rw [hvn, hvm]; have q_ := hc66; unfold own_eq2 at q_; unfold own_veq; by_cases e0 : w0 = z0 <;> by_cases e1 : w1 = z1 <;> simp_all), N65, rfl⟩
      · --
        refine own_go (st' := T65.setTop (mkF m 50 #[oR a1, oR a2, oR a2] [])) (fun _ k => XS.ifNo X65.here hx rfl (hb hby d9_47) rfl ((if0 _ _).trans (feq hc66).1) k) ?_
        refine own_go (st' := T65.setTop (mkF m 51 #[oR a1, oR a2, oR a2] [(.int (1 : Int32))])) (fun _ k => XS.iconst X65.here hx rfl (hb hby d9_50) k) ?_
        refine own_go (st' := T65.setTop (mkF m 55 #[oR a1, oR a2, oR a2] [(.int (1 : Int32))])) (fun _ k => XS.goto X65.here hx rfl (pc0 := 51) (pc' := 55) rfl (hb hby d9_51) (by decide) (by decide) k) ?_
        obtain ⟨fs, hr, hrun, hended, hW, hsame⟩ := X65.leave (v := some (.int (1 : Int32))) (fun h => by rw [Bd.returns] at h; cases h)
        refine ⟨_, _, ?_, hP _ _ hrun hended ⟨_, _, rfl, ?_, ⟨_, rfl⟩, hW, hsame.mono (by decide) (by decide)⟩⟩
        · exact retN X65 hx (t := .boolean) Bd.returns (by simp) (hb hby d9_55) hr
        · show Qrse_gen Z a1 a2 zc ax ka zn vs ay kb zm vt h0 n0 _ T65.heap _
          rw [eq65]
          exact ⟨(by rw [hvn, hvm]; have q_ := hc66; unfold own_eq2 at q_; unfold own_veq; by_cases e0 : w0 = z0 <;> by_cases e1 : w1 = z1 <;> simp_all), N65, rfl⟩
theorem pd_7 : parseMethodDescriptor "([C)V" = some ⟨[(.array .char)], none⟩ := by decide +kernel
theorem d1_0 : decode method_2_code 0 = .ok (.iload_n 0, 1) := by decide +kernel
theorem d1_1 : decode method_2_code 1 = .ok (.ifCond .ne 14, 3) := by decide +kernel
theorem d1_4 : decode method_2_code 4 = .ok (.new 7, 3) := by decide +kernel
theorem d1_7 : decode method_2_code 7 = .ok (.dup, 1) := by decide +kernel
theorem d1_8 : decode method_2_code 8 = .ok (.iconst 0, 1) := by decide +kernel
theorem d1_9 : decode method_2_code 9 = .ok (.newarray .char, 2) := by decide +kernel
theorem d1_11 : decode method_2_code 11 = .ok (.invokespecial 9, 3) := by decide +kernel
theorem d1_14 : decode method_2_code 14 = .ok (.areturn, 1) := by decide +kernel
theorem d1_15 : decode method_2_code 15 = .ok (.iload_n 0, 1) := by decide +kernel
theorem d1_16 : decode method_2_code 16 = .ok (.iconst 1, 1) := by decide +kernel
theorem d1_17 : decode method_2_code 17 = .ok (.if_icmp .ne 19, 3) := by decide +kernel
theorem d1_20 : decode method_2_code 20 = .ok (.new 7, 3) := by decide +kernel
theorem d1_23 : decode method_2_code 23 = .ok (.dup, 1) := by decide +kernel
theorem d1_24 : decode method_2_code 24 = .ok (.iconst 1, 1) := by decide +kernel
theorem d1_25 : decode method_2_code 25 = .ok (.newarray .char, 2) := by decide +kernel
theorem d1_27 : decode method_2_code 27 = .ok (.dup, 1) := by decide +kernel
theorem d1_28 : decode method_2_code 28 = .ok (.iconst 0, 1) := by decide +kernel
theorem d1_29 : decode method_2_code 29 = .ok (.iload_n 1, 1) := by decide +kernel
theorem d1_30 : decode method_2_code 30 = .ok (.i2c, 1) := by decide +kernel
theorem d1_31 : decode method_2_code 31 = .ok (.castore, 1) := by decide +kernel
theorem d1_32 : decode method_2_code 32 = .ok (.invokespecial 9, 3) := by decide +kernel
theorem d1_35 : decode method_2_code 35 = .ok (.areturn, 1) := by decide +kernel
theorem d1_36 : decode method_2_code 36 = .ok (.new 7, 3) := by decide +kernel
theorem d1_39 : decode method_2_code 39 = .ok (.dup, 1) := by decide +kernel
theorem d1_40 : decode method_2_code 40 = .ok (.iconst 2, 1) := by decide +kernel
theorem d1_41 : decode method_2_code 41 = .ok (.newarray .char, 2) := by decide +kernel
theorem d1_43 : decode method_2_code 43 = .ok (.dup, 1) := by decide +kernel
theorem d1_44 : decode method_2_code 44 = .ok (.iconst 0, 1) := by decide +kernel
theorem d1_45 : decode method_2_code 45 = .ok (.iload_n 1, 1) := by decide +kernel
theorem d1_46 : decode method_2_code 46 = .ok (.i2c, 1) := by decide +kernel
theorem d1_47 : decode method_2_code 47 = .ok (.castore, 1) := by decide +kernel
theorem d1_48 : decode method_2_code 48 = .ok (.dup, 1) := by decide +kernel
theorem d1_49 : decode method_2_code 49 = .ok (.iconst 1, 1) := by decide +kernel
theorem d1_50 : decode method_2_code 50 = .ok (.iload_n 2, 1) := by decide +kernel
theorem d1_51 : decode method_2_code 51 = .ok (.i2c, 1) := by decide +kernel
theorem d1_52 : decode method_2_code 52 = .ok (.castore, 1) := by decide +kernel
theorem d1_53 : decode method_2_code 53 = .ok (.invokespecial 9, 3) := by decide +kernel
theorem d1_56 : decode method_2_code 56 = .ok (.areturn, 1) := by decide +kernel
theorem pn_1 : plainName "com/example/limpet/limpet/OffsetAndMetadataEqualsPinLaw" = true := by first | (simp [plainName, overriddenIn]; done) | decide +kernel
theorem ef_rmk (m : MethodId) (x0 : Int32) (x1 : Int32) (x2 : Int32) : entryFrame m #[(.int x0), (.int x1), (.int x2)] 3 = mkF m 0 #[.val (.int x0), .val (.int x1), .val (.int x2)] [] := by first | (simp [entryFrame, mkF, argsToLocals, Value.category]; done) | rfl
def Qrmk (Z : State) (zn : Int32) (u0 : Int32) (u1 : Int32) (zc : Int32) (h0 : Heap) (n0 : Nat) (v : Option Value) (h : Heap) (L : List Loc) : Prop := ∃ (a1 : Addr) (r : Addr) (kr : ClassId), (v = some (.ref a1)) ∧ (Fr n0 L) ∧ (Keep h0 h []) ∧ (Exa Z h a1 "java/lang/String") ∧ (Fld Z h a1 "java/lang/String" "value" "[B" (.ref r)) ∧ (Fld Z h a1 "java/lang/String" "coder" "B" (.int (0 : Int32))) ∧ (Arv Z h r kr .byte zn (own_bs zn u0 u1) (.int (0 : Int32))) ∧ (h0.size ≤ a1)
set_option maxRecDepth 65536 in
set_option maxHeartbeats 40000000 in
theorem rmk (l : Launch) (Z : State) (a0 : Array Value) (hw : ∀ d ∈ tables_1, d.before a0 Z = true) (ws : List Jvm.Cond) (zn : Int32) (u0 : Int32) (u1 : Int32) (zc : Int32) (h0 : Heap) (n0 : Nat) (Z0 : n0 ≤ h0.size) (pr1 : Sta Z h0 oS0 oS2 "Z" (.int zc)) (hzc : ¬ zc = (0 : Int32)) (hzn : zn = 0 ∨ zn = 1 ∨ zn = 2) (hl_u0 : own_lat u0) (hl_u1 : own_lat u1) :
    MetFree l oM9 (head1 (Jvm.Cond.code oM9 method_2_code 3 (some (.object oS0)) :: ws) ({ frames := 4, cells := 4, slots := 8, locals := 66 } : Room)) (fun a U => a = #[(.int zn), (.int u0), (.int u1)] ∧ Z.Warmed39 U.vm ∧ U.heap = h0 ∧ CHv Z own_EL U.vm h0) (fun _ _ _ _ _ => True) (fun _ U o U' => ∃ v L, o = .returned v ∧ Qrmk Z zn u0 u1 zc h0 n0 v U'.heap L ∧ CHr Z own_EL U.vm U.heap U'.vm U'.heap ∧ ReturnedEndW U o U' L ({ frames := 4, cells := 4, slots := 8, locals := 66 } : Room).cells ({ frames := 4, cells := 4, slots := 8, locals := 66 } : Room).slots) := by
  refine MetFree.of_bodySF (plainFor_of_name pn_1) hisR ?_
  intro p e s m args below meth c s₁ Bd hml0 hP0 hK
  obtain ⟨rfl, hZ, hh, hC0⟩ := hP0
  have hx := Bd.exec
  have hby := Bd.bytes
  have hml : c.maxLocals = 3 := hml0
  have hown : s.vm.findClass oS6 = some m.cls := findClass_of_methodNamed Bd.named
  have hnm := (name_of_methodNamed Bd.named Bd.method).1
  have X0 : Stand p l e ({ frames := 4, cells := 4, slots := 8, locals := 66 } : Room) (s.setVm s.vm) m #[(.int zn), (.int u0), (.int u1)] below meth c s₁ [] 0 0 := Stand.of_body Bd
  have hS0 : s.Since s.vm h0.size := (State.WarmedH.refl s).since _
  have hZ : Z.Warmed39 (s.setVm s.vm).vm := hZ
  have hown : (s.setVm s.vm).vm.findClass oS6 = some m.cls := hown
  have e0 : s₁.heap = h0 := by rw [← hh, Bd.state]; rfl
  have N0 := Fr.nil n0
  suffices own_H : ∀ (P : State → Outcome → Prop), (∀ U o, U.status = .running → Ended U below o → (∃ v L, o = .returned v ∧ Qrmk Z zn u0 u1 zc h0 n0 v U.heap L ∧ CHr Z own_EL s.vm s.heap U.vm U.heap ∧ ReturnedEndW s o U L ({ frames := 4, cells := 4, slots := 8, locals := 66 } : Room).cells ({ frames := 4, cells := 4, slots := 8, locals := 66 } : Room).slots) → P U o) → own_Go p.tables e below P (s₁.setTop (mkF m 0 #[oi zn, oi u0, oi u1] [])) from own_go (fun _ k => castTop (ef_rmk m zn u0 u1) k) (own_H _ (fun U o h1 h2 h3 => ⟨h1, h2, h3⟩))
  intro P hP
  have hEL : EW Z a0 own_EL := own_ew hw
  have A0 : CHr Z own_EL s.vm h0 s.vm h0 := CHr.refl hC0
  rcases hzn with hzk | hzk | hzk
  · --
    rw [hzk]
    refine own_go (st' := s₁.setTop (mkF m 1 #[oi 0, oi u0, oi u1] [(.int (0 : Int32))])) (fun _ k => XS.iloadN X0.here hx rfl (hb hby d1_0) rfl k) ?_
    have hc1 : (0 : Int32) = (0 : Int32) := by decide
    refine own_go (st' := s₁.setTop (mkF m 4 #[oi 0, oi u0, oi u1] [])) (fun _ k => XS.ifNo X0.here hx rfl (hb hby d1_1) rfl ((if0 _ _).trans (teq hc1).2) k) ?_
    obtain ⟨T2, h2, X2, e2, E2, A2, D2, -, st2⟩ := newO X0 hx hZ hown (own_hw hw 8) (own_hw hw 9) (own_hw hw 10) e0 (g := (mkF m 4 #[oi 0, oi u0, oi u1] [])) rfl (hb hby d1_4) (by decide) (by decide)
    obtain ⟨b2, g2⟩ : ∃ z, z = h0.size := ⟨_, rfl⟩
    rw [← g2] at A2 D2 st2
    have sz2 : h0.size ≤ h2.size := E2.1
    have lt2 : @LT.lt Nat _ b2 h2.size := A2.lt
    have f3 : Fld Z h2 b2 oS0 "value" "[B" .null := D2 (Or.inr (own_hw hw 24)) (ty := (.array .byte)) (by decide)
    have f4 : Fld Z h2 b2 oS0 "coder" "B" (.int (0 : Int32)) := D2 (Or.inr (own_hw hw 25)) (ty := .byte) (by decide)
    refine own_go (st' := T2.setTop (mkF m 7 #[oi 0, oi u0, oi u1] [(.ref b2)])) (st2) ?_
    refine own_go (st' := T2.setTop (mkF m 8 #[oi 0, oi u0, oi u1] [(.ref b2), (.ref b2)])) (fun _ k => XS.dup X2.here hx rfl (hb hby d1_7) rfl rfl k) ?_
    refine own_go (st' := T2.setTop (mkF m 9 #[oi 0, oi u0, oi u1] [(.int (0 : Int32)), (.ref b2), (.ref b2)])) (fun _ k => XS.iconst X2.here hx rfl (hb hby d1_8) k) ?_
    obtain ⟨T5, h5, k5, X5, e5, E5, A5, st5⟩ := newP X2 hx hZ (own_hw hw 11) e2 (g := (mkF m 9 #[oi 0, oi u0, oi u1] [(.int (0 : Int32)), (.ref b2), (.ref b2)])) rfl (hb hby d1_9) rfl (by decide) (cap := 0) (by decide) (by decide) (by decide) (by decide)
    obtain ⟨b5, g5⟩ : ∃ z, z = h2.size := ⟨_, rfl⟩
    rw [← g5] at A5 st5
    have sz5 : h2.size ≤ h5.size := E5.1
    have lt5 : @LT.lt Nat _ b5 h5.size := A5.lt
    have v5 : Arv Z h5 b5 k5 .char (0 : Int32) [] (.int (0 : Int32)) := (Arv.new A5 (by decide)).pad (pad_rep [] (.int (0 : Int32)) 0)
    refine own_go (st' := T5.setTop (mkF m 11 #[oi 0, oi u0, oi u1] [(.ref b5), (.ref b2), (.ref b2)])) (st5) ?_
    have c7 : Exa Z h5 b2 oS0 := (A2.ext E5)
    have c8 : Fld Z h5 b2 oS0 "value" "[B" .null := (f3.ext E5)
    have c9 : Fld Z h5 b2 oS0 "coder" "B" (.int (0 : Int32)) := (f4.ext E5)
    have KA10 : Keep h0 h5 [] := (((Keep.refl h0 []).ext E2).ext E5)
    have AS10 := CHr.keep (EL := own_EL) KA10 all0 A0.1
    have AA11 := A0.trans AS10
    obtain ⟨_, _, ⟨T6, LC6, kC6, nC6⟩, -, X6, hS6, hg6, ⟨Lc6, hQ6, lq6, yq6, zq6, CR6⟩, st6⟩ := X5.specialBackS hx (y := oM3) rfl hown (mvT hZ (own_hw hw 12)) (mvT hZ (own_hw hw 13)) (mvT hZ (own_hw hw 14)) (by decide) (backOfSH (W := 1) (rsc_0 l Z a0 hw [] b2 b5 k5 h5 n0 (by omega) c7 c8 c9 v5 (by omega)) hZ (own_hw hw 14) (own_hw hw 10) (by decide) (by decide) hEL AA11.1) (g := (mkF m 11 #[oi 0, oi u0, oi u1] [(.ref b5), (.ref b2), (.ref b2)])) rfl (by rw [hml]; rfl) (Steps.refl _) (a := b2) (argsL := [(.ref b5)]) (rest := [(.ref b2)]) (lenOf pd_7 rfl) rfl (by show 2 * 0 + _ ≤ _; exact Nat.le_of_eq rfl) (hb hby d1_11) (fun _ _ => ⟨rfl, e5, (by decide : 2 + 2 ≤ _), (by decide : 4 + 4 ≤ _)⟩)
    dsimp only [Pt.U, Pt.locs, Pt.cells, Pt.slots] at X6 lq6 yq6 zq6 st6 hQ6
    subst lq6 yq6 zq6
    dsimp only [Pt.U, Pt.locs, Pt.cells, Pt.slots] at hS6 hg6 CR6
    obtain ⟨X6, hS6, hZ, hown⟩ := rebS hS0 (by rw [e5]; omega) X6 hS6 hg6 hZ hown
    obtain ⟨h6, e6⟩ : ∃ z, T6.heap = z := ⟨_, rfl⟩
    rw [e6] at hQ6 hS6
    obtain ⟨r_6, kr_6, rfl, Nq6, K6, g6_0, g6_1, g6_2, g6_3⟩ := hQ6
    have sz6 : h5.size ≤ h6.size := K6.1
    rw [e6] at CR6
    have AA12 := AA11.trans CR6
    have N6 := Fr.app N0 Nq6
    have lt6_1 : @LT.lt Nat _ b2 h6.size := g6_0.lt
    have lt6_2 : @LT.lt Nat _ r_6 h6.size := g6_3.lt
    have ap13 : @Ne Nat b2 r_6 := own_ne_oa (own_hw hw 9) g6_0 g6_3
    refine own_go (st' := T6.setTop (mkF m 14 #[oi 0, oi u0, oi u1] [(.ref b2)])) (fun _ k => st6.trans k) ?_
    obtain ⟨fs, hr, hrun, hended, hR1, hR2, hR3, hR4⟩ := X6.leaveW hS6 (by rw [e6]; omega) (v := some (.ref b2)) (fun h => by rw [Bd.returns] at h; cases h)
    refine ⟨_, _, ?_, hP _ _ hrun hended ⟨_, _, rfl, ?_, (by rw [hh]; show CHr Z own_EL s.vm h0 T6.vm T6.heap; rw [e6]; exact AA12.trans (CHv.at X6 hZ hEL AA12.1)), hR1, hR2, hR3, hR4.mono (by decide) (by decide)⟩⟩
    · exact retOut X6 hx Bd.returns rfl (Or.inr (Or.inr (Or.inr (Or.inr ⟨rfl, rfl, rfl⟩)))) (hb hby d1_14) hr
    · show Qrmk Z zn u0 u1 zc h0 n0 _ T6.heap _
      rw [e6]
      exact ⟨b2, r_6, kr_6, rfl, N6, ((((Keep.refl h0 []).ext E2).ext E5).trans K6 (allS (P := fun x => x ∈ [] ∨ h0.size ≤ x) (Or.inr (by omega)) all0)), g6_0, g6_1, g6_2, (by rw [hzk]; exact g6_3), (by omega)⟩
  · --
    rw [hzk]
    refine own_go (st' := s₁.setTop (mkF m 1 #[oi 1, oi u0, oi u1] [(.int (1 : Int32))])) (fun _ k => XS.iloadN X0.here hx rfl (hb hby d1_0) rfl k) ?_
    have hc15 : ¬ ((1 : Int32) = (0 : Int32)) := by decide
    refine own_go (st' := s₁.setTop (mkF m 15 #[oi 1, oi u0, oi u1] [])) (fun _ k => XS.ifYes X0.here hx rfl (pc0 := 1) (pc' := 15) rfl (hb hby d1_1) rfl ((if0 _ _).trans (feq hc15).2) (by decide) (by decide) k) ?_
    refine own_go (st' := s₁.setTop (mkF m 16 #[oi 1, oi u0, oi u1] [(.int (1 : Int32))])) (fun _ k => XS.iloadN X0.here hx rfl (hb hby d1_15) rfl k) ?_
    refine own_go (st' := s₁.setTop (mkF m 17 #[oi 1, oi u0, oi u1] [(.int (1 : Int32)), (.int (1 : Int32))])) (fun _ k => XS.iconst X0.here hx rfl (hb hby d1_16) k) ?_
    have hc16 : (1 : Int32) = (1 : Int32) := by decide
    refine own_go (st' := s₁.setTop (mkF m 20 #[oi 1, oi u0, oi u1] [])) (fun _ k => XS.icmpNo X0.here hx rfl (hb hby d1_17) rfl (teq hc16).2 k) ?_
    obtain ⟨T17, h17, X17, e17, E17, A17, D17, -, st17⟩ := newO X0 hx hZ hown (own_hw hw 8) (own_hw hw 9) (own_hw hw 10) e0 (g := (mkF m 20 #[oi 1, oi u0, oi u1] [])) rfl (hb hby d1_20) (by decide) (by decide)
    obtain ⟨b17, g17⟩ : ∃ z, z = h0.size := ⟨_, rfl⟩
    rw [← g17] at A17 D17 st17
    have sz17 : h0.size ≤ h17.size := E17.1
    have lt17 : @LT.lt Nat _ b17 h17.size := A17.lt
    have f18 : Fld Z h17 b17 oS0 "value" "[B" .null := D17 (Or.inr (own_hw hw 24)) (ty := (.array .byte)) (by decide)
    have f19 : Fld Z h17 b17 oS0 "coder" "B" (.int (0 : Int32)) := D17 (Or.inr (own_hw hw 25)) (ty := .byte) (by decide)
    refine own_go (st' := T17.setTop (mkF m 23 #[oi 1, oi u0, oi u1] [(.ref b17)])) (st17) ?_
    refine own_go (st' := T17.setTop (mkF m 24 #[oi 1, oi u0, oi u1] [(.ref b17), (.ref b17)])) (fun _ k => XS.dup X17.here hx rfl (hb hby d1_23) rfl rfl k) ?_
    refine own_go (st' := T17.setTop (mkF m 25 #[oi 1, oi u0, oi u1] [(.int (1 : Int32)), (.ref b17), (.ref b17)])) (fun _ k => XS.iconst X17.here hx rfl (hb hby d1_24) k) ?_
    obtain ⟨T20, h20, k20, X20, e20, E20, A20, st20⟩ := newP X17 hx hZ (own_hw hw 11) e17 (g := (mkF m 25 #[oi 1, oi u0, oi u1] [(.int (1 : Int32)), (.ref b17), (.ref b17)])) rfl (hb hby d1_25) rfl (by decide) (cap := 1) (by decide) (by decide) (by decide) (by decide)
    obtain ⟨b20, g20⟩ : ∃ z, z = h17.size := ⟨_, rfl⟩
    rw [← g20] at A20 st20
    have sz20 : h17.size ≤ h20.size := E20.1
    have lt20 : @LT.lt Nat _ b20 h20.size := A20.lt
    have v20 : Arv Z h20 b20 k20 .char (1 : Int32) [(.int (0 : Int32))] (.int (0 : Int32)) := (Arv.new A20 (by decide)).pad (pad_rep [] (.int (0 : Int32)) 1)
    refine own_go (st' := T20.setTop (mkF m 27 #[oi 1, oi u0, oi u1] [(.ref b20), (.ref b17), (.ref b17)])) (st20) ?_
    refine own_go (st' := T20.setTop (mkF m 28 #[oi 1, oi u0, oi u1] [(.ref b20), (.ref b20), (.ref b17), (.ref b17)])) (fun _ k => XS.dup X20.here hx rfl (hb hby d1_27) rfl rfl k) ?_
    refine own_go (st' := T20.setTop (mkF m 29 #[oi 1, oi u0, oi u1] [(.int (0 : Int32)), (.ref b20), (.ref b20), (.ref b17), (.ref b17)])) (fun _ k => XS.iconst X20.here hx rfl (hb hby d1_28) k) ?_
    refine own_go (st' := T20.setTop (mkF m 30 #[oi 1, oi u0, oi u1] [(.int u0), (.int (0 : Int32)), (.ref b20), (.ref b20), (.ref b17), (.ref b17)])) (fun _ k => XS.iloadN X20.here hx rfl (hb hby d1_29) rfl k) ?_
    refine own_go (st' := T20.setTop (mkF m 31 #[oi 1, oi u0, oi u1] [(.int u0.toUInt32.toUInt16.toUInt32.toInt32), (.int (0 : Int32)), (.ref b20), (.ref b20), (.ref b17), (.ref b17)])) (fun _ k => XS.i2c X20.here hx rfl (hb hby d1_30) rfl k) ?_
    obtain ⟨cl21, Ar21, qc21, S21, M21, H21, G21⟩ := id v20
    have hin21 : ¬ ((0 : Int32) < 0 ∨ cl21.slots.size ≤ ((0 : Int32)).toNatClampNeg) := (inb_of S21 ⟨by decide, by decide⟩)
    obtain ⟨T21, h21, X21, e21, W21, st21⟩ := stC X20 hx hZ e20 Ar21 (j := (0 : Int32)) hin21 (g := (mkF m 31 #[oi 1, oi u0, oi u1] [(.int u0.toUInt32.toUInt16.toUInt32.toInt32), (.int (0 : Int32)), (.ref b20), (.ref b20), (.ref b17), (.ref b17)])) rfl rfl (hb hby d1_31)
    have sz21 : h21.size = h20.size := W21.size
    have N21 := Fr.snoc X21 N0 (by omega)
    have v21 : Arv Z h21 b20 k20 .char (1 : Int32) [(.int (nar .char u0.toUInt32.toUInt16.toUInt32.toInt32))] (.int (0 : Int32)) := Arv.set Ar21 qc21 S21 M21 H21 G21 (fits_nar_char _) W21 0 rfl (Nat.le_of_ble_eq_true rfl)
    refine own_go (st' := T21.setTop (mkF m 32 #[oi 1, oi u0, oi u1] [(.ref b20), (.ref b17), (.ref b17)])) (st21) ?_
    have v22 : Arv Z h21 b20 k20 .char (1 : Int32) [(.int u0)] (.int (0 : Int32)) := by rw [own_lat_i2c hl_u0, own_lat_ch hl_u0] at v21; exact v21
    have c24 : Exa Z h21 b17 oS0 := ((A17.ext E20).wr W21)
    have c25 : Fld Z h21 b17 oS0 "value" "[B" .null := ((f18.ext E20).other W21 (Or.inl (own_ne (by omega))))
    have c26 : Fld Z h21 b17 oS0 "coder" "B" (.int (0 : Int32)) := ((f19.ext E20).other W21 (Or.inl (own_ne (by omega))))
    have c27 : Sta Z h21 oS0 oS2 "Z" (.int zc) := (((pr1.ext E17).ext E20).wr W21)
    obtain ⟨_, _, ⟨T23, LC23, kC23, nC23⟩, -, X23, ⟨Lc23, hQ23, lq23, yq23, zq23⟩, st23⟩ := X21.specialBack hx (y := oM3) rfl hown (mvT hZ (own_hw hw 12)) (mvT hZ (own_hw hw 13)) (mvT hZ (own_hw hw 14)) (by decide) (backOf (W := 1) (rsc_1 l Z a0 hw [] b17 b20 k20 zc u0 h21 n0 (by omega) c24 c25 c26 v22 c27 (by assumption) hl_u0 (by omega) (own_ne (by omega))) hZ (own_hw hw 14) (own_hw hw 10) (by decide) (by decide)) (g := (mkF m 32 #[oi 1, oi u0, oi u1] [(.ref b20), (.ref b17), (.ref b17)])) rfl (by rw [hml]; rfl) (Steps.refl _) (a := b17) (argsL := [(.ref b20)]) (rest := [(.ref b17)]) (lenOf pd_7 rfl) rfl (by show 2 * 0 + _ ≤ _; exact Nat.le_of_eq rfl) (hb hby d1_32) (fun _ _ => ⟨rfl, e21, (by decide : 2 + 1 ≤ _), (by decide : 5 + 1 ≤ _)⟩)
    dsimp only [Pt.U, Pt.locs, Pt.cells, Pt.slots] at X23 lq23 yq23 zq23 st23 hQ23
    subst lq23 yq23 zq23
    obtain ⟨h23, e23⟩ : ∃ z, T23.heap = z := ⟨_, rfl⟩
    rw [e23] at hQ23
    obtain ⟨r_23, kr_23, rfl, Nq23, K23, g23_0, g23_1, g23_2, g23_3, g23_4⟩ := hQ23
    have sz23 : h21.size ≤ h23.size := K23.1
    have N23 := Fr.app N21 Nq23
    have lt23_1 : @LT.lt Nat _ b17 h23.size := g23_0.lt
    have lt23_2 : @LT.lt Nat _ r_23 h23.size := g23_3.lt
    refine own_go (st' := T23.setTop (mkF m 35 #[oi 1, oi u0, oi u1] [(.ref b17)])) (fun _ k => st23.trans k) ?_
    have KA29 : Keep h0 h23 [] := (((((Keep.refl h0 []).ext E17).ext E20).wr W21 (Or.inr (by omega))).trans K23 (allS (P := fun x => x ∈ [] ∨ h0.size ≤ x) (Or.inr (by omega)) all0))
    have AS29 := CHr.keep (EL := own_EL) KA29 all0 A0.1
    have AA30 := A0.trans AS29
    obtain ⟨fs, hr, hrun, hended, hR1, hR2, hR3, hR4⟩ := X23.leaveW hS0 (by rw [e23]; omega) (v := some (.ref b17)) (fun h => by rw [Bd.returns] at h; cases h)
    refine ⟨_, _, ?_, hP _ _ hrun hended ⟨_, _, rfl, ?_, (by rw [hh]; show CHr Z own_EL s.vm h0 T23.vm T23.heap; rw [e23]; exact AA30.trans (CHv.at X23 hZ hEL AA30.1)), hR1, hR2, hR3, hR4.mono (by decide) (by decide)⟩⟩
    · exact retOut X23 hx Bd.returns rfl (Or.inr (Or.inr (Or.inr (Or.inr ⟨rfl, rfl, rfl⟩)))) (hb hby d1_35) hr
    · show Qrmk Z zn u0 u1 zc h0 n0 _ T23.heap _
      rw [e23]
      exact ⟨b17, r_23, kr_23, rfl, N23, (((((Keep.refl h0 []).ext E17).ext E20).wr W21 (Or.inr (by omega))).trans K23 (allS (P := fun x => x ∈ [] ∨ h0.size ≤ x) (Or.inr (by omega)) all0)), g23_0, g23_1, g23_2, (by rw [hzk]; exact g23_3), (by omega)⟩
  · --
    rw [hzk]
    refine own_go (st' := s₁.setTop (mkF m 1 #[oi 2, oi u0, oi u1] [(.int (2 : Int32))])) (fun _ k => XS.iloadN X0.here hx rfl (hb hby d1_0) rfl k) ?_
    have hc31 : ¬ ((2 : Int32) = (0 : Int32)) := by decide
    refine own_go (st' := s₁.setTop (mkF m 15 #[oi 2, oi u0, oi u1] [])) (fun _ k => XS.ifYes X0.here hx rfl (pc0 := 1) (pc' := 15) rfl (hb hby d1_1) rfl ((if0 _ _).trans (feq hc31).2) (by decide) (by decide) k) ?_
    refine own_go (st' := s₁.setTop (mkF m 16 #[oi 2, oi u0, oi u1] [(.int (2 : Int32))])) (fun _ k => XS.iloadN X0.here hx rfl (hb hby d1_15) rfl k) ?_
    refine own_go (st' := s₁.setTop (mkF m 17 #[oi 2, oi u0, oi u1] [(.int (1 : Int32)), (.int (2 : Int32))])) (fun _ k => XS.iconst X0.here hx rfl (hb hby d1_16) k) ?_
    have hc32 : ¬ ((2 : Int32) = (1 : Int32)) := by decide
    refine own_go (st' := s₁.setTop (mkF m 36 #[oi 2, oi u0, oi u1] [])) (fun _ k => XS.icmpYes X0.here hx rfl (pc0 := 17) (pc' := 36) rfl (hb hby d1_17) rfl (feq hc32).2 (by decide) (by decide) k) ?_
    obtain ⟨T33, h33, X33, e33, E33, A33, D33, -, st33⟩ := newO X0 hx hZ hown (own_hw hw 8) (own_hw hw 9) (own_hw hw 10) e0 (g := (mkF m 36 #[oi 2, oi u0, oi u1] [])) rfl (hb hby d1_36) (by decide) (by decide)
    obtain ⟨b33, g33⟩ : ∃ z, z = h0.size := ⟨_, rfl⟩
    rw [← g33] at A33 D33 st33
    have sz33 : h0.size ≤ h33.size := E33.1
    have lt33 : @LT.lt Nat _ b33 h33.size := A33.lt
    have f34 : Fld Z h33 b33 oS0 "value" "[B" .null := D33 (Or.inr (own_hw hw 24)) (ty := (.array .byte)) (by decide)
    have f35 : Fld Z h33 b33 oS0 "coder" "B" (.int (0 : Int32)) := D33 (Or.inr (own_hw hw 25)) (ty := .byte) (by decide)
    refine own_go (st' := T33.setTop (mkF m 39 #[oi 2, oi u0, oi u1] [(.ref b33)])) (st33) ?_
    refine own_go (st' := T33.setTop (mkF m 40 #[oi 2, oi u0, oi u1] [(.ref b33), (.ref b33)])) (fun _ k => XS.dup X33.here hx rfl (hb hby d1_39) rfl rfl k) ?_
    refine own_go (st' := T33.setTop (mkF m 41 #[oi 2, oi u0, oi u1] [(.int (2 : Int32)), (.ref b33), (.ref b33)])) (fun _ k => XS.iconst X33.here hx rfl (hb hby d1_40) k) ?_
    obtain ⟨T36, h36, k36, X36, e36, E36, A36, st36⟩ := newP X33 hx hZ (own_hw hw 11) e33 (g := (mkF m 41 #[oi 2, oi u0, oi u1] [(.int (2 : Int32)), (.ref b33), (.ref b33)])) rfl (hb hby d1_41) rfl (by decide) (cap := 2) (by decide) (by decide) (by decide) (by decide)
    obtain ⟨b36, g36⟩ : ∃ z, z = h33.size := ⟨_, rfl⟩
    rw [← g36] at A36 st36
    have sz36 : h33.size ≤ h36.size := E36.1
    have lt36 : @LT.lt Nat _ b36 h36.size := A36.lt
    have v36 : Arv Z h36 b36 k36 .char (2 : Int32) [(.int (0 : Int32)), (.int (0 : Int32))] (.int (0 : Int32)) := (Arv.new A36 (by decide)).pad (pad_rep [] (.int (0 : Int32)) 2)
    refine own_go (st' := T36.setTop (mkF m 43 #[oi 2, oi u0, oi u1] [(.ref b36), (.ref b33), (.ref b33)])) (st36) ?_
    refine own_go (st' := T36.setTop (mkF m 44 #[oi 2, oi u0, oi u1] [(.ref b36), (.ref b36), (.ref b33), (.ref b33)])) (fun _ k => XS.dup X36.here hx rfl (hb hby d1_43) rfl rfl k) ?_
    refine own_go (st' := T36.setTop (mkF m 45 #[oi 2, oi u0, oi u1] [(.int (0 : Int32)), (.ref b36), (.ref b36), (.ref b33), (.ref b33)])) (fun _ k => XS.iconst X36.here hx rfl (hb hby d1_44) k) ?_
    refine own_go (st' := T36.setTop (mkF m 46 #[oi 2, oi u0, oi u1] [(.int u0), (.int (0 : Int32)), (.ref b36), (.ref b36), (.ref b33), (.ref b33)])) (fun _ k => XS.iloadN X36.here hx rfl (hb hby d1_45) rfl k) ?_
    refine own_go (st' := T36.setTop (mkF m 47 #[oi 2, oi u0, oi u1] [(.int u0.toUInt32.toUInt16.toUInt32.toInt32), (.int (0 : Int32)), (.ref b36), (.ref b36), (.ref b33), (.ref b33)])) (fun _ k => XS.i2c X36.here hx rfl (hb hby d1_46) rfl k) ?_
    obtain ⟨cl37, Ar37, qc37, S37, M37, H37, G37⟩ := id v36
    have hin37 : ¬ ((0 : Int32) < 0 ∨ cl37.slots.size ≤ ((0 : Int32)).toNatClampNeg) := (inb_of S37 ⟨by decide, by decide⟩)
    obtain ⟨T37, h37, X37, e37, W37, st37⟩ := stC X36 hx hZ e36 Ar37 (j := (0 : Int32)) hin37 (g := (mkF m 47 #[oi 2, oi u0, oi u1] [(.int u0.toUInt32.toUInt16.toUInt32.toInt32), (.int (0 : Int32)), (.ref b36), (.ref b36), (.ref b33), (.ref b33)])) rfl rfl (hb hby d1_47)
    have sz37 : h37.size = h36.size := W37.size
    have N37 := Fr.snoc X37 N0 (by omega)
    have v37 : Arv Z h37 b36 k36 .char (2 : Int32) [(.int (nar .char u0.toUInt32.toUInt16.toUInt32.toInt32)), (.int (0 : Int32))] (.int (0 : Int32)) := Arv.set Ar37 qc37 S37 M37 H37 G37 (fits_nar_char _) W37 0 rfl (Nat.le_of_ble_eq_true rfl)
    refine own_go (st' := T37.setTop (mkF m 48 #[oi 2, oi u0, oi u1] [(.ref b36), (.ref b33), (.ref b33)])) (st37) ?_
    refine own_go (st' := T37.setTop (mkF m 49 #[oi 2, oi u0, oi u1] [(.ref b36), (.ref b36), (.ref b33), (.ref b33)])) (fun _ k => XS.dup X37.here hx rfl (hb hby d1_48) rfl rfl k) ?_
    refine own_go (st' := T37.setTop (mkF m 50 #[oi 2, oi u0, oi u1] [(.int (1 : Int32)), (.ref b36), (.ref b36), (.ref b33), (.ref b33)])) (fun _ k => XS.iconst X37.here hx rfl (hb hby d1_49) k) ?_
    refine own_go (st' := T37.setTop (mkF m 51 #[oi 2, oi u0, oi u1] [(.int u1), (.int (1 : Int32)), (.ref b36), (.ref b36), (.ref b33), (.ref b33)])) (fun _ k => XS.iloadN X37.here hx rfl (hb hby d1_50) rfl k) ?_
    refine own_go (st' := T37.setTop (mkF m 52 #[oi 2, oi u0, oi u1] [(.int u1.toUInt32.toUInt16.toUInt32.toInt32), (.int (1 : Int32)), (.ref b36), (.ref b36), (.ref b33), (.ref b33)])) (fun _ k => XS.i2c X37.here hx rfl (hb hby d1_51) rfl k) ?_
    obtain ⟨cl38, Ar38, qc38, S38, M38, H38, G38⟩ := id v37
    have hin38 : ¬ ((1 : Int32) < 0 ∨ cl38.slots.size ≤ ((1 : Int32)).toNatClampNeg) := (inb_of S38 ⟨by decide, by decide⟩)
    obtain ⟨T38, h38, X38, e38, W38, st38⟩ := stC X37 hx hZ e37 Ar38 (j := (1 : Int32)) hin38 (g := (mkF m 52 #[oi 2, oi u0, oi u1] [(.int u1.toUInt32.toUInt16.toUInt32.toInt32), (.int (1 : Int32)), (.ref b36), (.ref b36), (.ref b33), (.ref b33)])) rfl rfl (hb hby d1_52)
    have sz38 : h38.size = h37.size := W38.size
    have N38 := Fr.snoc X38 N37 (by omega)
    have v38 : Arv Z h38 b36 k36 .char (2 : Int32) [(.int (nar .char u0.toUInt32.toUInt16.toUInt32.toInt32)), (.int (nar .char u1.toUInt32.toUInt16.toUInt32.toInt32))] (.int (0 : Int32)) := Arv.set Ar38 qc38 S38 M38 H38 G38 (fits_nar_char _) W38 1 rfl (Nat.le_of_ble_eq_true rfl)
    refine own_go (st' := T38.setTop (mkF m 53 #[oi 2, oi u0, oi u1] [(.ref b36), (.ref b33), (.ref b33)])) (st38) ?_
    have v39 : Arv Z h38 b36 k36 .char (2 : Int32) [(.int u0), (.int u1)] (.int (0 : Int32)) := by rw [own_lat_i2c hl_u0, own_lat_ch hl_u0, own_lat_i2c hl_u1, own_lat_ch hl_u1] at v38; exact v38
    have c41 : Exa Z h38 b33 oS0 := (((A33.ext E36).wr W37).wr W38)
    have c42 : Fld Z h38 b33 oS0 "value" "[B" .null := (((f34.ext E36).other W37 (Or.inl (own_ne (by omega)))).other W38 (Or.inl (own_ne (by omega))))
    have c43 : Fld Z h38 b33 oS0 "coder" "B" (.int (0 : Int32)) := (((f35.ext E36).other W37 (Or.inl (own_ne (by omega)))).other W38 (Or.inl (own_ne (by omega))))
    have c44 : Sta Z h38 oS0 oS2 "Z" (.int zc) := ((((pr1.ext E33).ext E36).wr W37).wr W38)
    obtain ⟨_, _, ⟨T40, LC40, kC40, nC40⟩, -, X40, ⟨Lc40, hQ40, lq40, yq40, zq40⟩, st40⟩ := X38.specialBack hx (y := oM3) rfl hown (mvT hZ (own_hw hw 12)) (mvT hZ (own_hw hw 13)) (mvT hZ (own_hw hw 14)) (by decide) (backOf (W := 1) (rsc_2 l Z a0 hw [] b33 b36 k36 zc u0 u1 h38 n0 (by omega) c41 c42 c43 v39 c44 (by assumption) hl_u0 hl_u1 (by omega) (own_ne (by omega))) hZ (own_hw hw 14) (own_hw hw 10) (by decide) (by decide)) (g := (mkF m 53 #[oi 2, oi u0, oi u1] [(.ref b36), (.ref b33), (.ref b33)])) rfl (by rw [hml]; rfl) (Steps.refl _) (a := b33) (argsL := [(.ref b36)]) (rest := [(.ref b33)]) (lenOf pd_7 rfl) rfl (by show 2 * 0 + _ ≤ _; exact Nat.le_of_eq rfl) (hb hby d1_53) (fun _ _ => ⟨rfl, e38, (by decide : 2 + 1 ≤ _), (by decide : 6 + 2 ≤ _)⟩)
    dsimp only [Pt.U, Pt.locs, Pt.cells, Pt.slots] at X40 lq40 yq40 zq40 st40 hQ40
    subst lq40 yq40 zq40
    obtain ⟨h40, e40⟩ : ∃ z, T40.heap = z := ⟨_, rfl⟩
    rw [e40] at hQ40
    obtain ⟨r_40, kr_40, rfl, Nq40, K40, g40_0, g40_1, g40_2, g40_3, g40_4⟩ := hQ40
    have sz40 : h38.size ≤ h40.size := K40.1
    have N40 := Fr.app N38 Nq40
    have lt40_1 : @LT.lt Nat _ b33 h40.size := g40_0.lt
    have lt40_2 : @LT.lt Nat _ r_40 h40.size := g40_3.lt
    refine own_go (st' := T40.setTop (mkF m 56 #[oi 2, oi u0, oi u1] [(.ref b33)])) (fun _ k => st40.trans k) ?_
    have KA46 : Keep h0 h40 [] := ((((((Keep.refl h0 []).ext E33).ext E36).wr W37 (Or.inr (by omega))).wr W38 (Or.inr (by omega))).trans K40 (allS (P := fun x => x ∈ [] ∨ h0.size ≤ x) (Or.inr (by omega)) all0))
    have AS46 := CHr.keep (EL := own_EL) KA46 all0 A0.1
    have AA47 := A0.trans AS46
    obtain ⟨fs, hr, hrun, hended, hR1, hR2, hR3, hR4⟩ := X40.leaveW hS0 (by rw [e40]; omega) (v := some (.ref b33)) (fun h => by rw [Bd.returns] at h; cases h)
    refine ⟨_, _, ?_, hP _ _ hrun hended ⟨_, _, rfl, ?_, (by rw [hh]; show CHr Z own_EL s.vm h0 T40.vm T40.heap; rw [e40]; exact AA47.trans (CHv.at X40 hZ hEL AA47.1)), hR1, hR2, hR3, hR4.mono (by decide) (by decide)⟩⟩
    · exact retOut X40 hx Bd.returns rfl (Or.inr (Or.inr (Or.inr (Or.inr ⟨rfl, rfl, rfl⟩)))) (hb hby d1_56) hr
    · show Qrmk Z zn u0 u1 zc h0 n0 _ T40.heap _
      rw [e40]
      exact ⟨b33, r_40, kr_40, rfl, N40, ((((((Keep.refl h0 []).ext E33).ext E36).wr W37 (Or.inr (by omega))).wr W38 (Or.inr (by omega))).trans K40 (allS (P := fun x => x ∈ [] ∨ h0.size ≤ x) (Or.inr (by omega)) all0)), g40_0, g40_1, g40_2, (by rw [hzk]; exact g40_3), (by omega)⟩
theorem d6_0 : decode jdk_31_method_11_code 0 = .ok (.aload_n 0, 1) := by decide +kernel
theorem d6_1 : decode jdk_31_method_11_code 1 = .ok (.ifnonnull 12, 3) := by decide +kernel
theorem d6_13 : decode jdk_31_method_11_code 13 = .ok (.aload_n 0, 1) := by decide +kernel
theorem d6_14 : decode jdk_31_method_11_code 14 = .ok (.areturn, 1) := by decide +kernel
theorem pn_6 : plainName "java/util/Objects" = true := by first | (simp [plainName, overriddenIn]; done) | decide +kernel
theorem ef_rm6 (m : MethodId) (x0 : Addr) (x1 : Addr) : entryFrame m #[(.ref x0), (.ref x1)] 2 = mkF m 0 #[.val (.ref x0), .val (.ref x1)] [] := by first | (simp [entryFrame, mkF, argsToLocals, Value.category]; done) | rfl
def Qrm6 (Z : State) (a1 : Addr) (a2 : Addr) (h0 : Heap) (n0 : Nat) (v : Option Value) (h : Heap) (L : List Loc) : Prop := (v = some (.ref a1)) ∧ (Fr n0 L) ∧ (h = h0)
set_option maxRecDepth 65536 in
set_option maxHeartbeats 40000000 in
theorem rm6 (l : Launch) (Z : State) (a0 : Array Value) (hw : ∀ d ∈ tables_1, d.before a0 Z = true) (ws : List Jvm.Cond) (a1 : Addr) (a2 : Addr) (h0 : Heap) (n0 : Nat) (Z0 : n0 ≤ h0.size)  :
    MetFree l oM14 (head1 (Jvm.Cond.code oM14 jdk_31_method_11_code 2 (some (.object "java/lang/Object")) :: ws) ({ frames := 0, cells := 0, slots := 0, locals := 0 } : Room)) (fun a U => a = #[(.ref a1), (.ref a2)] ∧ Z.Warmed39 U.vm ∧ U.heap = h0) (fun _ _ _ _ _ => True) (fun _ U o U' => ∃ v L, o = .returned v ∧ Qrm6 Z a1 a2 h0 n0 v U'.heap L ∧ FrameEnd U o U' L ({ frames := 0, cells := 0, slots := 0, locals := 0 } : Room).cells ({ frames := 0, cells := 0, slots := 0, locals := 0 } : Room).slots) := by
  refine MetFree.of_bodySF (plainFor_of_name pn_6) hisR ?_
  intro p e s m args below meth c s₁ Bd hml0 hP0 hK
  obtain ⟨rfl, hZ, hh⟩ := hP0
  have hx := Bd.exec
  have hby := Bd.bytes
  have hml : c.maxLocals = 2 := hml0
  have hown : s.vm.findClass "java/util/Objects" = some m.cls := findClass_of_methodNamed Bd.named
  have hnm := (name_of_methodNamed Bd.named Bd.method).1
  have X0 : Stand p l e ({ frames := 0, cells := 0, slots := 0, locals := 0 } : Room) s m #[(.ref a1), (.ref a2)] below meth c s₁ [] 0 0 := Stand.of_body Bd
  have e0 : s₁.heap = h0 := by rw [← hh, Bd.state]; rfl
  have N0 := Fr.nil n0
  suffices own_H : ∀ (P : State → Outcome → Prop), (∀ U o, U.status = .running → Ended U below o → (∃ v L, o = .returned v ∧ Qrm6 Z a1 a2 h0 n0 v U.heap L ∧ FrameEnd s o U L ({ frames := 0, cells := 0, slots := 0, locals := 0 } : Room).cells ({ frames := 0, cells := 0, slots := 0, locals := 0 } : Room).slots) → P U o) → own_Go p.tables e below P (s₁.setTop (mkF m 0 #[oR a1, oR a2] [])) from own_go (fun _ k => castTop (ef_rm6 m a1 a2) k) (own_H _ (fun U o h1 h2 h3 => ⟨h1, h2, h3⟩))
  intro P hP
  refine own_go (st' := s₁.setTop (mkF m 1 #[oR a1, oR a2] [(.ref a1)])) (fun _ k => XS.aloadN X0.here hx rfl (hb hby d6_0) rfl rfl k) ?_
  refine own_go (st' := s₁.setTop (mkF m 13 #[oR a1, oR a2] [])) (fun _ k => XS.ifnonnullYes X0.here hx rfl (pc0 := 1) (pc' := 13) rfl (hb hby d6_1) rfl (by decide) (by decide) k) ?_
  refine own_go (st' := s₁.setTop (mkF m 14 #[oR a1, oR a2] [(.ref a1)])) (fun _ k => XS.aloadN X0.here hx rfl (hb hby d6_13) rfl rfl k) ?_
  obtain ⟨fs, hr, hrun, hended, hW, hsame⟩ := X0.leave (v := some (.ref a1)) (fun h => by rw [Bd.returns] at h; cases h)
  refine ⟨_, _, ?_, hP _ _ hrun hended ⟨_, _, rfl, ?_, ⟨_, rfl⟩, hW, hsame.mono (by decide) (by decide)⟩⟩
  · exact retOut X0 hx Bd.returns rfl (Or.inr (Or.inr (Or.inr (Or.inr ⟨rfl, rfl, rfl⟩)))) (hb hby d6_14) hr
  · show Qrm6 Z a1 a2 h0 n0 _ s₁.heap _
    rw [e0]
    exact ⟨rfl, N0, rfl⟩
theorem d7_0 : decode prog_5_method_2_code 0 = .ok (.lload_n 0, 1) := by decide +kernel
theorem d7_1 : decode prog_5_method_2_code 1 = .ok (.lconst 0, 1) := by decide +kernel
theorem d7_2 : decode prog_5_method_2_code 2 = .ok (.lcmp, 1) := by decide +kernel
theorem d7_3 : decode prog_5_method_2_code 3 = .ok (.ifCond .ge 17, 3) := by decide +kernel
theorem d7_20 : decode prog_5_method_2_code 20 = .ok (.lload_n 0, 1) := by decide +kernel
theorem d7_21 : decode prog_5_method_2_code 21 = .ok (.lreturn, 1) := by decide +kernel
theorem pn_7 : plainName "com/example/limpet/limpet/CommittedOffset" = true := by first | (simp [plainName, overriddenIn]; done) | decide +kernel
theorem ef_rm7 (m : MethodId) (x0 : Int64) : entryFrame m #[(.long x0)] 2 = mkF m 0 #[.val (.long x0), .second] [] := by first | (simp [entryFrame, mkF, argsToLocals, Value.category]; done) | rfl
def Qrm7 (Z : State) (pn : Int64) (h0 : Heap) (n0 : Nat) (v : Option Value) (h : Heap) (L : List Loc) : Prop := (v = some (.long pn)) ∧ (Fr n0 L) ∧ (h = h0)
set_option maxRecDepth 65536 in
set_option maxHeartbeats 40000000 in
theorem rm7 (l : Launch) (Z : State) (a0 : Array Value) (hw : ∀ d ∈ tables_1, d.before a0 Z = true) (ws : List Jvm.Cond) (pn : Int64) (h0 : Heap) (n0 : Nat) (Z0 : n0 ≤ h0.size) (hpn : ¬ pn < (0 : Int64)) :
    MetFree l oM15 (head1 (Jvm.Cond.code oM15 prog_5_method_2_code 2 (some .long) :: ws) ({ frames := 0, cells := 0, slots := 0, locals := 0 } : Room)) (fun a U => a = #[(.long pn)] ∧ Z.Warmed39 U.vm ∧ U.heap = h0) (fun _ _ _ _ _ => True) (fun _ U o U' => ∃ v L, o = .returned v ∧ Qrm7 Z pn h0 n0 v U'.heap L ∧ FrameEnd U o U' L ({ frames := 0, cells := 0, slots := 0, locals := 0 } : Room).cells ({ frames := 0, cells := 0, slots := 0, locals := 0 } : Room).slots) := by
  refine MetFree.of_bodySF (plainFor_of_name pn_7) hisR ?_
  intro p e s m args below meth c s₁ Bd hml0 hP0 hK
  obtain ⟨rfl, hZ, hh⟩ := hP0
  have hx := Bd.exec
  have hby := Bd.bytes
  have hml : c.maxLocals = 2 := hml0
  have hown : s.vm.findClass "com/example/limpet/limpet/CommittedOffset" = some m.cls := findClass_of_methodNamed Bd.named
  have hnm := (name_of_methodNamed Bd.named Bd.method).1
  have X0 : Stand p l e ({ frames := 0, cells := 0, slots := 0, locals := 0 } : Room) s m #[(.long pn)] below meth c s₁ [] 0 0 := Stand.of_body Bd
  have e0 : s₁.heap = h0 := by rw [← hh, Bd.state]; rfl
  have N0 := Fr.nil n0
  suffices own_H : ∀ (P : State → Outcome → Prop), (∀ U o, U.status = .running → Ended U below o → (∃ v L, o = .returned v ∧ Qrm7 Z pn h0 n0 v U.heap L ∧ FrameEnd s o U L ({ frames := 0, cells := 0, slots := 0, locals := 0 } : Room).cells ({ frames := 0, cells := 0, slots := 0, locals := 0 } : Room).slots) → P U o) → own_Go p.tables e below P (s₁.setTop (mkF m 0 #[oj pn, .second] [])) from own_go (fun _ k => castTop (ef_rm7 m pn) k) (own_H _ (fun U o h1 h2 h3 => ⟨h1, h2, h3⟩))
  intro P hP
  refine own_go (st' := s₁.setTop (mkF m 1 #[oj pn, .second] [(.long pn)])) (fun _ k => XS.lloadN X0.here hx rfl (hb hby d7_0) rfl k) ?_
  refine own_go (st' := s₁.setTop (mkF m 2 #[oj pn, .second] [(.long (0 : Int64)), (.long pn)])) (fun _ k => XS.lconst X0.here hx rfl (hb hby d7_1) k) ?_
  refine own_go (st' := s₁.setTop (mkF m 3 #[oj pn, .second] [(.int (lcmpW pn (0 : Int64)))])) (fun _ k => XS.lcmp X0.here hx rfl (hb hby d7_2) rfl k) ?_
  have hc1 : ¬ (pn < (0 : Int64)) := hpn
  refine own_go (st' := s₁.setTop (mkF m 20 #[oj pn, .second] [])) (fun _ k => XS.ifYes X0.here hx rfl (pc0 := 3) (pc' := 20) rfl (hb hby d7_3) rfl ((if0 _ _).trans (flt (fun q_ => hc1 ((lw_lt pn (0 : Int64)).mp q_))).2.1) (by decide) (by decide) k) ?_
  refine own_go (st' := s₁.setTop (mkF m 21 #[oj pn, .second] [(.long pn)])) (fun _ k => XS.lloadN X0.here hx rfl (hb hby d7_20) rfl k) ?_
  obtain ⟨fs, hr, hrun, hended, hW, hsame⟩ := X0.leave (v := some (.long pn)) (fun h => by rw [Bd.returns] at h; cases h)
  refine ⟨_, _, ?_, hP _ _ hrun hended ⟨_, _, rfl, ?_, ⟨_, rfl⟩, hW, hsame.mono (by decide) (by decide)⟩⟩
  · exact retOut X0 hx Bd.returns rfl (Or.inr (Or.inl ⟨rfl, rfl, _, rfl⟩)) (hb hby d7_21) hr
  · show Qrm7 Z pn h0 n0 _ s₁.heap _
    rw [e0]
    exact ⟨rfl, N0, rfl⟩
theorem pd_8 : parseMethodDescriptor "(Ljava/lang/Object;Ljava/lang/String;)Ljava/lang/Object;" = some ⟨[(.object "java/lang/Object"), (.object "java/lang/String")], some (.object "java/lang/Object")⟩ := by decide +kernel
theorem pd_9 : parseMethodDescriptor "(J)J" = some ⟨[.long], some .long⟩ := by decide +kernel
theorem d5_0 : decode prog_21_method_2_code 0 = .ok (.aload_n 0, 1) := by decide +kernel
theorem d5_1 : decode prog_21_method_2_code 1 = .ok (.invokespecial 9, 3) := by decide +kernel
theorem d5_4 : decode prog_21_method_2_code 4 = .ok (.aload_n 3, 1) := by decide +kernel
theorem d5_5 : decode prog_21_method_2_code 5 = .ok (.ldc 14, 2) := by decide +kernel
theorem d5_7 : decode prog_21_method_2_code 7 = .ok (.invokestatic 16, 3) := by decide +kernel
theorem d5_10 : decode prog_21_method_2_code 10 = .ok (.pop, 1) := by decide +kernel
theorem d5_11 : decode prog_21_method_2_code 11 = .ok (.aload_n 0, 1) := by decide +kernel
theorem d5_12 : decode prog_21_method_2_code 12 = .ok (.lload_n 1, 1) := by decide +kernel
theorem d5_13 : decode prog_21_method_2_code 13 = .ok (.invokestatic 22, 3) := by decide +kernel
theorem d5_16 : decode prog_21_method_2_code 16 = .ok (.putfield 28, 3) := by decide +kernel
theorem d5_19 : decode prog_21_method_2_code 19 = .ok (.aload_n 0, 1) := by decide +kernel
theorem d5_20 : decode prog_21_method_2_code 20 = .ok (.aload_n 3, 1) := by decide +kernel
theorem d5_21 : decode prog_21_method_2_code 21 = .ok (.putfield 32, 3) := by decide +kernel
theorem d5_24 : decode prog_21_method_2_code 24 = .ok (.return_, 1) := by decide +kernel
theorem pn_5 : plainName "com/example/limpet/limpet/OffsetAndMetadata" = true := by first | (simp [plainName, overriddenIn]; done) | decide +kernel
theorem ef_rm5 (m : MethodId) (x0 : Addr) (x1 : Int64) (x2 : Addr) : entryFrame m #[(.ref x0), (.long x1), (.ref x2)] 4 = mkF m 0 #[.val (.ref x0), .val (.long x1), .second, .val (.ref x2)] [] := by first | (simp [entryFrame, mkF, argsToLocals, Value.category]; done) | rfl
def Qrm5 (Z : State) (ap : Addr) (a1 : Addr) (pn : Int64) (pm : Int64) (h0 : Heap) (n0 : Nat) (v : Option Value) (h : Heap) (L : List Loc) : Prop := (v = none) ∧ (Fr n0 L) ∧ (Keep h0 h [ap]) ∧ (Exa Z h ap "com/example/limpet/limpet/OffsetAndMetadata") ∧ (Fld Z h ap "com/example/limpet/limpet/OffsetAndMetadata" "metadata" "Ljava/lang/String;" (.ref a1)) ∧ (Fld Z h ap "com/example/limpet/limpet/OffsetAndMetadata" "offset" "J" (.long pn))
set_option maxRecDepth 65536 in
set_option maxHeartbeats 40000000 in
theorem rm5 (l : Launch) (Z : State) (a0 : Array Value) (hw : ∀ d ∈ tables_1, d.before a0 Z = true) (ws : List Jvm.Cond) (ap : Addr) (a1 : Addr) (pn : Int64) (pm : Int64) (h0 : Heap) (n0 : Nat) (Z0 : n0 ≤ h0.size) (pr1 : Exa Z h0 ap oS1) (pr2 : Fld Z h0 ap oS1 "metadata" oS3 .null) (pr3 : Fld Z h0 ap oS1 "offset" "J" (.long pm)) (pr4 : n0 ≤ ap) (hpn : ¬ pn < (0 : Int64)) :
    MetFree l oM10 (head1 (Jvm.Cond.code oM10 prog_21_method_2_code 4 none :: ws) ({ frames := 1, cells := 2, slots := 36, locals := 14 } : Room)) (fun a U => a = #[(.ref ap), (.long pn), (.ref a1)] ∧ Z.Warmed39 U.vm ∧ U.heap = h0 ∧ CHv Z own_EL U.vm h0) (fun _ _ _ _ _ => True) (fun _ U o U' => ∃ v L, o = .returned v ∧ Qrm5 Z ap a1 pn pm h0 n0 v U'.heap L ∧ CHr Z own_EL U.vm U.heap U'.vm U'.heap ∧ ReturnedEndW U o U' L ({ frames := 1, cells := 2, slots := 36, locals := 14 } : Room).cells ({ frames := 1, cells := 2, slots := 36, locals := 14 } : Room).slots) := by
  refine MetFree.of_bodySF (plainFor_of_name pn_5) hisR ?_
  intro p e s m args below meth c s₁ Bd hml0 hP0 hK
  obtain ⟨rfl, hZ, hh, hC0⟩ := hP0
  have hx := Bd.exec
  have hby := Bd.bytes
  have hml : c.maxLocals = 4 := hml0
  have hown : s.vm.findClass oS1 = some m.cls := findClass_of_methodNamed Bd.named
  have hnm := (name_of_methodNamed Bd.named Bd.method).1
  have X0 : Stand p l e ({ frames := 1, cells := 2, slots := 36, locals := 14 } : Room) (s.setVm s.vm) m #[(.ref ap), (.long pn), (.ref a1)] below meth c s₁ [] 0 0 := Stand.of_body Bd
  have hS0 : s.Since s.vm h0.size := (State.WarmedH.refl s).since _
  have hZ : Z.Warmed39 (s.setVm s.vm).vm := hZ
  have hown : (s.setVm s.vm).vm.findClass oS1 = some m.cls := hown
  have e0 : s₁.heap = h0 := by rw [← hh, Bd.state]; rfl
  have N0 := Fr.nil n0
  suffices own_H : ∀ (P : State → Outcome → Prop), (∀ U o, U.status = .running → Ended U below o → (∃ v L, o = .returned v ∧ Qrm5 Z ap a1 pn pm h0 n0 v U.heap L ∧ CHr Z own_EL s.vm s.heap U.vm U.heap ∧ ReturnedEndW s o U L ({ frames := 1, cells := 2, slots := 36, locals := 14 } : Room).cells ({ frames := 1, cells := 2, slots := 36, locals := 14 } : Room).slots) → P U o) → own_Go p.tables e below P (s₁.setTop (mkF m 0 #[oR ap, oj pn, .second, oR a1] [])) from own_go (fun _ k => castTop (ef_rm5 m ap pn a1) k) (own_H _ (fun U o h1 h2 h3 => ⟨h1, h2, h3⟩))
  intro P hP
  have hEL : EW Z a0 own_EL := own_ew hw
  have A0 : CHr Z own_EL s.vm h0 s.vm h0 := CHr.refl hC0
  have lt_ap : @LT.lt Nat _ ap h0.size := pr1.lt
  refine own_go (st' := s₁.setTop (mkF m 1 #[oR ap, oj pn, .second, oR a1] [(.ref ap)])) (fun _ k => XS.aloadN X0.here hx rfl (hb hby d5_0) rfl rfl k) ?_
  obtain ⟨T1, X1, e1, st1⟩ := initO X0 hx hZ hown (own_hw hw 33) (own_hw hw 20) (own_hw hw 21) e0 (g := (mkF m 1 #[oR ap, oj pn, .second, oR a1] [(.ref ap)])) rfl (by rw [hml]; rfl) rfl (hb hby d5_1) (by decide) (W := 0) (by show 2 * 0 + _ ≤ _; exact Nat.le_of_eq rfl) (by decide)
  refine own_go (st' := T1.setTop (mkF m 4 #[oR ap, oj pn, .second, oR a1] [])) (st1) ?_
  refine own_go (st' := T1.setTop (mkF m 5 #[oR ap, oj pn, .second, oR a1] [(.ref a1)])) (fun _ k => XS.aloadN X1.here hx rfl (hb hby d5_4) rfl rfl k) ?_
  obtain ⟨b2, T2, h2, k2, X2, e2, E2, hS2, hk2, hZ, hown, CR2, LT2, st2⟩ := ldcOH X1 hx hZ hown (own_hw hw 34) (own_wS hw) e1 hS0 (by omega) hEL A0.1 (g := (mkF m 5 #[oR ap, oj pn, .second, oR a1] [(.ref a1)])) rfl (hb hby d5_5) (n := 32) (by decide +kernel) (by decide) (by decide) (by decide)
  have sz2 : h0.size ≤ h2.size := E2.1
  have AA3 := A0.trans CR2
  have c4 : Exa Z h2 ap oS1 := (pr1.ext E2)
  refine own_go (st' := T2.setTop (mkF m 7 #[oR ap, oj pn, .second, oR a1] [(.ref b2), (.ref a1)])) (st2) ?_
  obtain ⟨_, _, ⟨T5, LC5, kC5, nC5⟩, -, X5, ⟨Lc5, hQ5, lq5, yq5, zq5⟩, st5⟩ := Jvm.LawKit.callS X2 hx (y := oM14) hown (mvT hZ (own_hw hw 35)) (mvT hZ (own_hw hw 36)) (mvT hZ (own_hw hw 37)) (mvT hZ (own_hw hw 38)) (by decide) (backOf (W := 0) (rm6 l Z a0 hw [] a1 b2 h2 n0 (by omega) ) hZ (own_hw hw 38) (own_hw hw 37) (by decide) (by decide)) (g := (mkF m 7 #[oR ap, oj pn, .second, oR a1] [(.ref b2), (.ref a1)])) rfl (by rw [hml]; rfl) (argsL := [(.ref a1), (.ref b2)]) (rest := []) (lenOf pd_8 rfl) rfl (by show 2 * 0 + _ ≤ _; exact Nat.le_of_eq rfl) (hb hby d5_7) (fun _ _ => ⟨rfl, e2, (by decide : 2 + 0 ≤ _), (by decide : 36 + 0 ≤ _)⟩)
  dsimp only [Pt.U, Pt.locs, Pt.cells, Pt.slots] at X5 lq5 yq5 zq5 st5 hQ5
  subst lq5 yq5 zq5
  obtain ⟨rfl, Nq5, eq5⟩ := hQ5
  have N5 := Fr.app N0 Nq5
  refine own_go (st' := T5.setTop (mkF m 10 #[oR ap, oj pn, .second, oR a1] [(.ref a1)])) (fun t k => st5 t k) ?_
  refine own_go (st' := T5.setTop (mkF m 11 #[oR ap, oj pn, .second, oR a1] [])) (fun _ k => XS.pop X5.here hx rfl (hb hby d5_10) rfl rfl k) ?_
  refine own_go (st' := T5.setTop (mkF m 12 #[oR ap, oj pn, .second, oR a1] [(.ref ap)])) (fun _ k => XS.aloadN X5.here hx rfl (hb hby d5_11) rfl rfl k) ?_
  refine own_go (st' := T5.setTop (mkF m 13 #[oR ap, oj pn, .second, oR a1] [(.long pn), (.ref ap)])) (fun _ k => XS.lloadN X5.here hx rfl (hb hby d5_12) rfl k) ?_
  obtain ⟨_, _, ⟨T6, LC6, kC6, nC6⟩, -, X6, ⟨Lc6, hQ6, lq6, yq6, zq6⟩, st6⟩ := Jvm.LawKit.callS X5 hx (y := oM15) hown (mvT hZ (own_hw hw 39)) (mvT hZ (own_hw hw 40)) (mvT hZ (own_hw hw 41)) (mvT hZ (own_hw hw 42)) (by decide) (backOf (W := 1) (rm7 l Z a0 hw [] pn h2 n0 (by omega) hpn) hZ (own_hw hw 42) (own_hw hw 41) (by decide) (by decide)) (g := (mkF m 13 #[oR ap, oj pn, .second, oR a1] [(.long pn), (.ref ap)])) rfl (by rw [hml]; rfl) (argsL := [(.long pn)]) (rest := [(.ref ap)]) (lenOf pd_9 rfl) rfl (by show 2 * 0 + _ ≤ _; exact Nat.le_of_eq rfl) (hb hby d5_13) (fun _ _ => ⟨rfl, eq5, (by decide : 2 + 0 ≤ _), (by decide : 36 + 0 ≤ _)⟩)
  dsimp only [Pt.U, Pt.locs, Pt.cells, Pt.slots] at X6 lq6 yq6 zq6 st6 hQ6
  subst lq6 yq6 zq6
  obtain ⟨rfl, Nq6, eq6⟩ := hQ6
  have N6 := Fr.app N5 Nq6
  refine own_go (st' := T6.setTop (mkF m 16 #[oR ap, oj pn, .second, oR a1] [(.long pn), (.ref ap)])) (fun t k => st6 t k) ?_
  have c7 : Fld Z h2 ap oS1 "offset" "J" (.long pm) := (pr3.ext E2)
  obtain ⟨T8, h8, X8, e8, W8, st8⟩ := putF X6 hx hZ hown (host := "") (Or.inl (own_hw hw 43)) Via.refl eq6 c7 c4 (Or.inr ⟨(own_hw hw 44), rfl, hnm⟩) (own_hw hw 2) (ty := .long) (by decide) rfl rfl (g := (mkF m 16 #[oR ap, oj pn, .second, oR a1] [(.long pn), (.ref ap)])) rfl rfl (hb hby d5_16)
  have sz8 : h8.size = h2.size := W8.size
  have N8 := Fr.snoc X8 N6 (by omega)
  have f8 : Fld Z h8 ap oS1 "offset" "J" (.long pn) := c7.same W8
  refine own_go (st' := T8.setTop (mkF m 19 #[oR ap, oj pn, .second, oR a1] [])) (st8) ?_
  refine own_go (st' := T8.setTop (mkF m 20 #[oR ap, oj pn, .second, oR a1] [(.ref ap)])) (fun _ k => XS.aloadN X8.here hx rfl (hb hby d5_19) rfl rfl k) ?_
  refine own_go (st' := T8.setTop (mkF m 21 #[oR ap, oj pn, .second, oR a1] [(.ref a1), (.ref ap)])) (fun _ k => XS.aloadN X8.here hx rfl (hb hby d5_20) rfl rfl k) ?_
  have c9 : Fld Z h8 ap oS1 "metadata" oS3 .null := ((pr2.ext E2).other W8 (Or.inr (slot_ne (Or.inr (own_hw hw 46)) (Or.inr (own_hw hw 44)) (by decide) (t := (.object oS0)) (t' := .long) (by decide) (by decide))))
  have c10 : Exa Z h8 ap oS1 := (c4.wr W8)
  obtain ⟨T11, h11, X11, e11, W11, st11⟩ := putF X8 hx hZ hown (host := "") (Or.inl (own_hw hw 45)) Via.refl e8 c9 c10 (Or.inr ⟨(own_hw hw 46), rfl, hnm⟩) (own_hw hw 2) (ty := (.object oS0)) (by decide) rfl rfl (g := (mkF m 21 #[oR ap, oj pn, .second, oR a1] [(.ref a1), (.ref ap)])) rfl rfl (hb hby d5_21)
  have sz11 : h11.size = h8.size := W11.size
  have N11 := Fr.snoc X11 N8 (by omega)
  have f11 : Fld Z h11 ap oS1 "metadata" oS3 (.ref a1) := c9.same W11
  refine own_go (st' := T11.setTop (mkF m 24 #[oR ap, oj pn, .second, oR a1] [])) (st11) ?_
  have KA13 : Keep h2 h11 [ap] := (((Keep.refl h2 [ap]).wr W8 (Or.inl (List.mem_of_getElem? (i := 0) rfl))).wr W11 (Or.inl (List.mem_of_getElem? (i := 0) rfl)))
  have AS13 := CHr.keep (EL := own_EL) KA13 (allS (P := fun x => Safe Z own_EL _ h2 x) (Safe.exa hZ.alike c4 (by decide) (by decide)) all0) AA3.1
  have AA14 := AA3.trans AS13
  have c15 : Exa Z h11 ap oS1 := (c10.wr W11)
  obtain ⟨fs, hr, hrun, hended, hR1, hR2, hR3, hR4⟩ := X11.leaveW hS2 (by rw [e11]; omega) (v := none) (fun _ => rfl)
  refine ⟨_, _, ?_, hP _ _ hrun hended ⟨_, _, rfl, ?_, (by rw [hh]; show CHr Z own_EL s.vm h0 T11.vm T11.heap; rw [e11]; exact AA14.trans (CHv.at X11 hZ hEL AA14.1)), hR1, hR2, hR3, hR4.mono (by decide) (by decide)⟩⟩
  · exact X11.returnOut hx Bd.returns (hb hby d5_24) hr
  · show Qrm5 Z ap a1 pn pm h0 n0 _ T11.heap _
    have c16 : Fld Z h11 ap oS1 "offset" "J" (.long pn) := (f8.other W11 (Or.inr (slot_ne (Or.inr (own_hw hw 44)) (Or.inr (own_hw hw 46)) (by decide) (t := .long) (t' := (.object oS0)) (by decide) (by decide))))
    rw [e11]
    exact ⟨rfl, N11, ((((Keep.refl h0 [ap]).ext E2).wr W8 (Or.inl (List.mem_of_getElem? (i := 0) rfl))).wr W11 (Or.inl (List.mem_of_getElem? (i := 0) rfl))), c15, f11, c16⟩
theorem d11_0 : decode prog_21_method_4_code 0 = .ok (.aload_n 0, 1) := by decide +kernel
theorem d11_1 : decode prog_21_method_4_code 1 = .ok (.getfield 32, 3) := by decide +kernel
theorem d11_4 : decode prog_21_method_4_code 4 = .ok (.areturn, 1) := by decide +kernel
theorem pn_11 : plainName "com/example/limpet/limpet/OffsetAndMetadata" = true := by first | (simp [plainName, overriddenIn]; done) | decide +kernel
theorem ef_rm11 (m : MethodId) (x0 : Addr) : entryFrame m #[(.ref x0)] 1 = mkF m 0 #[.val (.ref x0)] [] := by first | (simp [entryFrame, mkF, argsToLocals, Value.category]; done) | rfl
def Qrm11 (Z : State) (ap : Addr) (a1 : Addr) (h0 : Heap) (n0 : Nat) (v : Option Value) (h : Heap) (L : List Loc) : Prop := (v = some (.ref a1)) ∧ (Fr n0 L) ∧ (h = h0)
set_option maxRecDepth 65536 in
set_option maxHeartbeats 40000000 in
theorem rm11 (l : Launch) (Z : State) (a0 : Array Value) (hw : ∀ d ∈ tables_1, d.before a0 Z = true) (ws : List Jvm.Cond) (ap : Addr) (a1 : Addr) (h0 : Heap) (n0 : Nat) (Z0 : n0 ≤ h0.size) (pr1 : Fld Z h0 ap oS1 "metadata" oS3 (.ref a1)) :
    MetFree l oM11 (head1 (Jvm.Cond.code oM11 prog_21_method_4_code 1 (some (.object oS0)) :: ws) ({ frames := 0, cells := 0, slots := 0, locals := 0 } : Room)) (fun a U => a = #[(.ref ap)] ∧ Z.Warmed39 U.vm ∧ U.heap = h0) (fun _ _ _ _ _ => True) (fun _ U o U' => ∃ v L, o = .returned v ∧ Qrm11 Z ap a1 h0 n0 v U'.heap L ∧ FrameEnd U o U' L ({ frames := 0, cells := 0, slots := 0, locals := 0 } : Room).cells ({ frames := 0, cells := 0, slots := 0, locals := 0 } : Room).slots) := by
  refine MetFree.of_bodySF (plainFor_of_name pn_11) hisR ?_
  intro p e s m args below meth c s₁ Bd hml0 hP0 hK
  obtain ⟨rfl, hZ, hh⟩ := hP0
  have hx := Bd.exec
  have hby := Bd.bytes
  have hml : c.maxLocals = 1 := hml0
  have hown : s.vm.findClass oS1 = some m.cls := findClass_of_methodNamed Bd.named
  have hnm := (name_of_methodNamed Bd.named Bd.method).1
  have X0 : Stand p l e ({ frames := 0, cells := 0, slots := 0, locals := 0 } : Room) s m #[(.ref ap)] below meth c s₁ [] 0 0 := Stand.of_body Bd
  have e0 : s₁.heap = h0 := by rw [← hh, Bd.state]; rfl
  have N0 := Fr.nil n0
  suffices own_H : ∀ (P : State → Outcome → Prop), (∀ U o, U.status = .running → Ended U below o → (∃ v L, o = .returned v ∧ Qrm11 Z ap a1 h0 n0 v U.heap L ∧ FrameEnd s o U L ({ frames := 0, cells := 0, slots := 0, locals := 0 } : Room).cells ({ frames := 0, cells := 0, slots := 0, locals := 0 } : Room).slots) → P U o) → own_Go p.tables e below P (s₁.setTop (mkF m 0 #[oR ap] [])) from own_go (fun _ k => castTop (ef_rm11 m ap) k) (own_H _ (fun U o h1 h2 h3 => ⟨h1, h2, h3⟩))
  intro P hP
  have lt_ap : @LT.lt Nat _ ap h0.size := pr1.lt
  refine own_go (st' := s₁.setTop (mkF m 1 #[oR ap] [(.ref ap)])) (fun _ k => XS.aloadN X0.here hx rfl (hb hby d11_0) rfl rfl k) ?_
  obtain ⟨T1, X1, e1, st1⟩ := getF X0 hx hZ hown (host := "") (Or.inl (own_hw hw 45)) Via.refl e0 pr1 (g := (mkF m 1 #[oR ap] [(.ref ap)])) rfl rfl (hb hby d11_1)
  refine own_go (st' := T1.setTop (mkF m 4 #[oR ap] [(.ref a1)])) (st1) ?_
  obtain ⟨fs, hr, hrun, hended, hW, hsame⟩ := X1.leave (v := some (.ref a1)) (fun h => by rw [Bd.returns] at h; cases h)
  refine ⟨_, _, ?_, hP _ _ hrun hended ⟨_, _, rfl, ?_, ⟨_, rfl⟩, hW, hsame.mono (by decide) (by decide)⟩⟩
  · exact retOut X1 hx Bd.returns rfl (Or.inr (Or.inr (Or.inr (Or.inr ⟨rfl, rfl, rfl⟩)))) (hb hby d11_4) hr
  · show Qrm11 Z ap a1 h0 n0 _ T1.heap _
    rw [e1]
    exact ⟨rfl, N0, rfl⟩
theorem pd_10 : parseMethodDescriptor "(Ljava/lang/Object;)Z" = some ⟨[(.object "java/lang/Object")], some .boolean⟩ := by decide +kernel
theorem d8_0 : decode prog_21_method_5_code 0 = .ok (.aload_n 1, 1) := by decide +kernel
theorem d8_1 : decode prog_21_method_5_code 1 = .ok (.instanceof 4, 3) := by decide +kernel
theorem d8_4 : decode prog_21_method_5_code 4 = .ok (.ifCond .eq 38, 3) := by decide +kernel
theorem d8_7 : decode prog_21_method_5_code 7 = .ok (.aload_n 1, 1) := by decide +kernel
theorem d8_8 : decode prog_21_method_5_code 8 = .ok (.checkcast 4, 3) := by decide +kernel
theorem d8_11 : decode prog_21_method_5_code 11 = .ok (.astore_n 2, 1) := by decide +kernel
theorem d8_12 : decode prog_21_method_5_code 12 = .ok (.aload_n 0, 1) := by decide +kernel
theorem d8_13 : decode prog_21_method_5_code 13 = .ok (.getfield 28, 3) := by decide +kernel
theorem d8_16 : decode prog_21_method_5_code 16 = .ok (.aload_n 2, 1) := by decide +kernel
theorem d8_17 : decode prog_21_method_5_code 17 = .ok (.getfield 28, 3) := by decide +kernel
theorem d8_20 : decode prog_21_method_5_code 20 = .ok (.lcmp, 1) := by decide +kernel
theorem d8_21 : decode prog_21_method_5_code 21 = .ok (.ifCond .ne 21, 3) := by decide +kernel
theorem d8_24 : decode prog_21_method_5_code 24 = .ok (.aload_n 0, 1) := by decide +kernel
theorem d8_25 : decode prog_21_method_5_code 25 = .ok (.getfield 32, 3) := by decide +kernel
theorem d8_28 : decode prog_21_method_5_code 28 = .ok (.aload_n 2, 1) := by decide +kernel
theorem d8_29 : decode prog_21_method_5_code 29 = .ok (.getfield 32, 3) := by decide +kernel
theorem d8_32 : decode prog_21_method_5_code 32 = .ok (.invokevirtual 35, 3) := by decide +kernel
theorem d8_35 : decode prog_21_method_5_code 35 = .ok (.ifCond .eq 7, 3) := by decide +kernel
theorem d8_38 : decode prog_21_method_5_code 38 = .ok (.iconst 1, 1) := by decide +kernel
theorem d8_39 : decode prog_21_method_5_code 39 = .ok (.goto 4, 3) := by decide +kernel
theorem d8_43 : decode prog_21_method_5_code 43 = .ok (.ireturn, 1) := by decide +kernel
theorem pn_8 : plainName "com/example/limpet/limpet/OffsetAndMetadata" = true := by first | (simp [plainName, overriddenIn]; done) | decide +kernel
theorem ef_rte_self (m : MethodId) (x0 : Addr) (x1 : Addr) : entryFrame m #[(.ref x0), (.ref x1)] 3 = mkF m 0 #[.val (.ref x0), .val (.ref x1), .unset] [] := by first | (simp [entryFrame, mkF, argsToLocals, Value.category]; done) | rfl
def Qrte_self (Z : State) (ap : Addr) (a1 : Addr) (pn : Int64) (h0 : Heap) (n0 : Nat) (v : Option Value) (h : Heap) (L : List Loc) : Prop := (v = some (.int (1 : Int32))) ∧ (Fr n0 L) ∧ (h = h0)
set_option maxRecDepth 65536 in
set_option maxHeartbeats 40000000 in
theorem rte_self (l : Launch) (Z : State) (a0 : Array Value) (hw : ∀ d ∈ tables_1, d.before a0 Z = true) (ws : List Jvm.Cond) (ap : Addr) (a1 : Addr) (pn : Int64) (h0 : Heap) (n0 : Nat) (Z0 : n0 ≤ h0.size) (pr1 : Exa Z h0 ap oS1) (pr2 : Fld Z h0 ap oS1 "metadata" oS3 (.ref a1)) (pr3 : Fld Z h0 ap oS1 "offset" "J" (.long pn)) (pr4 : Exa Z h0 a1 oS0) :
    MetFree l oM1 (head1 (Jvm.Cond.code oM1 prog_21_method_5_code 3 (some .boolean) :: ws) ({ frames := 1, cells := 0, slots := 0, locals := 14 } : Room)) (fun a U => a = #[(.ref ap), (.ref ap)] ∧ Z.Warmed39 U.vm ∧ U.heap = h0) (fun _ _ _ _ _ => True) (fun _ U o U' => ∃ v L, o = .returned v ∧ Qrte_self Z ap a1 pn h0 n0 v U'.heap L ∧ FrameEnd U o U' L ({ frames := 1, cells := 0, slots := 0, locals := 14 } : Room).cells ({ frames := 1, cells := 0, slots := 0, locals := 14 } : Room).slots) := by
  refine MetFree.of_bodySF (plainFor_of_name pn_8) hisR ?_
  intro p e s m args below meth c s₁ Bd hml0 hP0 hK
  obtain ⟨rfl, hZ, hh⟩ := hP0
  have hx := Bd.exec
  have hby := Bd.bytes
  have hml : c.maxLocals = 3 := hml0
  have hown : s.vm.findClass oS1 = some m.cls := findClass_of_methodNamed Bd.named
  have hnm := (name_of_methodNamed Bd.named Bd.method).1
  have X0 : Stand p l e ({ frames := 1, cells := 0, slots := 0, locals := 14 } : Room) s m #[(.ref ap), (.ref ap)] below meth c s₁ [] 0 0 := Stand.of_body Bd
  have e0 : s₁.heap = h0 := by rw [← hh, Bd.state]; rfl
  have N0 := Fr.nil n0
  suffices own_H : ∀ (P : State → Outcome → Prop), (∀ U o, U.status = .running → Ended U below o → (∃ v L, o = .returned v ∧ Qrte_self Z ap a1 pn h0 n0 v U.heap L ∧ FrameEnd s o U L ({ frames := 1, cells := 0, slots := 0, locals := 14 } : Room).cells ({ frames := 1, cells := 0, slots := 0, locals := 14 } : Room).slots) → P U o) → own_Go p.tables e below P (s₁.setTop (mkF m 0 #[oR ap, oR ap, .unset] [])) from own_go (fun _ k => castTop (ef_rte_self m ap ap) k) (own_H _ (fun U o h1 h2 h3 => ⟨h1, h2, h3⟩))
  intro P hP
  have lt_ap : @LT.lt Nat _ ap h0.size := pr1.lt
  have lt_a1 : @LT.lt Nat _ a1 h0.size := pr4.lt
  refine own_go (st' := s₁.setTop (mkF m 1 #[oR ap, oR ap, .unset] [(.ref ap)])) (fun _ k => XS.aloadN X0.here hx rfl (hb hby d8_0) rfl rfl k) ?_
  obtain ⟨T1, X1, e1, st1⟩ := instY X0 hx hZ hown (own_hw hw 52) e0 (Ins.self pr1) (g := (mkF m 1 #[oR ap, oR ap, .unset] [(.ref ap)])) rfl rfl (hb hby d8_1)
  refine own_go (st' := T1.setTop (mkF m 4 #[oR ap, oR ap, .unset] [(.int (1 : Int32))])) (st1) ?_
  have hc2 : ¬ ((1 : Int32) = (0 : Int32)) := by decide
  refine own_go (st' := T1.setTop (mkF m 7 #[oR ap, oR ap, .unset] [])) (fun _ k => XS.ifNo X1.here hx rfl (hb hby d8_4) rfl ((if0 _ _).trans (feq hc2).1) k) ?_
  refine own_go (st' := T1.setTop (mkF m 8 #[oR ap, oR ap, .unset] [(.ref ap)])) (fun _ k => XS.aloadN X1.here hx rfl (hb hby d8_7) rfl rfl k) ?_
  obtain ⟨T3, X3, e3, st3⟩ := castY X1 hx hZ hown (own_hw hw 52) e1 (Ins.self pr1) (g := (mkF m 8 #[oR ap, oR ap, .unset] [(.ref ap)])) rfl rfl (hb hby d8_8)
  refine own_go (st' := T3.setTop (mkF m 11 #[oR ap, oR ap, .unset] [(.ref ap)])) (st3) ?_
  refine own_go (st' := T3.setTop (mkF m 12 #[oR ap, oR ap, oR ap] [])) (fun _ k => XS.astoreN X3.here hx rfl (hb hby d8_11) rfl rfl (l' := #[oR ap, oR ap, oR ap]) rfl k) ?_
  refine own_go (st' := T3.setTop (mkF m 13 #[oR ap, oR ap, oR ap] [(.ref ap)])) (fun _ k => XS.aloadN X3.here hx rfl (hb hby d8_12) rfl rfl k) ?_
  obtain ⟨T4, X4, e4, st4⟩ := getF X3 hx hZ hown (host := "") (Or.inl (own_hw hw 43)) Via.refl e3 pr3 (g := (mkF m 13 #[oR ap, oR ap, oR ap] [(.ref ap)])) rfl rfl (hb hby d8_13)
  refine own_go (st' := T4.setTop (mkF m 16 #[oR ap, oR ap, oR ap] [(.long pn)])) (st4) ?_
  refine own_go (st' := T4.setTop (mkF m 17 #[oR ap, oR ap, oR ap] [(.ref ap), (.long pn)])) (fun _ k => XS.aloadN X4.here hx rfl (hb hby d8_16) rfl rfl k) ?_
  obtain ⟨T5, X5, e5, st5⟩ := getF X4 hx hZ hown (host := "") (Or.inl (own_hw hw 43)) Via.refl e4 pr3 (g := (mkF m 17 #[oR ap, oR ap, oR ap] [(.ref ap), (.long pn)])) rfl rfl (hb hby d8_17)
  refine own_go (st' := T5.setTop (mkF m 20 #[oR ap, oR ap, oR ap] [(.long pn), (.long pn)])) (st5) ?_
  refine own_go (st' := T5.setTop (mkF m 21 #[oR ap, oR ap, oR ap] [(.int (lcmpW pn pn))])) (fun _ k => XS.lcmp X5.here hx rfl (hb hby d8_20) rfl k) ?_
  have hc6 : pn = pn := rfl
  refine own_go (st' := T5.setTop (mkF m 24 #[oR ap, oR ap, oR ap] [])) (fun _ k => XS.ifNo X5.here hx rfl (hb hby d8_21) rfl ((if0 _ _).trans (teq ((lw_eq pn pn).mpr hc6)).2) k) ?_
  refine own_go (st' := T5.setTop (mkF m 25 #[oR ap, oR ap, oR ap] [(.ref ap)])) (fun _ k => XS.aloadN X5.here hx rfl (hb hby d8_24) rfl rfl k) ?_
  obtain ⟨T7, X7, e7, st7⟩ := getF X5 hx hZ hown (host := "") (Or.inl (own_hw hw 45)) Via.refl e5 pr2 (g := (mkF m 25 #[oR ap, oR ap, oR ap] [(.ref ap)])) rfl rfl (hb hby d8_25)
  refine own_go (st' := T7.setTop (mkF m 28 #[oR ap, oR ap, oR ap] [(.ref a1)])) (st7) ?_
  refine own_go (st' := T7.setTop (mkF m 29 #[oR ap, oR ap, oR ap] [(.ref ap), (.ref a1)])) (fun _ k => XS.aloadN X7.here hx rfl (hb hby d8_28) rfl rfl k) ?_
  obtain ⟨T8, X8, e8, st8⟩ := getF X7 hx hZ hown (host := "") (Or.inl (own_hw hw 45)) Via.refl e7 pr2 (g := (mkF m 29 #[oR ap, oR ap, oR ap] [(.ref ap), (.ref a1)])) rfl rfl (hb hby d8_29)
  refine own_go (st' := T8.setTop (mkF m 32 #[oR ap, oR ap, oR ap] [(.ref a1), (.ref a1)])) (st8) ?_
  obtain ⟨cq9, kq9, q9a, q9b, q9c⟩ := isOf hZ e8 pr4
  obtain ⟨_, _, ⟨T9, LC9, kC9, nC9⟩, -, X9, ⟨Lc9, hQ9, lq9, yq9, zq9⟩, st9⟩ := X8.virtualBack hx (y := oM4) (z := oM4) hown (mvT hZ (own_hw hw 54)) (mvT hZ (own_hw hw 55)) (notFace_of_selects (args := #[]) (mvT hZ (own_hw hw 57))) (mvT hZ (own_hw hw 57)) (mvT hZ (own_hw hw 56)) (by decide) (backOf (W := 0) (rse_same l Z a0 hw [] a1 h0 n0 (by omega) ) hZ (own_hw hw 58) (own_hw hw 10) (by decide) (by decide)) q9a q9c (g := (mkF m 32 #[oR ap, oR ap, oR ap] [(.ref a1), (.ref a1)])) rfl (by rw [hml]; rfl) (Steps.refl _) (argsL := [(.ref a1)]) (rest := []) (lenOf pd_10 rfl) rfl (by show 2 * 0 + _ ≤ _; exact Nat.le_of_eq rfl) (hb hby d8_32) (fun _ _ => ⟨rfl, e8, (by decide : 0 + 0 ≤ _), (by decide : 0 + 0 ≤ _)⟩)
  dsimp only [Pt.U, Pt.locs, Pt.cells, Pt.slots] at X9 lq9 yq9 zq9 st9 hQ9
  subst lq9 yq9 zq9
  obtain ⟨rfl, Nq9, eq9⟩ := hQ9
  have N9 := Fr.app N0 Nq9
  refine own_go (st' := T9.setTop (mkF m 35 #[oR ap, oR ap, oR ap] [(.int (1 : Int32))])) (fun _ k => st9.trans k) ?_
  have hc10 : ¬ ((1 : Int32) = (0 : Int32)) := by decide
  refine own_go (st' := T9.setTop (mkF m 38 #[oR ap, oR ap, oR ap] [])) (fun _ k => XS.ifNo X9.here hx rfl (hb hby d8_35) rfl ((if0 _ _).trans (feq hc10).1) k) ?_
  refine own_go (st' := T9.setTop (mkF m 39 #[oR ap, oR ap, oR ap] [(.int (1 : Int32))])) (fun _ k => XS.iconst X9.here hx rfl (hb hby d8_38) k) ?_
  refine own_go (st' := T9.setTop (mkF m 43 #[oR ap, oR ap, oR ap] [(.int (1 : Int32))])) (fun _ k => XS.goto X9.here hx rfl (pc0 := 39) (pc' := 43) rfl (hb hby d8_39) (by decide) (by decide) k) ?_
  obtain ⟨fs, hr, hrun, hended, hW, hsame⟩ := X9.leave (v := some (.int (1 : Int32))) (fun h => by rw [Bd.returns] at h; cases h)
  refine ⟨_, _, ?_, hP _ _ hrun hended ⟨_, _, rfl, ?_, ⟨_, rfl⟩, hW, hsame.mono (by decide) (by decide)⟩⟩
  · exact retN X9 hx (t := .boolean) Bd.returns (by simp) (hb hby d8_43) hr
  · show Qrte_self Z ap a1 pn h0 n0 _ T9.heap _
    rw [eq9]
    exact ⟨rfl, N9, rfl⟩
theorem d8_42 : decode prog_21_method_5_code 42 = .ok (.iconst 0, 1) := by decide +kernel
theorem ef_rte_null (m : MethodId) (x0 : Addr) : entryFrame m #[(.ref x0), .null] 3 = mkF m 0 #[.val (.ref x0), .val .null, .unset] [] := by first | (simp [entryFrame, mkF, argsToLocals, Value.category]; done) | rfl
def Qrte_null (Z : State) (ap : Addr) (h0 : Heap) (n0 : Nat) (v : Option Value) (h : Heap) (L : List Loc) : Prop := (v = some (.int (0 : Int32))) ∧ (Fr n0 L) ∧ (h = h0)
set_option maxRecDepth 65536 in
set_option maxHeartbeats 40000000 in
theorem rte_null (l : Launch) (Z : State) (a0 : Array Value) (hw : ∀ d ∈ tables_1, d.before a0 Z = true) (ws : List Jvm.Cond) (ap : Addr) (h0 : Heap) (n0 : Nat) (Z0 : n0 ≤ h0.size)  :
    MetFree l oM1 (head1 (Jvm.Cond.code oM1 prog_21_method_5_code 3 (some .boolean) :: ws) ({ frames := 0, cells := 0, slots := 0, locals := 0 } : Room)) (fun a U => a = #[(.ref ap), .null] ∧ Z.Warmed39 U.vm ∧ U.heap = h0) (fun _ _ _ _ _ => True) (fun _ U o U' => ∃ v L, o = .returned v ∧ Qrte_null Z ap h0 n0 v U'.heap L ∧ FrameEnd U o U' L ({ frames := 0, cells := 0, slots := 0, locals := 0 } : Room).cells ({ frames := 0, cells := 0, slots := 0, locals := 0 } : Room).slots) := by
  refine MetFree.of_bodySF (plainFor_of_name pn_8) hisR ?_
  intro p e s m args below meth c s₁ Bd hml0 hP0 hK
  obtain ⟨rfl, hZ, hh⟩ := hP0
  have hx := Bd.exec
  have hby := Bd.bytes
  have hml : c.maxLocals = 3 := hml0
  have hown : s.vm.findClass oS1 = some m.cls := findClass_of_methodNamed Bd.named
  have hnm := (name_of_methodNamed Bd.named Bd.method).1
  have X0 : Stand p l e ({ frames := 0, cells := 0, slots := 0, locals := 0 } : Room) s m #[(.ref ap), .null] below meth c s₁ [] 0 0 := Stand.of_body Bd
  have e0 : s₁.heap = h0 := by rw [← hh, Bd.state]; rfl
  have N0 := Fr.nil n0
  suffices own_H : ∀ (P : State → Outcome → Prop), (∀ U o, U.status = .running → Ended U below o → (∃ v L, o = .returned v ∧ Qrte_null Z ap h0 n0 v U.heap L ∧ FrameEnd s o U L ({ frames := 0, cells := 0, slots := 0, locals := 0 } : Room).cells ({ frames := 0, cells := 0, slots := 0, locals := 0 } : Room).slots) → P U o) → own_Go p.tables e below P (s₁.setTop (mkF m 0 #[oR ap, .val .null, .unset] [])) from own_go (fun _ k => castTop (ef_rte_null m ap) k) (own_H _ (fun U o h1 h2 h3 => ⟨h1, h2, h3⟩))
  intro P hP
  refine own_go (st' := s₁.setTop (mkF m 1 #[oR ap, .val .null, .unset] [.null])) (fun _ k => XS.aloadN X0.here hx rfl (hb hby d8_0) rfl rfl k) ?_
  refine own_go (st' := s₁.setTop (mkF m 4 #[oR ap, .val .null, .unset] [(.int (0 : Int32))])) (X0.instanceofNull hx (g := (mkF m 1 #[oR ap, .val .null, .unset] [.null])) rfl rfl (hb hby d8_1)) ?_
  have hc1 : (0 : Int32) = (0 : Int32) := by decide
  refine own_go (st' := s₁.setTop (mkF m 42 #[oR ap, .val .null, .unset] [])) (fun _ k => XS.ifYes X0.here hx rfl (pc0 := 4) (pc' := 42) rfl (hb hby d8_4) rfl ((if0 _ _).trans (teq hc1).1) (by decide) (by decide) k) ?_
  refine own_go (st' := s₁.setTop (mkF m 43 #[oR ap, .val .null, .unset] [(.int (0 : Int32))])) (fun _ k => XS.iconst X0.here hx rfl (hb hby d8_42) k) ?_
  obtain ⟨fs, hr, hrun, hended, hW, hsame⟩ := X0.leave (v := some (.int (0 : Int32))) (fun h => by rw [Bd.returns] at h; cases h)
  refine ⟨_, _, ?_, hP _ _ hrun hended ⟨_, _, rfl, ?_, ⟨_, rfl⟩, hW, hsame.mono (by decide) (by decide)⟩⟩
  · exact retN X0 hx (t := .boolean) Bd.returns (by simp) (hb hby d8_43) hr
  · show Qrte_null Z ap h0 n0 _ s₁.heap _
    rw [e0]
    exact ⟨rfl, N0, rfl⟩
theorem ef_rte_str (m : MethodId) (x0 : Addr) (x1 : Addr) : entryFrame m #[(.ref x0), (.ref x1)] 3 = mkF m 0 #[.val (.ref x0), .val (.ref x1), .unset] [] := by first | (simp [entryFrame, mkF, argsToLocals, Value.category]; done) | rfl
def Qrte_str (Z : State) (ap : Addr) (aq : Addr) (h0 : Heap) (n0 : Nat) (v : Option Value) (h : Heap) (L : List Loc) : Prop := (v = some (.int (0 : Int32))) ∧ (Fr n0 L) ∧ (h = h0)
set_option maxRecDepth 65536 in
set_option maxHeartbeats 40000000 in
theorem rte_str (l : Launch) (Z : State) (a0 : Array Value) (hw : ∀ d ∈ tables_1, d.before a0 Z = true) (ws : List Jvm.Cond) (ap : Addr) (aq : Addr) (h0 : Heap) (n0 : Nat) (Z0 : n0 ≤ h0.size) (pr1 : Exa Z h0 aq oS0) :
    MetFree l oM1 (head1 (Jvm.Cond.code oM1 prog_21_method_5_code 3 (some .boolean) :: ws) ({ frames := 0, cells := 0, slots := 0, locals := 0 } : Room)) (fun a U => a = #[(.ref ap), (.ref aq)] ∧ Z.Warmed39 U.vm ∧ U.heap = h0) (fun _ _ _ _ _ => True) (fun _ U o U' => ∃ v L, o = .returned v ∧ Qrte_str Z ap aq h0 n0 v U'.heap L ∧ FrameEnd U o U' L ({ frames := 0, cells := 0, slots := 0, locals := 0 } : Room).cells ({ frames := 0, cells := 0, slots := 0, locals := 0 } : Room).slots) := by
  refine MetFree.of_bodySF (plainFor_of_name pn_8) hisR ?_
  intro p e s m args below meth c s₁ Bd hml0 hP0 hK
  obtain ⟨rfl, hZ, hh⟩ := hP0
  have hx := Bd.exec
  have hby := Bd.bytes
  have hml : c.maxLocals = 3 := hml0
  have hown : s.vm.findClass oS1 = some m.cls := findClass_of_methodNamed Bd.named
  have hnm := (name_of_methodNamed Bd.named Bd.method).1
  have X0 : Stand p l e ({ frames := 0, cells := 0, slots := 0, locals := 0 } : Room) s m #[(.ref ap), (.ref aq)] below meth c s₁ [] 0 0 := Stand.of_body Bd
  have e0 : s₁.heap = h0 := by rw [← hh, Bd.state]; rfl
  have N0 := Fr.nil n0
  suffices own_H : ∀ (P : State → Outcome → Prop), (∀ U o, U.status = .running → Ended U below o → (∃ v L, o = .returned v ∧ Qrte_str Z ap aq h0 n0 v U.heap L ∧ FrameEnd s o U L ({ frames := 0, cells := 0, slots := 0, locals := 0 } : Room).cells ({ frames := 0, cells := 0, slots := 0, locals := 0 } : Room).slots) → P U o) → own_Go p.tables e below P (s₁.setTop (mkF m 0 #[oR ap, oR aq, .unset] [])) from own_go (fun _ k => castTop (ef_rte_str m ap aq) k) (own_H _ (fun U o h1 h2 h3 => ⟨h1, h2, h3⟩))
  intro P hP
  have lt_aq : @LT.lt Nat _ aq h0.size := pr1.lt
  refine own_go (st' := s₁.setTop (mkF m 1 #[oR ap, oR aq, .unset] [(.ref aq)])) (fun _ k => XS.aloadN X0.here hx rfl (hb hby d8_0) rfl rfl k) ?_
  obtain ⟨T1, X1, e1, st1⟩ := instNo X0 hx hZ hown (own_hw hw 52) e0 pr1 (own_NS_no (own_hw hw 71) (own_hw hw 2) (NS.step (own_hw hw 71) (own_NS_root (own_hw hw 72) (own_hw hw 2) (by decide)) (by decide)) (by decide)) (g := (mkF m 1 #[oR ap, oR aq, .unset] [(.ref aq)])) rfl rfl (hb hby d8_1)
  refine own_go (st' := T1.setTop (mkF m 4 #[oR ap, oR aq, .unset] [(.int (0 : Int32))])) (st1) ?_
  have hc2 : (0 : Int32) = (0 : Int32) := by decide
  refine own_go (st' := T1.setTop (mkF m 42 #[oR ap, oR aq, .unset] [])) (fun _ k => XS.ifYes X1.here hx rfl (pc0 := 4) (pc' := 42) rfl (hb hby d8_4) rfl ((if0 _ _).trans (teq hc2).1) (by decide) (by decide) k) ?_
  refine own_go (st' := T1.setTop (mkF m 43 #[oR ap, oR aq, .unset] [(.int (0 : Int32))])) (fun _ k => XS.iconst X1.here hx rfl (hb hby d8_42) k) ?_
  obtain ⟨fs, hr, hrun, hended, hW, hsame⟩ := X1.leave (v := some (.int (0 : Int32))) (fun h => by rw [Bd.returns] at h; cases h)
  refine ⟨_, _, ?_, hP _ _ hrun hended ⟨_, _, rfl, ?_, ⟨_, rfl⟩, hW, hsame.mono (by decide) (by decide)⟩⟩
  · exact retN X1 hx (t := .boolean) Bd.returns (by simp) (hb hby d8_43) hr
  · show Qrte_str Z ap aq h0 n0 _ T1.heap _
    rw [e1]
    exact ⟨rfl, N0, rfl⟩
theorem ef_rte_lng (m : MethodId) (x0 : Addr) (x1 : Addr) : entryFrame m #[(.ref x0), (.ref x1)] 3 = mkF m 0 #[.val (.ref x0), .val (.ref x1), .unset] [] := by first | (simp [entryFrame, mkF, argsToLocals, Value.category]; done) | rfl
def Qrte_lng (Z : State) (ap : Addr) (aq : Addr) (h0 : Heap) (n0 : Nat) (v : Option Value) (h : Heap) (L : List Loc) : Prop := (v = some (.int (0 : Int32))) ∧ (Fr n0 L) ∧ (h = h0)
set_option maxRecDepth 65536 in
set_option maxHeartbeats 40000000 in
theorem rte_lng (l : Launch) (Z : State) (a0 : Array Value) (hw : ∀ d ∈ tables_1, d.before a0 Z = true) (ws : List Jvm.Cond) (ap : Addr) (aq : Addr) (h0 : Heap) (n0 : Nat) (Z0 : n0 ≤ h0.size) (pr1 : Exa Z h0 aq oS4) :
    MetFree l oM1 (head1 (Jvm.Cond.code oM1 prog_21_method_5_code 3 (some .boolean) :: ws) ({ frames := 0, cells := 0, slots := 0, locals := 0 } : Room)) (fun a U => a = #[(.ref ap), (.ref aq)] ∧ Z.Warmed39 U.vm ∧ U.heap = h0) (fun _ _ _ _ _ => True) (fun _ U o U' => ∃ v L, o = .returned v ∧ Qrte_lng Z ap aq h0 n0 v U'.heap L ∧ FrameEnd U o U' L ({ frames := 0, cells := 0, slots := 0, locals := 0 } : Room).cells ({ frames := 0, cells := 0, slots := 0, locals := 0 } : Room).slots) := by
  refine MetFree.of_bodySF (plainFor_of_name pn_8) hisR ?_
  intro p e s m args below meth c s₁ Bd hml0 hP0 hK
  obtain ⟨rfl, hZ, hh⟩ := hP0
  have hx := Bd.exec
  have hby := Bd.bytes
  have hml : c.maxLocals = 3 := hml0
  have hown : s.vm.findClass oS1 = some m.cls := findClass_of_methodNamed Bd.named
  have hnm := (name_of_methodNamed Bd.named Bd.method).1
  have X0 : Stand p l e ({ frames := 0, cells := 0, slots := 0, locals := 0 } : Room) s m #[(.ref ap), (.ref aq)] below meth c s₁ [] 0 0 := Stand.of_body Bd
  have e0 : s₁.heap = h0 := by rw [← hh, Bd.state]; rfl
  have N0 := Fr.nil n0
  suffices own_H : ∀ (P : State → Outcome → Prop), (∀ U o, U.status = .running → Ended U below o → (∃ v L, o = .returned v ∧ Qrte_lng Z ap aq h0 n0 v U.heap L ∧ FrameEnd s o U L ({ frames := 0, cells := 0, slots := 0, locals := 0 } : Room).cells ({ frames := 0, cells := 0, slots := 0, locals := 0 } : Room).slots) → P U o) → own_Go p.tables e below P (s₁.setTop (mkF m 0 #[oR ap, oR aq, .unset] [])) from own_go (fun _ k => castTop (ef_rte_lng m ap aq) k) (own_H _ (fun U o h1 h2 h3 => ⟨h1, h2, h3⟩))
  intro P hP
  have lt_aq : @LT.lt Nat _ aq h0.size := pr1.lt
  refine own_go (st' := s₁.setTop (mkF m 1 #[oR ap, oR aq, .unset] [(.ref aq)])) (fun _ k => XS.aloadN X0.here hx rfl (hb hby d8_0) rfl rfl k) ?_
  obtain ⟨T1, X1, e1, st1⟩ := instNo X0 hx hZ hown (own_hw hw 52) e0 pr1 (own_NS_no (own_hw hw 94) (own_hw hw 2) (NS.step (own_hw hw 94) (NS.step (own_hw hw 95) (own_NS_root (own_hw hw 72) (own_hw hw 2) (by decide)) (by decide)) (by decide)) (by decide)) (g := (mkF m 1 #[oR ap, oR aq, .unset] [(.ref aq)])) rfl rfl (hb hby d8_1)
  refine own_go (st' := T1.setTop (mkF m 4 #[oR ap, oR aq, .unset] [(.int (0 : Int32))])) (st1) ?_
  have hc2 : (0 : Int32) = (0 : Int32) := by decide
  refine own_go (st' := T1.setTop (mkF m 42 #[oR ap, oR aq, .unset] [])) (fun _ k => XS.ifYes X1.here hx rfl (pc0 := 4) (pc' := 42) rfl (hb hby d8_4) rfl ((if0 _ _).trans (teq hc2).1) (by decide) (by decide) k) ?_
  refine own_go (st' := T1.setTop (mkF m 43 #[oR ap, oR aq, .unset] [(.int (0 : Int32))])) (fun _ k => XS.iconst X1.here hx rfl (hb hby d8_42) k) ?_
  obtain ⟨fs, hr, hrun, hended, hW, hsame⟩ := X1.leave (v := some (.int (0 : Int32))) (fun h => by rw [Bd.returns] at h; cases h)
  refine ⟨_, _, ?_, hP _ _ hrun hended ⟨_, _, rfl, ?_, ⟨_, rfl⟩, hW, hsame.mono (by decide) (by decide)⟩⟩
  · exact retN X1 hx (t := .boolean) Bd.returns (by simp) (hb hby d8_43) hr
  · show Qrte_lng Z ap aq h0 n0 _ T1.heap _
    rw [e1]
    exact ⟨rfl, N0, rfl⟩
theorem ef_rte_gen (m : MethodId) (x0 : Addr) (x1 : Addr) : entryFrame m #[(.ref x0), (.ref x1)] 3 = mkF m 0 #[.val (.ref x0), .val (.ref x1), .unset] [] := by first | (simp [entryFrame, mkF, argsToLocals, Value.category]; done) | rfl
def Qrte_gen (Z : State) (ap : Addr) (aq : Addr) (pn : Int64) (pm : Int64) (a1 : Addr) (a2 : Addr) (zc : Int32) (ax : Addr) (ka : ClassId) (zn : Int32) (vs : List Value) (ay : Addr) (kb : ClassId) (zm : Int32) (vt : List Value) (h0 : Heap) (n0 : Nat) (v : Option Value) (h : Heap) (L : List Loc) : Prop := (v = some (.int (own_om pn pm (own_veq vs vt)))) ∧ (Fr n0 L) ∧ (h = h0)
set_option maxRecDepth 65536 in
set_option maxHeartbeats 40000000 in
theorem rte_gen (l : Launch) (Z : State) (a0 : Array Value) (hw : ∀ d ∈ tables_1, d.before a0 Z = true) (ws : List Jvm.Cond) (ap : Addr) (aq : Addr) (pn : Int64) (pm : Int64) (a1 : Addr) (a2 : Addr) (zc : Int32) (ax : Addr) (ka : ClassId) (zn : Int32) (vs : List Value) (ay : Addr) (kb : ClassId) (zm : Int32) (vt : List Value) (h0 : Heap) (n0 : Nat) (Z0 : n0 ≤ h0.size) (pr1 : Exa Z h0 ap oS1) (pr2 : Fld Z h0 ap oS1 "metadata" oS3 (.ref a1)) (pr3 : Fld Z h0 ap oS1 "offset" "J" (.long pn)) (pr4 : Exa Z h0 aq oS1) (pr5 : Fld Z h0 aq oS1 "metadata" oS3 (.ref a2)) (pr6 : Fld Z h0 aq oS1 "offset" "J" (.long pm)) (pr7 : Sta Z h0 oS0 oS2 "Z" (.int zc)) (hzc : ¬ zc = (0 : Int32)) (pr8 : @Ne Nat a1 a2) (pr9 : Exa Z h0 a1 oS0) (pr10 : Fld Z h0 a1 oS0 "value" "[B" (.ref ax)) (pr11 : Fld Z h0 a1 oS0 "coder" "B" (.int (0 : Int32))) (pr12 : Exa Z h0 a2 oS0) (pr13 : Fld Z h0 a2 oS0 "value" "[B" (.ref ay)) (pr14 : Fld Z h0 a2 oS0 "coder" "B" (.int (0 : Int32))) (pr15 : Arv Z h0 ax ka .byte zn vs (.int (0 : Int32))) (pr16 : Arv Z h0 ay kb .byte zm vt (.int (0 : Int32))) (hsh1 : own_sh zn vs) (hsh2 : own_sh zm vt) :
    MetFree l oM1 (head1 (Jvm.Cond.code oM1 prog_21_method_5_code 3 (some .boolean) :: ws) ({ frames := 2, cells := 0, slots := 0, locals := 28 } : Room)) (fun a U => a = #[(.ref ap), (.ref aq)] ∧ Z.Warmed39 U.vm ∧ U.heap = h0) (fun _ _ _ _ _ => True) (fun _ U o U' => ∃ v L, o = .returned v ∧ Qrte_gen Z ap aq pn pm a1 a2 zc ax ka zn vs ay kb zm vt h0 n0 v U'.heap L ∧ FrameEnd U o U' L ({ frames := 2, cells := 0, slots := 0, locals := 28 } : Room).cells ({ frames := 2, cells := 0, slots := 0, locals := 28 } : Room).slots) := by
  refine MetFree.of_bodySF (plainFor_of_name pn_8) hisR ?_
  intro p e s m args below meth c s₁ Bd hml0 hP0 hK
  obtain ⟨rfl, hZ, hh⟩ := hP0
  have hx := Bd.exec
  have hby := Bd.bytes
  have hml : c.maxLocals = 3 := hml0
  have hown : s.vm.findClass oS1 = some m.cls := findClass_of_methodNamed Bd.named
  have hnm := (name_of_methodNamed Bd.named Bd.method).1
  have X0 : Stand p l e ({ frames := 2, cells := 0, slots := 0, locals := 28 } : Room) s m #[(.ref ap), (.ref aq)] below meth c s₁ [] 0 0 := Stand.of_body Bd
  have e0 : s₁.heap = h0 := by rw [← hh, Bd.state]; rfl
  have N0 := Fr.nil n0
  suffices own_H : ∀ (P : State → Outcome → Prop), (∀ U o, U.status = .running → Ended U below o → (∃ v L, o = .returned v ∧ Qrte_gen Z ap aq pn pm a1 a2 zc ax ka zn vs ay kb zm vt h0 n0 v U.heap L ∧ FrameEnd s o U L ({ frames := 2, cells := 0, slots := 0, locals := 28 } : Room).cells ({ frames := 2, cells := 0, slots := 0, locals := 28 } : Room).slots) → P U o) → own_Go p.tables e below P (s₁.setTop (mkF m 0 #[oR ap, oR aq, .unset] [])) from own_go (fun _ k => castTop (ef_rte_gen m ap aq) k) (own_H _ (fun U o h1 h2 h3 => ⟨h1, h2, h3⟩))
  intro P hP
  have lt_ap : @LT.lt Nat _ ap h0.size := pr1.lt
  have lt_aq : @LT.lt Nat _ aq h0.size := pr4.lt
  have lt_a1 : @LT.lt Nat _ a1 h0.size := pr9.lt
  have lt_a2 : @LT.lt Nat _ a2 h0.size := pr12.lt
  have lt_ax : @LT.lt Nat _ ax h0.size := pr15.lt
  have lt_ay : @LT.lt Nat _ ay h0.size := pr16.lt
  refine own_go (st' := s₁.setTop (mkF m 1 #[oR ap, oR aq, .unset] [(.ref aq)])) (fun _ k => XS.aloadN X0.here hx rfl (hb hby d8_0) rfl rfl k) ?_
  obtain ⟨T1, X1, e1, st1⟩ := instY X0 hx hZ hown (own_hw hw 52) e0 (Ins.self pr4) (g := (mkF m 1 #[oR ap, oR aq, .unset] [(.ref aq)])) rfl rfl (hb hby d8_1)
  refine own_go (st' := T1.setTop (mkF m 4 #[oR ap, oR aq, .unset] [(.int (1 : Int32))])) (st1) ?_
  have hc2 : ¬ ((1 : Int32) = (0 : Int32)) := by decide
  refine own_go (st' := T1.setTop (mkF m 7 #[oR ap, oR aq, .unset] [])) (fun _ k => XS.ifNo X1.here hx rfl (hb hby d8_4) rfl ((if0 _ _).trans (feq hc2).1) k) ?_
  refine own_go (st' := T1.setTop (mkF m 8 #[oR ap, oR aq, .unset] [(.ref aq)])) (fun _ k => XS.aloadN X1.here hx rfl (hb hby d8_7) rfl rfl k) ?_
  obtain ⟨T3, X3, e3, st3⟩ := castY X1 hx hZ hown (own_hw hw 52) e1 (Ins.self pr4) (g := (mkF m 8 #[oR ap, oR aq, .unset] [(.ref aq)])) rfl rfl (hb hby d8_8)
  refine own_go (st' := T3.setTop (mkF m 11 #[oR ap, oR aq, .unset] [(.ref aq)])) (st3) ?_
  refine own_go (st' := T3.setTop (mkF m 12 #[oR ap, oR aq, oR aq] [])) (fun _ k => XS.astoreN X3.here hx rfl (hb hby d8_11) rfl rfl (l' := #[oR ap, oR aq, oR aq]) rfl k) ?_
  refine own_go (st' := T3.setTop (mkF m 13 #[oR ap, oR aq, oR aq] [(.ref ap)])) (fun _ k => XS.aloadN X3.here hx rfl (hb hby d8_12) rfl rfl k) ?_
  obtain ⟨T4, X4, e4, st4⟩ := getF X3 hx hZ hown (host := "") (Or.inl (own_hw hw 43)) Via.refl e3 pr3 (g := (mkF m 13 #[oR ap, oR aq, oR aq] [(.ref ap)])) rfl rfl (hb hby d8_13)
  refine own_go (st' := T4.setTop (mkF m 16 #[oR ap, oR aq, oR aq] [(.long pn)])) (st4) ?_
  refine own_go (st' := T4.setTop (mkF m 17 #[oR ap, oR aq, oR aq] [(.ref aq), (.long pn)])) (fun _ k => XS.aloadN X4.here hx rfl (hb hby d8_16) rfl rfl k) ?_
  obtain ⟨T5, X5, e5, st5⟩ := getF X4 hx hZ hown (host := "") (Or.inl (own_hw hw 43)) Via.refl e4 pr6 (g := (mkF m 17 #[oR ap, oR aq, oR aq] [(.ref aq), (.long pn)])) rfl rfl (hb hby d8_17)
  refine own_go (st' := T5.setTop (mkF m 20 #[oR ap, oR aq, oR aq] [(.long pm), (.long pn)])) (st5) ?_
  refine own_go (st' := T5.setTop (mkF m 21 #[oR ap, oR aq, oR aq] [(.int (lcmpW pn pm))])) (fun _ k => XS.lcmp X5.here hx rfl (hb hby d8_20) rfl k) ?_
  by_cases hc6 : pn = pm
  · --
    refine own_go (st' := T5.setTop (mkF m 24 #[oR ap, oR aq, oR aq] [])) (fun _ k => XS.ifNo X5.here hx rfl (hb hby d8_21) rfl ((if0 _ _).trans (teq ((lw_eq pn pm).mpr hc6)).2) k) ?_
    refine own_go (st' := T5.setTop (mkF m 25 #[oR ap, oR aq, oR aq] [(.ref ap)])) (fun _ k => XS.aloadN X5.here hx rfl (hb hby d8_24) rfl rfl k) ?_
    obtain ⟨T7, X7, e7, st7⟩ := getF X5 hx hZ hown (host := "") (Or.inl (own_hw hw 45)) Via.refl e5 pr2 (g := (mkF m 25 #[oR ap, oR aq, oR aq] [(.ref ap)])) rfl rfl (hb hby d8_25)
    refine own_go (st' := T7.setTop (mkF m 28 #[oR ap, oR aq, oR aq] [(.ref a1)])) (st7) ?_
    refine own_go (st' := T7.setTop (mkF m 29 #[oR ap, oR aq, oR aq] [(.ref aq), (.ref a1)])) (fun _ k => XS.aloadN X7.here hx rfl (hb hby d8_28) rfl rfl k) ?_
    obtain ⟨T8, X8, e8, st8⟩ := getF X7 hx hZ hown (host := "") (Or.inl (own_hw hw 45)) Via.refl e7 pr5 (g := (mkF m 29 #[oR ap, oR aq, oR aq] [(.ref aq), (.ref a1)])) rfl rfl (hb hby d8_29)
    refine own_go (st' := T8.setTop (mkF m 32 #[oR ap, oR aq, oR aq] [(.ref a2), (.ref a1)])) (st8) ?_
    obtain ⟨cq9, kq9, q9a, q9b, q9c⟩ := isOf hZ e8 pr9
    obtain ⟨_, _, ⟨T9, LC9, kC9, nC9⟩, -, X9, ⟨Lc9, hQ9, lq9, yq9, zq9⟩, st9⟩ := X8.virtualBack hx (y := oM4) (z := oM4) hown (mvT hZ (own_hw hw 54)) (mvT hZ (own_hw hw 55)) (notFace_of_selects (args := #[]) (mvT hZ (own_hw hw 57))) (mvT hZ (own_hw hw 57)) (mvT hZ (own_hw hw 56)) (by decide) (backOf (W := 0) (rse_gen l Z a0 hw [] a1 a2 zc ax ka zn vs ay kb zm vt h0 n0 (by omega) pr7 (by assumption) (own_ne (by omega)) pr9 pr10 pr11 pr12 pr13 pr14 pr15 pr16 hsh1 hsh2) hZ (own_hw hw 58) (own_hw hw 10) (by decide) (by decide)) q9a q9c (g := (mkF m 32 #[oR ap, oR aq, oR aq] [(.ref a2), (.ref a1)])) rfl (by rw [hml]; rfl) (Steps.refl _) (argsL := [(.ref a2)]) (rest := []) (lenOf pd_10 rfl) rfl (by show 2 * 0 + _ ≤ _; exact Nat.le_of_eq rfl) (hb hby d8_32) (fun _ _ => ⟨rfl, e8, (by decide : 0 + 0 ≤ _), (by decide : 0 + 0 ≤ _)⟩)
    dsimp only [Pt.U, Pt.locs, Pt.cells, Pt.slots] at X9 lq9 yq9 zq9 st9 hQ9
    subst lq9 yq9 zq9
    obtain ⟨rfl, Nq9, eq9⟩ := hQ9
    have N9 := Fr.app N0 Nq9
    refine own_go (st' := T9.setTop (mkF m 35 #[oR ap, oR aq, oR aq] [(.int (own_veq vs vt))])) (fun _ k => st9.trans k) ?_
    by_cases hc10 : (own_veq vs vt) = (0 : Int32)
    · --
      refine own_go (st' := T9.setTop (mkF m 42 #[oR ap, oR aq, oR aq] [])) (fun _ k => XS.ifYes X9.here hx rfl (pc0 := 35) (pc' := 42) rfl (hb hby d8_35) rfl ((if0 _ _).trans (teq hc10).1) (by decide) (by decide) k) ?_
      refine own_go (st' := T9.setTop (mkF m 43 #[oR ap, oR aq, oR aq] [(.int (0 : Int32))])) (fun _ k => XS.iconst X9.here hx rfl (hb hby d8_42) k) ?_
      obtain ⟨fs, hr, hrun, hended, hW, hsame⟩ := X9.leave (v := some (.int (0 : Int32))) (fun h => by rw [Bd.returns] at h; cases h)
      refine ⟨_, _, ?_, hP _ _ hrun hended ⟨_, _, rfl, ?_, ⟨_, rfl⟩, hW, hsame.mono (by decide) (by decide)⟩⟩
      · exact retN X9 hx (t := .boolean) Bd.returns (by simp) (hb hby d8_43) hr
      · show Qrte_gen Z ap aq pn pm a1 a2 zc ax ka zn vs ay kb zm vt h0 n0 _ T9.heap _
        rw [eq9]
        exact ⟨(by unfold own_om; rw [if_pos hc6, hc10]), N9, rfl⟩
    · --
      refine own_go (st' := T9.setTop (mkF m 38 #[oR ap, oR aq, oR aq] [])) (fun _ k => XS.ifNo X9.here hx rfl (hb hby d8_35) rfl ((if0 _ _).trans (feq hc10).1) k) ?_
      refine own_go (st' := T9.setTop (mkF m 39 #[oR ap, oR aq, oR aq] [(.int (1 : Int32))])) (fun _ k => XS.iconst X9.here hx rfl (hb hby d8_38) k) ?_
      refine own_go (st' := T9.setTop (mkF m 43 #[oR ap, oR aq, oR aq] [(.int (1 : Int32))])) (fun _ k => XS.goto X9.here hx rfl (pc0 := 39) (pc' := 43) rfl (hb hby d8_39) (by decide) (by decide) k) ?_
      obtain ⟨fs, hr, hrun, hended, hW, hsame⟩ := X9.leave (v := some (.int (1 : Int32))) (fun h => by rw [Bd.returns] at h; cases h)
      refine ⟨_, _, ?_, hP _ _ hrun hended ⟨_, _, rfl, ?_, ⟨_, rfl⟩, hW, hsame.mono (by decide) (by decide)⟩⟩
      · exact retN X9 hx (t := .boolean) Bd.returns (by simp) (hb hby d8_43) hr
      · show Qrte_gen Z ap aq pn pm a1 a2 zc ax ka zn vs ay kb zm vt h0 n0 _ T9.heap _
        rw [eq9]
        exact ⟨(by unfold own_om; rw [if_pos hc6, own_veq_one hc10]), N9, rfl⟩
  · --
    refine own_go (st' := T5.setTop (mkF m 42 #[oR ap, oR aq, oR aq] [])) (fun _ k => XS.ifYes X5.here hx rfl (pc0 := 21) (pc' := 42) rfl (hb hby d8_21) rfl ((if0 _ _).trans (feq (fun q_ => hc6 ((lw_eq pn pm).mp q_))).2) (by decide) (by decide) k) ?_
    refine own_go (st' := T5.setTop (mkF m 43 #[oR ap, oR aq, oR aq] [(.int (0 : Int32))])) (fun _ k => XS.iconst X5.here hx rfl (hb hby d8_42) k) ?_
    obtain ⟨fs, hr, hrun, hended, hW, hsame⟩ := X5.leave (v := some (.int (0 : Int32))) (fun h => by rw [Bd.returns] at h; cases h)
    refine ⟨_, _, ?_, hP _ _ hrun hended ⟨_, _, rfl, ?_, ⟨_, rfl⟩, hW, hsame.mono (by decide) (by decide)⟩⟩
    · exact retN X5 hx (t := .boolean) Bd.returns (by simp) (hb hby d8_43) hr
    · show Qrte_gen Z ap aq pn pm a1 a2 zc ax ka zn vs ay kb zm vt h0 n0 _ T5.heap _
      rw [e5]
      exact ⟨(by unfold own_om; rw [if_neg hc6]), N0, rfl⟩
theorem pd_11 : parseMethodDescriptor "(III)Ljava/lang/String;" = some ⟨[.int, .int, .int], some (.object "java/lang/String")⟩ := by decide +kernel
theorem pd_12 : parseMethodDescriptor "(JLjava/lang/String;)V" = some ⟨[.long, (.object "java/lang/String")], none⟩ := by decide +kernel
theorem pd_13 : parseMethodDescriptor "()Ljava/lang/String;" = some ⟨[], some (.object "java/lang/String")⟩ := by decide +kernel
theorem pd_14 : parseMethodDescriptor "(J)Ljava/lang/Long;" = some ⟨[.long], some (.object "java/lang/Long")⟩ := by decide +kernel
theorem pn_0 : plainName "com/example/limpet/limpet/OffsetAndMetadataEqualsPinLaw" = true := by first | (simp [plainName, overriddenIn]; done) | decide +kernel
theorem ef_rm0 (m : MethodId) (x0 : Int64) (x1 : Int64) (x2 : Int32) (x3 : Int32) (x4 : Int32) : entryFrame m #[(.long x0), (.long x1), (.int x2), (.int x3), (.int x4)] maxLocals = mkF m 0 #[.val (.long x0), .second, .val (.long x1), .second, .val (.int x2), .val (.int x3), .val (.int x4), .unset, .unset, .unset, .unset, .unset, .unset, .unset, .unset, .unset, .unset, .unset, .unset, .unset, .unset, .unset] [] := by first | (simp [entryFrame, mkF, argsToLocals, Value.category, maxLocals]; done) | rfl
def Qrm0 (Z : State) (p0 : Int64) (p2 : Int64) (p4 : Int32) (p5 : Int32) (p6 : Int32) (cal : Addr) (zc : Int32) (h0 : Heap) (n0 : Nat) (v : Option Value) (h : Heap) (L : List Loc) : Prop := v = some (.int 1) ∧ Fr n0 L ∧ True
set_option maxRecDepth 65536 in
set_option maxHeartbeats 40000000 in
theorem rm0 (l : Launch) (Z : State) (a0 : Array Value) (hw : ∀ d ∈ tables_1, d.before a0 Z = true) (ws : List Jvm.Cond) (p0 : Int64) (p2 : Int64) (p4 : Int32) (p5 : Int32) (p6 : Int32) (cal : Addr) (zc : Int32) (h0 : Heap) (n0 : Nat) (Z0 : n0 ≤ h0.size) (pr1 : Sta Z h0 "java/lang/Long$LongCache" "cache" "[Ljava/lang/Long;" (.ref cal)) (pr2 : own_CacheL Z h0 cal) (pr3 : Sta Z h0 oS0 oS2 "Z" (.int zc)) (hzc : ¬ zc = (0 : Int32)) :
    MetFree l x (head1 (Jvm.Cond.code x code maxLocals ret :: ws) room_1) (fun a U => a = #[(.long p0), (.long p2), (.int p4), (.int p5), (.int p6)] ∧ Z.Warmed39 U.vm ∧ U.heap = h0 ∧ CHv Z own_EL U.vm h0) (fun _ _ _ _ _ => True) (fun _ U o U' => ∃ v L, o = .returned v ∧ Qrm0 Z p0 p2 p4 p5 p6 cal zc h0 n0 v U'.heap L ∧ ReturnedEndW U o U' L 32 2176) := by
  refine MetFree.of_bodySF (plainFor_of_name pn_0) hisR ?_
  intro p e s m args below meth c s₁ Bd hml0 hP0 hK
  obtain ⟨rfl, hZ, hh, hC0⟩ := hP0
  have hx := Bd.exec
  have hby := Bd.bytes
  have hml : c.maxLocals = 22 := hml0
  have hown : s.vm.findClass oS6 = some m.cls := findClass_of_methodNamed Bd.named
  have hnm := (name_of_methodNamed Bd.named Bd.method).1
  have X0 : Stand p l e room_1 (s.setVm s.vm) m #[(.long p0), (.long p2), (.int p4), (.int p5), (.int p6)] below meth c s₁ [] 0 0 := Stand.of_body Bd
  have hS0 : s.Since s.vm h0.size := (State.WarmedH.refl s).since _
  have hZ : Z.Warmed39 (s.setVm s.vm).vm := hZ
  have hown : (s.setVm s.vm).vm.findClass oS6 = some m.cls := hown
  have e0 : s₁.heap = h0 := by rw [← hh, Bd.state]; rfl
  have N0 := Fr.nil n0
  suffices own_H : ∀ (P : State → Outcome → Prop), (∀ U o, U.status = .running → Ended U below o → (∃ v L, o = .returned v ∧ Qrm0 Z p0 p2 p4 p5 p6 cal zc h0 n0 v U.heap L ∧ ReturnedEndW s o U L 32 2176) → P U o) → own_Go p.tables e below P (s₁.setTop (mkF m 0 #[oj p0, .second, oj p2, .second, oi p4, oi p5, oi p6, .unset, .unset, .unset, .unset, .unset, .unset, .unset, .unset, .unset, .unset, .unset, .unset, .unset, .unset, .unset] [])) from own_go (fun _ k => castTop (ef_rm0 m p0 p2 p4 p5 p6) k) (own_H _ (fun U o h1 h2 h3 => ⟨h1, h2, h3⟩))
  intro P hP
  have hEL : EW Z a0 own_EL := own_ew hw
  have A0 : CHr Z own_EL s.vm h0 s.vm h0 := CHr.refl hC0
  have lt_cal : @LT.lt Nat _ cal h0.size := own_CacheL_lt pr2
  refine own_go (st' := s₁.setTop (mkF m 1 #[oj p0, .second, oj p2, .second, oi p4, oi p5, oi p6, .unset, .unset, .unset, .unset, .unset, .unset, .unset, .unset, .unset, .unset, .unset, .unset, .unset, .unset, .unset] [(.long p0)])) (fun _ k => XS.lloadN X0.here hx rfl (hb hby at_0) rfl k) ?_
  refine own_go (st' := s₁.setTop (mkF m 4 #[oj p0, .second, oj p2, .second, oi p4, oi p5, oi p6, .unset, .unset, .unset, .unset, .unset, .unset, .unset, .unset, .unset, .unset, .unset, .unset, .unset, .unset, .unset] [(.long (9223372036854775807 : Int64)), (.long p0)])) (X0.ldc2Long hx hown (mvT hZ (own_hw hw 0)) (g := (mkF m 1 #[oj p0, .second, oj p2, .second, oi p4, oi p5, oi p6, .unset, .unset, .unset, .unset, .unset, .unset, .unset, .unset, .unset, .unset, .unset, .unset, .unset, .unset, .unset] [(.long p0)])) rfl (hb hby at_1)) ?_
  obtain ⟨m7, hm7⟩ : ∃ z : Int64, z = (p0 &&& (9223372036854775807 : Int64)) := ⟨_, rfl⟩
  refine own_go (st' := s₁.setTop (mkF m 5 #[oj p0, .second, oj p2, .second, oi p4, oi p5, oi p6, .unset, .unset, .unset, .unset, .unset, .unset, .unset, .unset, .unset, .unset, .unset, .unset, .unset, .unset, .unset] [(.long m7)])) (fun _ k => XS.land X0.here hx rfl (hb hby at_4) rfl (by rw [hm7] at k; exact k)) ?_
  refine own_go (st' := s₁.setTop (mkF m 7 #[oj p0, .second, oj p2, .second, oi p4, oi p5, oi p6, oj m7, .second, .unset, .unset, .unset, .unset, .unset, .unset, .unset, .unset, .unset, .unset, .unset, .unset, .unset] [])) (fun _ k => XS.lstore X0.here hx rfl (hb hby at_5) rfl (l' := #[oj p0, .second, oj p2, .second, oi p4, oi p5, oi p6, oj m7, .second, .unset, .unset, .unset, .unset, .unset, .unset, .unset, .unset, .unset, .unset, .unset, .unset, .unset]) rfl k) ?_
  have hp_m7 : ¬ m7 < (0 : Int64) := by rw [hm7]; exact own_posL _
  have J58_1 : ∀ (Tj1 : State) (lj1 : List Loc) (m10 : Int64) (f9 : Int32) (vj1 : Vm) (kj1 : Nat) (Xj1 : Stand p l e room_1 (s.setVm vj1) m #[(.long p0), (.long p2), (.int p4), (.int p5), (.int p6)] below meth c Tj1 lj1 0 0) (ej1 : Tj1.heap = h0) (Nj1 : Fr n0 lj1) (hSj1 : s.Since vj1 kj1) (hkj1 : kj1 ≤ h0.size) (hZj1 : Z.Warmed39 (s.setVm vj1).vm) (hoj1 : (s.setVm vj1).vm.findClass oS6 = some m.cls) (Aj1 : CHr Z own_EL s.vm h0 vj1 h0) (hp_m10 : ¬ m10 < (0 : Int64)), own_Go p.tables e below P (Tj1.setTop (mkF m 58 #[oj p0, .second, oj p2, .second, oi p4, oi p5, oi p6, oj m7, .second, oi f9, oj m10, .second, .unset, .unset, .unset, .unset, .unset, .unset, .unset, .unset, .unset, .unset] [])) := by
    intro Tj1 lj1 m10 f9 vj1 kj1 Xj1 ej1 Nj1 hSj1 hkj1 hZ hown Aj1 hp_m10
    refine own_go (st' := Tj1.setTop (mkF m 60 #[oj p0, .second, oj p2, .second, oi p4, oi p5, oi p6, oj m7, .second, oi f9, oj m10, .second, .unset, .unset, .unset, .unset, .unset, .unset, .unset, .unset, .unset, .unset] [(.int p4)])) (fun _ k => XS.iload Xj1.here hx rfl (hb hby at_58) rfl k) ?_
    refine own_go (st' := Tj1.setTop (mkF m 62 #[oj p0, .second, oj p2, .second, oi p4, oi p5, oi p6, oj m7, .second, oi f9, oj m10, .second, .unset, .unset, .unset, .unset, .unset, .unset, .unset, .unset, .unset, .unset] [(.int (16 : Int32)), (.int p4)])) (fun _ k => XS.bipush Xj1.here hx rfl (hb hby at_60) k) ?_
    refine own_go (st' := Tj1.setTop (mkF m 63 #[oj p0, .second, oj p2, .second, oi p4, oi p5, oi p6, oj m7, .second, oi f9, oj m10, .second, .unset, .unset, .unset, .unset, .unset, .unset, .unset, .unset, .unset, .unset] [(.int ((p4.toUInt32 >>> ((16 : Int32) &&& 31).toUInt32).toInt32))])) (fun _ k => XS.iushr Xj1.here hx rfl (hb hby at_62) rfl k) ?_
    refine own_go (st' := Tj1.setTop (mkF m 66 #[oj p0, .second, oj p2, .second, oi p4, oi p5, oi p6, oj m7, .second, oi f9, oj m10, .second, .unset, .unset, .unset, .unset, .unset, .unset, .unset, .unset, .unset, .unset] [(.int (32767 : Int32)), (.int ((p4.toUInt32 >>> ((16 : Int32) &&& 31).toUInt32).toInt32))])) (fun _ k => XS.sipush Xj1.here hx rfl (hb hby at_63) k) ?_
    refine own_go (st' := Tj1.setTop (mkF m 67 #[oj p0, .second, oj p2, .second, oi p4, oi p5, oi p6, oj m7, .second, oi f9, oj m10, .second, .unset, .unset, .unset, .unset, .unset, .unset, .unset, .unset, .unset, .unset] [(.int (((p4.toUInt32 >>> ((16 : Int32) &&& 31).toUInt32).toInt32) &&& (32767 : Int32)))])) (fun _ k => XS.iand Xj1.here hx rfl (hb hby at_66) rfl k) ?_
    refine own_go (st' := Tj1.setTop (mkF m 68 #[oj p0, .second, oj p2, .second, oi p4, oi p5, oi p6, oj m7, .second, oi f9, oj m10, .second, .unset, .unset, .unset, .unset, .unset, .unset, .unset, .unset, .unset, .unset] [(.int (3 : Int32)), (.int (((p4.toUInt32 >>> ((16 : Int32) &&& 31).toUInt32).toInt32) &&& (32767 : Int32)))])) (fun _ k => XS.iconst Xj1.here hx rfl (hb hby at_67) k) ?_
    obtain ⟨n12, hn12⟩ : ∃ z : Int32, z = ((((p4.toUInt32 >>> ((16 : Int32) &&& 31).toUInt32).toInt32) &&& (32767 : Int32)) % (3 : Int32)) := ⟨_, rfl⟩
    refine own_go (st' := Tj1.setTop (mkF m 69 #[oj p0, .second, oj p2, .second, oi p4, oi p5, oi p6, oj m7, .second, oi f9, oj m10, .second, .unset, .unset, .unset, .unset, .unset, .unset, .unset, .unset, .unset, .unset] [(.int n12)])) (fun _ k => iremM Xj1 hx rfl (hb hby at_68) rfl (by decide) (by rw [hn12] at k; exact k)) ?_
    refine own_go (st' := Tj1.setTop (mkF m 71 #[oj p0, .second, oj p2, .second, oi p4, oi p5, oi p6, oj m7, .second, oi f9, oj m10, .second, oi n12, .unset, .unset, .unset, .unset, .unset, .unset, .unset, .unset, .unset] [])) (fun _ k => XS.istore Xj1.here hx rfl (hb hby at_69) rfl (l' := #[oj p0, .second, oj p2, .second, oi p4, oi p5, oi p6, oj m7, .second, oi f9, oj m10, .second, oi n12, .unset, .unset, .unset, .unset, .unset, .unset, .unset, .unset, .unset]) rfl k) ?_
    have ht_n12 : n12 = 0 ∨ n12 = 1 ∨ n12 = 2 := by rw [hn12]; exact own_r3 _
    refine own_go (st' := Tj1.setTop (mkF m 73 #[oj p0, .second, oj p2, .second, oi p4, oi p5, oi p6, oj m7, .second, oi f9, oj m10, .second, oi n12, .unset, .unset, .unset, .unset, .unset, .unset, .unset, .unset, .unset] [(.int p4)])) (fun _ k => XS.iload Xj1.here hx rfl (hb hby at_71) rfl k) ?_
    refine own_go (st' := Tj1.setTop (mkF m 76 #[oj p0, .second, oj p2, .second, oi p4, oi p5, oi p6, oj m7, .second, oi f9, oj m10, .second, oi n12, .unset, .unset, .unset, .unset, .unset, .unset, .unset, .unset, .unset] [(.int (255 : Int32)), (.int p4)])) (fun _ k => XS.sipush Xj1.here hx rfl (hb hby at_73) k) ?_
    obtain ⟨u13, hu13⟩ : ∃ z : Int32, z = (p4 &&& (255 : Int32)) := ⟨_, rfl⟩
    refine own_go (st' := Tj1.setTop (mkF m 77 #[oj p0, .second, oj p2, .second, oi p4, oi p5, oi p6, oj m7, .second, oi f9, oj m10, .second, oi n12, .unset, .unset, .unset, .unset, .unset, .unset, .unset, .unset, .unset] [(.int u13)])) (fun _ k => XS.iand Xj1.here hx rfl (hb hby at_76) rfl (by rw [hu13] at k; exact k)) ?_
    refine own_go (st' := Tj1.setTop (mkF m 79 #[oj p0, .second, oj p2, .second, oi p4, oi p5, oi p6, oj m7, .second, oi f9, oj m10, .second, oi n12, oi u13, .unset, .unset, .unset, .unset, .unset, .unset, .unset, .unset] [])) (fun _ k => XS.istore Xj1.here hx rfl (hb hby at_77) rfl (l' := #[oj p0, .second, oj p2, .second, oi p4, oi p5, oi p6, oj m7, .second, oi f9, oj m10, .second, oi n12, oi u13, .unset, .unset, .unset, .unset, .unset, .unset, .unset, .unset]) rfl k) ?_
    have hl_u13 : own_lat u13 := by rw [hu13]; exact own_lat_a _
    refine own_go (st' := Tj1.setTop (mkF m 81 #[oj p0, .second, oj p2, .second, oi p4, oi p5, oi p6, oj m7, .second, oi f9, oj m10, .second, oi n12, oi u13, .unset, .unset, .unset, .unset, .unset, .unset, .unset, .unset] [(.int p4)])) (fun _ k => XS.iload Xj1.here hx rfl (hb hby at_79) rfl k) ?_
    refine own_go (st' := Tj1.setTop (mkF m 83 #[oj p0, .second, oj p2, .second, oi p4, oi p5, oi p6, oj m7, .second, oi f9, oj m10, .second, oi n12, oi u13, .unset, .unset, .unset, .unset, .unset, .unset, .unset, .unset] [(.int (8 : Int32)), (.int p4)])) (fun _ k => XS.bipush Xj1.here hx rfl (hb hby at_81) k) ?_
    refine own_go (st' := Tj1.setTop (mkF m 84 #[oj p0, .second, oj p2, .second, oi p4, oi p5, oi p6, oj m7, .second, oi f9, oj m10, .second, oi n12, oi u13, .unset, .unset, .unset, .unset, .unset, .unset, .unset, .unset] [(.int ((p4.toUInt32 >>> ((8 : Int32) &&& 31).toUInt32).toInt32))])) (fun _ k => XS.iushr Xj1.here hx rfl (hb hby at_83) rfl k) ?_
    refine own_go (st' := Tj1.setTop (mkF m 87 #[oj p0, .second, oj p2, .second, oi p4, oi p5, oi p6, oj m7, .second, oi f9, oj m10, .second, oi n12, oi u13, .unset, .unset, .unset, .unset, .unset, .unset, .unset, .unset] [(.int (255 : Int32)), (.int ((p4.toUInt32 >>> ((8 : Int32) &&& 31).toUInt32).toInt32))])) (fun _ k => XS.sipush Xj1.here hx rfl (hb hby at_84) k) ?_
    obtain ⟨u14, hu14⟩ : ∃ z : Int32, z = (((p4.toUInt32 >>> ((8 : Int32) &&& 31).toUInt32).toInt32) &&& (255 : Int32)) := ⟨_, rfl⟩
    refine own_go (st' := Tj1.setTop (mkF m 88 #[oj p0, .second, oj p2, .second, oi p4, oi p5, oi p6, oj m7, .second, oi f9, oj m10, .second, oi n12, oi u13, .unset, .unset, .unset, .unset, .unset, .unset, .unset, .unset] [(.int u14)])) (fun _ k => XS.iand Xj1.here hx rfl (hb hby at_87) rfl (by rw [hu14] at k; exact k)) ?_
    refine own_go (st' := Tj1.setTop (mkF m 90 #[oj p0, .second, oj p2, .second, oi p4, oi p5, oi p6, oj m7, .second, oi f9, oj m10, .second, oi n12, oi u13, oi u14, .unset, .unset, .unset, .unset, .unset, .unset, .unset] [])) (fun _ k => XS.istore Xj1.here hx rfl (hb hby at_88) rfl (l' := #[oj p0, .second, oj p2, .second, oi p4, oi p5, oi p6, oj m7, .second, oi f9, oj m10, .second, oi n12, oi u13, oi u14, .unset, .unset, .unset, .unset, .unset, .unset, .unset]) rfl k) ?_
    have hl_u14 : own_lat u14 := by rw [hu14]; exact own_lat_a _
    have J146_2 : ∀ (Tj2 : State) (lj2 : List Loc) (n15 : Int32) (u16 : Int32) (u17 : Int32) (vj2 : Vm) (kj2 : Nat) (Xj2 : Stand p l e room_1 (s.setVm vj2) m #[(.long p0), (.long p2), (.int p4), (.int p5), (.int p6)] below meth c Tj2 lj2 0 0) (ej2 : Tj2.heap = h0) (Nj2 : Fr n0 lj2) (hSj2 : s.Since vj2 kj2) (hkj2 : kj2 ≤ h0.size) (hZj2 : Z.Warmed39 (s.setVm vj2).vm) (hoj2 : (s.setVm vj2).vm.findClass oS6 = some m.cls) (Aj2 : CHr Z own_EL s.vm h0 vj2 h0) (ht_n15 : n15 = 0 ∨ n15 = 1 ∨ n15 = 2) (hl_u16 : own_lat u16) (hl_u17 : own_lat u17), own_Go p.tables e below P (Tj2.setTop (mkF m 146 #[oj p0, .second, oj p2, .second, oi p4, oi p5, oi p6, oj m7, .second, oi f9, oj m10, .second, oi n12, oi u13, oi u14, oi n15, oi u16, oi u17, .unset, .unset, .unset, .unset] [])) := by
      intro Tj2 lj2 n15 u16 u17 vj2 kj2 Xj2 ej2 Nj2 hSj2 hkj2 hZ hown Aj2 ht_n15 hl_u16 hl_u17
      obtain ⟨T3, h3, X3, e3, E3, A3, D3, -, st3⟩ := newO Xj2 hx hZ hown (own_hw hw 1) (own_hw hw 2) (own_hw hw 3) ej2 (g := (mkF m 146 #[oj p0, .second, oj p2, .second, oi p4, oi p5, oi p6, oj m7, .second, oi f9, oj m10, .second, oi n12, oi u13, oi u14, oi n15, oi u16, oi u17, .unset, .unset, .unset, .unset] [])) rfl (hb hby at_146) (by decide) (by decide)
      obtain ⟨b3, g3⟩ : ∃ z, z = h0.size := ⟨_, rfl⟩
      rw [← g3] at A3 D3 st3
      have sz3 : h0.size ≤ h3.size := E3.1
      have lt3 : @LT.lt Nat _ b3 h3.size := A3.lt
      have f4 : Fld Z h3 b3 oS1 "offset" "J" (.long (0 : Int64)) := D3 (Or.inr (own_hw hw 44)) (ty := .long) (by decide)
      have f5 : Fld Z h3 b3 oS1 "metadata" oS3 .null := D3 (Or.inr (own_hw hw 46)) (ty := (.object oS0)) (by decide)
      refine own_go (st' := T3.setTop (mkF m 149 #[oj p0, .second, oj p2, .second, oi p4, oi p5, oi p6, oj m7, .second, oi f9, oj m10, .second, oi n12, oi u13, oi u14, oi n15, oi u16, oi u17, .unset, .unset, .unset, .unset] [(.ref b3)])) (st3) ?_
      refine own_go (st' := T3.setTop (mkF m 150 #[oj p0, .second, oj p2, .second, oi p4, oi p5, oi p6, oj m7, .second, oi f9, oj m10, .second, oi n12, oi u13, oi u14, oi n15, oi u16, oi u17, .unset, .unset, .unset, .unset] [(.ref b3), (.ref b3)])) (fun _ k => XS.dup X3.here hx rfl (hb hby at_149) rfl rfl k) ?_
      refine own_go (st' := T3.setTop (mkF m 152 #[oj p0, .second, oj p2, .second, oi p4, oi p5, oi p6, oj m7, .second, oi f9, oj m10, .second, oi n12, oi u13, oi u14, oi n15, oi u16, oi u17, .unset, .unset, .unset, .unset] [(.long m7), (.ref b3), (.ref b3)])) (fun _ k => XS.lload X3.here hx rfl (hb hby at_150) rfl k) ?_
      refine own_go (st' := T3.setTop (mkF m 154 #[oj p0, .second, oj p2, .second, oi p4, oi p5, oi p6, oj m7, .second, oi f9, oj m10, .second, oi n12, oi u13, oi u14, oi n15, oi u16, oi u17, .unset, .unset, .unset, .unset] [(.int n12), (.long m7), (.ref b3), (.ref b3)])) (fun _ k => XS.iload X3.here hx rfl (hb hby at_152) rfl k) ?_
      refine own_go (st' := T3.setTop (mkF m 156 #[oj p0, .second, oj p2, .second, oi p4, oi p5, oi p6, oj m7, .second, oi f9, oj m10, .second, oi n12, oi u13, oi u14, oi n15, oi u16, oi u17, .unset, .unset, .unset, .unset] [(.int u13), (.int n12), (.long m7), (.ref b3), (.ref b3)])) (fun _ k => XS.iload X3.here hx rfl (hb hby at_154) rfl k) ?_
      refine own_go (st' := T3.setTop (mkF m 158 #[oj p0, .second, oj p2, .second, oi p4, oi p5, oi p6, oj m7, .second, oi f9, oj m10, .second, oi n12, oi u13, oi u14, oi n15, oi u16, oi u17, .unset, .unset, .unset, .unset] [(.int u14), (.int u13), (.int n12), (.long m7), (.ref b3), (.ref b3)])) (fun _ k => XS.iload X3.here hx rfl (hb hby at_156) rfl k) ?_
      have c7 : Sta Z h3 oS0 oS2 "Z" (.int zc) := (pr3.ext E3)
      have KA8 : Keep h0 h3 [] := ((Keep.refl h0 []).ext E3)
      have AS8 := CHr.keep (EL := own_EL) KA8 all0 Aj2.1
      have AA9 := Aj2.trans AS8
      obtain ⟨_, _, ⟨T6, LC6, kC6, nC6⟩, -, X6, hS6, hg6, ⟨Lc6, hQ6, lq6, yq6, zq6, CR6⟩, st6⟩ := Jvm.RoadKit.callSS X3 hx (y := oM9) hown (mvT hZ (own_hw hw 4)) (mvT hZ (own_hw hw 5)) (mvT hZ (own_hw hw 6)) (mvT hZ (own_hw hw 7)) (by decide) (backOfSH (W := 4) (rmk l Z a0 hw [] n12 u13 u14 zc h3 n0 (by omega) c7 (by assumption) ht_n12 hl_u13 hl_u14) hZ (own_hw hw 7) (own_hw hw 6) (by decide) (by decide) hEL AA9.1) (g := (mkF m 158 #[oj p0, .second, oj p2, .second, oi p4, oi p5, oi p6, oj m7, .second, oi f9, oj m10, .second, oi n12, oi u13, oi u14, oi n15, oi u16, oi u17, .unset, .unset, .unset, .unset] [(.int u14), (.int u13), (.int n12), (.long m7), (.ref b3), (.ref b3)])) rfl (by rw [hml]; rfl) (argsL := [(.int n12), (.int u13), (.int u14)]) (rest := [(.long m7), (.ref b3), (.ref b3)]) (lenOf pd_11 rfl) rfl (by show 2 * 0 + _ ≤ _; exact Nat.le_of_eq rfl) (hb hby at_158) (fun _ _ => ⟨rfl, e3, (by decide : 1 + 4 ≤ _), (by decide : 2 + 8 ≤ _)⟩)
      dsimp only [Pt.U, Pt.locs, Pt.cells, Pt.slots] at X6 lq6 yq6 zq6 st6 hQ6
      subst lq6 yq6 zq6
      dsimp only [Pt.U, Pt.locs, Pt.cells, Pt.slots] at hS6 hg6 CR6
      obtain ⟨X6, hS6, hZ, hown⟩ := rebS hSj2 (by rw [e3]; omega) X6 hS6 hg6 hZ hown
      obtain ⟨h6, e6⟩ : ∃ z, T6.heap = z := ⟨_, rfl⟩
      rw [e6] at hQ6 hS6
      obtain ⟨a1_6, r_6, kr_6, rfl, Nq6, K6, g6_0, g6_1, g6_2, g6_3, g6_4⟩ := hQ6
      have sz6 : h3.size ≤ h6.size := K6.1
      rw [e6] at CR6
      have AA10 := AA9.trans CR6
      have c11 : Exa Z h6 b3 oS1 := (A3.keep K6)
      have N6 := Fr.app Nj2 Nq6
      have lt6_1 : @LT.lt Nat _ a1_6 h6.size := g6_0.lt
      have lt6_2 : @LT.lt Nat _ r_6 h6.size := g6_3.lt
      have ap12 : @Ne Nat b3 r_6 := own_ne_oa (own_hw hw 2) c11 g6_3
      have ap13 : @Ne Nat a1_6 r_6 := own_ne_oa (own_hw hw 9) g6_0 g6_3
      refine own_go (st' := T6.setTop (mkF m 161 #[oj p0, .second, oj p2, .second, oi p4, oi p5, oi p6, oj m7, .second, oi f9, oj m10, .second, oi n12, oi u13, oi u14, oi n15, oi u16, oi u17, .unset, .unset, .unset, .unset] [(.ref a1_6), (.long m7), (.ref b3), (.ref b3)])) (fun _ k => st6.trans k) ?_
      have c15 : Fld Z h6 b3 oS1 "metadata" oS3 .null := (f5.keep K6 nin0)
      have c16 : Fld Z h6 b3 oS1 "offset" "J" (.long (0 : Int64)) := (f4.keep K6 nin0)
      obtain ⟨_, _, ⟨T14, LC14, kC14, nC14⟩, -, X14, hS14, hg14, ⟨Lc14, hQ14, lq14, yq14, zq14, CR14⟩, st14⟩ := X6.specialBackS hx (y := oM10) rfl hown (mvT hZ (own_hw hw 30)) (mvT hZ (own_hw hw 31)) (mvT hZ (own_hw hw 32)) (by decide) (backOfSH (W := 1) (rm5 l Z a0 hw [] b3 a1_6 m7 (0 : Int64) h6 n0 (by omega) c11 c15 c16 (by omega) hp_m7) hZ (own_hw hw 32) (own_hw hw 3) (by decide) (by decide) hEL AA10.1) (g := (mkF m 161 #[oj p0, .second, oj p2, .second, oi p4, oi p5, oi p6, oj m7, .second, oi f9, oj m10, .second, oi n12, oi u13, oi u14, oi n15, oi u16, oi u17, .unset, .unset, .unset, .unset] [(.ref a1_6), (.long m7), (.ref b3), (.ref b3)])) rfl (by rw [hml]; rfl) (Steps.refl _) (a := b3) (argsL := [(.long m7), (.ref a1_6)]) (rest := [(.ref b3)]) (lenOf pd_12 rfl) rfl (by show 2 * 0 + _ ≤ _; exact Nat.le_of_eq rfl) (hb hby at_161) (fun _ _ => ⟨rfl, e6, (by decide : 5 + 2 ≤ _), (by decide : 10 + 36 ≤ _)⟩)
      dsimp only [Pt.U, Pt.locs, Pt.cells, Pt.slots] at X14 lq14 yq14 zq14 st14 hQ14
      subst lq14 yq14 zq14
      dsimp only [Pt.U, Pt.locs, Pt.cells, Pt.slots] at hS14 hg14 CR14
      obtain ⟨X14, hS14, hZ, hown⟩ := rebS hS6 (by rw [e6]; omega) X14 hS14 hg14 hZ hown
      obtain ⟨h14, e14⟩ : ∃ z, T14.heap = z := ⟨_, rfl⟩
      rw [e14] at hQ14 hS14
      obtain ⟨rfl, Nq14, K14, g14_0, g14_1, g14_2⟩ := hQ14
      have sz14 : h6.size ≤ h14.size := K14.1
      rw [e14] at CR14
      have AA17 := AA10.trans CR14
      have c18 : Exa Z h14 b3 oS1 := (c11.keep K14)
      have N14 := Fr.app N6 Nq14
      have lt14_1 : @LT.lt Nat _ b3 h14.size := g14_0.lt
      refine own_go (st' := T14.setTop (mkF m 164 #[oj p0, .second, oj p2, .second, oi p4, oi p5, oi p6, oj m7, .second, oi f9, oj m10, .second, oi n12, oi u13, oi u14, oi n15, oi u16, oi u17, .unset, .unset, .unset, .unset] [(.ref b3)])) (fun _ k => st14.trans k) ?_
      refine own_go (st' := T14.setTop (mkF m 166 #[oj p0, .second, oj p2, .second, oi p4, oi p5, oi p6, oj m7, .second, oi f9, oj m10, .second, oi n12, oi u13, oi u14, oi n15, oi u16, oi u17, oR b3, .unset, .unset, .unset] [])) (fun _ k => XS.astore X14.here hx rfl (hb hby at_164) rfl rfl (l' := #[oj p0, .second, oj p2, .second, oi p4, oi p5, oi p6, oj m7, .second, oi f9, oj m10, .second, oi n12, oi u13, oi u14, oi n15, oi u16, oi u17, oR b3, .unset, .unset, .unset]) rfl k) ?_
      obtain ⟨T19, h19, X19, e19, E19, A19, D19, -, st19⟩ := newO X14 hx hZ hown (own_hw hw 1) (own_hw hw 2) (own_hw hw 3) e14 (g := (mkF m 166 #[oj p0, .second, oj p2, .second, oi p4, oi p5, oi p6, oj m7, .second, oi f9, oj m10, .second, oi n12, oi u13, oi u14, oi n15, oi u16, oi u17, oR b3, .unset, .unset, .unset] [])) rfl (hb hby at_166) (by decide) (by decide)
      obtain ⟨b19, g19⟩ : ∃ z, z = h14.size := ⟨_, rfl⟩
      rw [← g19] at A19 D19 st19
      have sz19 : h14.size ≤ h19.size := E19.1
      have lt19 : @LT.lt Nat _ b19 h19.size := A19.lt
      have f20 : Fld Z h19 b19 oS1 "offset" "J" (.long (0 : Int64)) := D19 (Or.inr (own_hw hw 44)) (ty := .long) (by decide)
      have f21 : Fld Z h19 b19 oS1 "metadata" oS3 .null := D19 (Or.inr (own_hw hw 46)) (ty := (.object oS0)) (by decide)
      refine own_go (st' := T19.setTop (mkF m 169 #[oj p0, .second, oj p2, .second, oi p4, oi p5, oi p6, oj m7, .second, oi f9, oj m10, .second, oi n12, oi u13, oi u14, oi n15, oi u16, oi u17, oR b3, .unset, .unset, .unset] [(.ref b19)])) (st19) ?_
      refine own_go (st' := T19.setTop (mkF m 170 #[oj p0, .second, oj p2, .second, oi p4, oi p5, oi p6, oj m7, .second, oi f9, oj m10, .second, oi n12, oi u13, oi u14, oi n15, oi u16, oi u17, oR b3, .unset, .unset, .unset] [(.ref b19), (.ref b19)])) (fun _ k => XS.dup X19.here hx rfl (hb hby at_169) rfl rfl k) ?_
      refine own_go (st' := T19.setTop (mkF m 172 #[oj p0, .second, oj p2, .second, oi p4, oi p5, oi p6, oj m7, .second, oi f9, oj m10, .second, oi n12, oi u13, oi u14, oi n15, oi u16, oi u17, oR b3, .unset, .unset, .unset] [(.long m10), (.ref b19), (.ref b19)])) (fun _ k => XS.lload X19.here hx rfl (hb hby at_170) rfl k) ?_
      refine own_go (st' := T19.setTop (mkF m 174 #[oj p0, .second, oj p2, .second, oi p4, oi p5, oi p6, oj m7, .second, oi f9, oj m10, .second, oi n12, oi u13, oi u14, oi n15, oi u16, oi u17, oR b3, .unset, .unset, .unset] [(.int n15), (.long m10), (.ref b19), (.ref b19)])) (fun _ k => XS.iload X19.here hx rfl (hb hby at_172) rfl k) ?_
      refine own_go (st' := T19.setTop (mkF m 176 #[oj p0, .second, oj p2, .second, oi p4, oi p5, oi p6, oj m7, .second, oi f9, oj m10, .second, oi n12, oi u13, oi u14, oi n15, oi u16, oi u17, oR b3, .unset, .unset, .unset] [(.int u16), (.int n15), (.long m10), (.ref b19), (.ref b19)])) (fun _ k => XS.iload X19.here hx rfl (hb hby at_174) rfl k) ?_
      refine own_go (st' := T19.setTop (mkF m 178 #[oj p0, .second, oj p2, .second, oi p4, oi p5, oi p6, oj m7, .second, oi f9, oj m10, .second, oi n12, oi u13, oi u14, oi n15, oi u16, oi u17, oR b3, .unset, .unset, .unset] [(.int u17), (.int u16), (.int n15), (.long m10), (.ref b19), (.ref b19)])) (fun _ k => XS.iload X19.here hx rfl (hb hby at_176) rfl k) ?_
      have c23 : Sta Z h19 oS0 oS2 "Z" (.int zc) := ((own_sta_keep (own_sta_keep c7 K6 all0) K14 (allS (P := fun x => ∀ c : Cell, h6[x]? = some c → c.vm.isStatics = false) (own_pl_exa c11) all0)).ext E19)
      have KA24 : Keep h14 h19 [] := ((Keep.refl h14 []).ext E19)
      have AS24 := CHr.keep (EL := own_EL) KA24 all0 AA17.1
      have AA25 := AA17.trans AS24
      have c26 : Exa Z h19 b3 oS1 := (g14_0.ext E19)
      obtain ⟨_, _, ⟨T22, LC22, kC22, nC22⟩, -, X22, hS22, hg22, ⟨Lc22, hQ22, lq22, yq22, zq22, CR22⟩, st22⟩ := Jvm.RoadKit.callSS X19 hx (y := oM9) hown (mvT hZ (own_hw hw 4)) (mvT hZ (own_hw hw 5)) (mvT hZ (own_hw hw 6)) (mvT hZ (own_hw hw 7)) (by decide) (backOfSH (W := 4) (rmk l Z a0 hw [] n15 u16 u17 zc h19 n0 (by omega) c23 (by assumption) ht_n15 hl_u16 hl_u17) hZ (own_hw hw 7) (own_hw hw 6) (by decide) (by decide) hEL AA25.1) (g := (mkF m 178 #[oj p0, .second, oj p2, .second, oi p4, oi p5, oi p6, oj m7, .second, oi f9, oj m10, .second, oi n12, oi u13, oi u14, oi n15, oi u16, oi u17, oR b3, .unset, .unset, .unset] [(.int u17), (.int u16), (.int n15), (.long m10), (.ref b19), (.ref b19)])) rfl (by rw [hml]; rfl) (argsL := [(.int n15), (.int u16), (.int u17)]) (rest := [(.long m10), (.ref b19), (.ref b19)]) (lenOf pd_11 rfl) rfl (by show 2 * 0 + _ ≤ _; exact Nat.le_of_eq rfl) (hb hby at_178) (fun _ _ => ⟨rfl, e19, (by decide : 8 + 4 ≤ _), (by decide : 48 + 8 ≤ _)⟩)
      dsimp only [Pt.U, Pt.locs, Pt.cells, Pt.slots] at X22 lq22 yq22 zq22 st22 hQ22
      subst lq22 yq22 zq22
      dsimp only [Pt.U, Pt.locs, Pt.cells, Pt.slots] at hS22 hg22 CR22
      obtain ⟨X22, hS22, hZ, hown⟩ := rebS hS14 (by rw [e19]; omega) X22 hS22 hg22 hZ hown
      obtain ⟨h22, e22⟩ : ∃ z, T22.heap = z := ⟨_, rfl⟩
      rw [e22] at hQ22 hS22
      obtain ⟨a1_22, r_22, kr_22, rfl, Nq22, K22, g22_0, g22_1, g22_2, g22_3, g22_4⟩ := hQ22
      have sz22 : h19.size ≤ h22.size := K22.1
      rw [e22] at CR22
      have AA27 := AA25.trans CR22
      have c28 : Exa Z h22 b3 oS1 := (c26.keep K22)
      have c29 : Exa Z h22 b19 oS1 := (A19.keep K22)
      have N22 := Fr.app N14 Nq22
      have lt22_1 : @LT.lt Nat _ a1_22 h22.size := g22_0.lt
      have lt22_2 : @LT.lt Nat _ r_22 h22.size := g22_3.lt
      have ap30 : @Ne Nat b3 r_22 := own_ne_oa (own_hw hw 2) c28 g22_3
      have c32 : Exa Z h22 a1_6 oS0 := (((g6_0.keep K14).ext E19).keep K22)
      have ap31 : @Ne Nat a1_6 r_22 := own_ne_oa (own_hw hw 9) c32 g22_3
      have ap33 : @Ne Nat b19 r_22 := own_ne_oa (own_hw hw 2) c29 g22_3
      have ap34 : @Ne Nat a1_22 r_22 := own_ne_oa (own_hw hw 9) g22_0 g22_3
      refine own_go (st' := T22.setTop (mkF m 181 #[oj p0, .second, oj p2, .second, oi p4, oi p5, oi p6, oj m7, .second, oi f9, oj m10, .second, oi n12, oi u13, oi u14, oi n15, oi u16, oi u17, oR b3, .unset, .unset, .unset] [(.ref a1_22), (.long m10), (.ref b19), (.ref b19)])) (fun _ k => st22.trans k) ?_
      have c36 : Fld Z h22 b19 oS1 "metadata" oS3 .null := (f21.keep K22 nin0)
      have c37 : Fld Z h22 b19 oS1 "offset" "J" (.long (0 : Int64)) := (f20.keep K22 nin0)
      obtain ⟨_, _, ⟨T35, LC35, kC35, nC35⟩, -, X35, hS35, hg35, ⟨Lc35, hQ35, lq35, yq35, zq35, CR35⟩, st35⟩ := X22.specialBackS hx (y := oM10) rfl hown (mvT hZ (own_hw hw 30)) (mvT hZ (own_hw hw 31)) (mvT hZ (own_hw hw 32)) (by decide) (backOfSH (W := 1) (rm5 l Z a0 hw [] b19 a1_22 m10 (0 : Int64) h22 n0 (by omega) c29 c36 c37 (by omega) hp_m10) hZ (own_hw hw 32) (own_hw hw 3) (by decide) (by decide) hEL AA27.1) (g := (mkF m 181 #[oj p0, .second, oj p2, .second, oi p4, oi p5, oi p6, oj m7, .second, oi f9, oj m10, .second, oi n12, oi u13, oi u14, oi n15, oi u16, oi u17, oR b3, .unset, .unset, .unset] [(.ref a1_22), (.long m10), (.ref b19), (.ref b19)])) rfl (by rw [hml]; rfl) (Steps.refl _) (a := b19) (argsL := [(.long m10), (.ref a1_22)]) (rest := [(.ref b19)]) (lenOf pd_12 rfl) rfl (by show 2 * 0 + _ ≤ _; exact Nat.le_of_eq rfl) (hb hby at_181) (fun _ _ => ⟨rfl, e22, (by decide : 12 + 2 ≤ _), (by decide : 56 + 36 ≤ _)⟩)
      dsimp only [Pt.U, Pt.locs, Pt.cells, Pt.slots] at X35 lq35 yq35 zq35 st35 hQ35
      subst lq35 yq35 zq35
      dsimp only [Pt.U, Pt.locs, Pt.cells, Pt.slots] at hS35 hg35 CR35
      obtain ⟨X35, hS35, hZ, hown⟩ := rebS hS22 (by rw [e22]; omega) X35 hS35 hg35 hZ hown
      obtain ⟨h35, e35⟩ : ∃ z, T35.heap = z := ⟨_, rfl⟩
      rw [e35] at hQ35 hS35
      obtain ⟨rfl, Nq35, K35, g35_0, g35_1, g35_2⟩ := hQ35
      have sz35 : h22.size ≤ h35.size := K35.1
      rw [e35] at CR35
      have AA38 := AA27.trans CR35
      have c39 : Exa Z h35 b3 oS1 := (c28.keep K35)
      have c40 : Exa Z h35 b19 oS1 := (c29.keep K35)
      have N35 := Fr.app N22 Nq35
      have lt35_1 : @LT.lt Nat _ b19 h35.size := g35_0.lt
      refine own_go (st' := T35.setTop (mkF m 184 #[oj p0, .second, oj p2, .second, oi p4, oi p5, oi p6, oj m7, .second, oi f9, oj m10, .second, oi n12, oi u13, oi u14, oi n15, oi u16, oi u17, oR b3, .unset, .unset, .unset] [(.ref b19)])) (fun _ k => st35.trans k) ?_
      refine own_go (st' := T35.setTop (mkF m 186 #[oj p0, .second, oj p2, .second, oi p4, oi p5, oi p6, oj m7, .second, oi f9, oj m10, .second, oi n12, oi u13, oi u14, oi n15, oi u16, oi u17, oR b3, oR b19, .unset, .unset] [])) (fun _ k => XS.astore X35.here hx rfl (hb hby at_184) rfl rfl (l' := #[oj p0, .second, oj p2, .second, oi p4, oi p5, oi p6, oj m7, .second, oi f9, oj m10, .second, oi n12, oi u13, oi u14, oi n15, oi u16, oi u17, oR b3, oR b19, .unset, .unset]) rfl k) ?_
      refine own_go (st' := T35.setTop (mkF m 188 #[oj p0, .second, oj p2, .second, oi p4, oi p5, oi p6, oj m7, .second, oi f9, oj m10, .second, oi n12, oi u13, oi u14, oi n15, oi u16, oi u17, oR b3, oR b19, .unset, .unset] [(.int p6)])) (fun _ k => XS.iload X35.here hx rfl (hb hby at_186) rfl k) ?_
      refine own_go (st' := T35.setTop (mkF m 189 #[oj p0, .second, oj p2, .second, oi p4, oi p5, oi p6, oj m7, .second, oi f9, oj m10, .second, oi n12, oi u13, oi u14, oi n15, oi u16, oi u17, oR b3, oR b19, .unset, .unset] [(.int (3 : Int32)), (.int p6)])) (fun _ k => XS.iconst X35.here hx rfl (hb hby at_188) k) ?_
      refine own_go (st' := T35.setTop (mkF m 190 #[oj p0, .second, oj p2, .second, oi p4, oi p5, oi p6, oj m7, .second, oi f9, oj m10, .second, oi n12, oi u13, oi u14, oi n15, oi u16, oi u17, oR b3, oR b19, .unset, .unset] [(.int ((p6.toUInt32 >>> ((3 : Int32) &&& 31).toUInt32).toInt32))])) (fun _ k => XS.iushr X35.here hx rfl (hb hby at_189) rfl k) ?_
      refine own_go (st' := T35.setTop (mkF m 191 #[oj p0, .second, oj p2, .second, oi p4, oi p5, oi p6, oj m7, .second, oi f9, oj m10, .second, oi n12, oi u13, oi u14, oi n15, oi u16, oi u17, oR b3, oR b19, .unset, .unset] [(.int (3 : Int32)), (.int ((p6.toUInt32 >>> ((3 : Int32) &&& 31).toUInt32).toInt32))])) (fun _ k => XS.iconst X35.here hx rfl (hb hby at_190) k) ?_
      refine own_go (st' := T35.setTop (mkF m 192 #[oj p0, .second, oj p2, .second, oi p4, oi p5, oi p6, oj m7, .second, oi f9, oj m10, .second, oi n12, oi u13, oi u14, oi n15, oi u16, oi u17, oR b3, oR b19, .unset, .unset] [(.int (((p6.toUInt32 >>> ((3 : Int32) &&& 31).toUInt32).toInt32) &&& (3 : Int32)))])) (fun _ k => XS.iand X35.here hx rfl (hb hby at_191) rfl k) ?_
      have hm := own_and3 ((p6.toUInt32 >>> ((3 : Int32) &&& 31).toUInt32).toInt32)
      obtain ⟨xs, hxs⟩ : ∃ z : Int32, z = (((p6.toUInt32 >>> ((3 : Int32) &&& 31).toUInt32).toInt32) &&& (3 : Int32)) := ⟨_, rfl⟩
      rw [← hxs] at hm ⊢
      clear hxs
      rcases hm with rfl | rfl | rfl | rfl
      · --
        refine own_go (st' := T35.setTop (mkF m 194 #[oj p0, .second, oj p2, .second, oi p4, oi p5, oi p6, oj m7, .second, oi f9, oj m10, .second, oi n12, oi u13, oi u14, oi n15, oi u16, oi u17, oR b3, oR b19, oi 0, .unset] [])) (fun _ k => XS.istore X35.here hx rfl (hb hby at_192) rfl (l' := #[oj p0, .second, oj p2, .second, oi p4, oi p5, oi p6, oj m7, .second, oi f9, oj m10, .second, oi n12, oi u13, oi u14, oi n15, oi u16, oi u17, oR b3, oR b19, oi 0, .unset]) rfl k) ?_
        refine own_go (st' := T35.setTop (mkF m 196 #[oj p0, .second, oj p2, .second, oi p4, oi p5, oi p6, oj m7, .second, oi f9, oj m10, .second, oi n12, oi u13, oi u14, oi n15, oi u16, oi u17, oR b3, oR b19, oi 0, .unset] [(.int (0 : Int32))])) (fun _ k => XS.iload X35.here hx rfl (hb hby at_194) rfl k) ?_
        refine own_go (st' := T35.setTop (mkF m 197 #[oj p0, .second, oj p2, .second, oi p4, oi p5, oi p6, oj m7, .second, oi f9, oj m10, .second, oi n12, oi u13, oi u14, oi n15, oi u16, oi u17, oR b3, oR b19, oi 0, .unset] [(.int (1 : Int32)), (.int (0 : Int32))])) (fun _ k => XS.iconst X35.here hx rfl (hb hby at_196) k) ?_
        have hc41 : ¬ ((0 : Int32) = (1 : Int32)) := by decide
        refine own_go (st' := T35.setTop (mkF m 215 #[oj p0, .second, oj p2, .second, oi p4, oi p5, oi p6, oj m7, .second, oi f9, oj m10, .second, oi n12, oi u13, oi u14, oi n15, oi u16, oi u17, oR b3, oR b19, oi 0, .unset] [])) (fun _ k => XS.icmpYes X35.here hx rfl (pc0 := 197) (pc' := 215) rfl (hb hby at_197) rfl (feq hc41).2 (by decide) (by decide) k) ?_
        refine own_go (st' := T35.setTop (mkF m 217 #[oj p0, .second, oj p2, .second, oi p4, oi p5, oi p6, oj m7, .second, oi f9, oj m10, .second, oi n12, oi u13, oi u14, oi n15, oi u16, oi u17, oR b3, oR b19, oi 0, .unset] [(.int (0 : Int32))])) (fun _ k => XS.iload X35.here hx rfl (hb hby at_215) rfl k) ?_
        refine own_go (st' := T35.setTop (mkF m 218 #[oj p0, .second, oj p2, .second, oi p4, oi p5, oi p6, oj m7, .second, oi f9, oj m10, .second, oi n12, oi u13, oi u14, oi n15, oi u16, oi u17, oR b3, oR b19, oi 0, .unset] [(.int (2 : Int32)), (.int (0 : Int32))])) (fun _ k => XS.iconst X35.here hx rfl (hb hby at_217) k) ?_
        have hc42 : ¬ ((0 : Int32) = (2 : Int32)) := by decide
        refine own_go (st' := T35.setTop (mkF m 229 #[oj p0, .second, oj p2, .second, oi p4, oi p5, oi p6, oj m7, .second, oi f9, oj m10, .second, oi n12, oi u13, oi u14, oi n15, oi u16, oi u17, oR b3, oR b19, oi 0, .unset] [])) (fun _ k => XS.icmpYes X35.here hx rfl (pc0 := 218) (pc' := 229) rfl (hb hby at_218) rfl (feq hc42).2 (by decide) (by decide) k) ?_
        refine own_go (st' := T35.setTop (mkF m 231 #[oj p0, .second, oj p2, .second, oi p4, oi p5, oi p6, oj m7, .second, oi f9, oj m10, .second, oi n12, oi u13, oi u14, oi n15, oi u16, oi u17, oR b3, oR b19, oi 0, .unset] [(.int (0 : Int32))])) (fun _ k => XS.iload X35.here hx rfl (hb hby at_229) rfl k) ?_
        refine own_go (st' := T35.setTop (mkF m 232 #[oj p0, .second, oj p2, .second, oi p4, oi p5, oi p6, oj m7, .second, oi f9, oj m10, .second, oi n12, oi u13, oi u14, oi n15, oi u16, oi u17, oR b3, oR b19, oi 0, .unset] [(.int (3 : Int32)), (.int (0 : Int32))])) (fun _ k => XS.iconst X35.here hx rfl (hb hby at_231) k) ?_
        have hc43 : ¬ ((0 : Int32) = (3 : Int32)) := by decide
        refine own_go (st' := T35.setTop (mkF m 267 #[oj p0, .second, oj p2, .second, oi p4, oi p5, oi p6, oj m7, .second, oi f9, oj m10, .second, oi n12, oi u13, oi u14, oi n15, oi u16, oi u17, oR b3, oR b19, oi 0, .unset] [])) (fun _ k => XS.icmpYes X35.here hx rfl (pc0 := 232) (pc' := 267) rfl (hb hby at_232) rfl (feq hc43).2 (by decide) (by decide) k) ?_
        have J313_44 : ∀ (Tj44 : State) (lj44 : List Loc) (fx : Int32) (vj44 : Vm) (kj44 : Nat) (Xj44 : Stand p l e room_1 (s.setVm vj44) m #[(.long p0), (.long p2), (.int p4), (.int p5), (.int p6)] below meth c Tj44 lj44 14 92) (ej44 : Tj44.heap = h35) (Nj44 : Fr n0 lj44) (hSj44 : s.Since vj44 kj44) (hkj44 : kj44 ≤ h35.size) (hZj44 : Z.Warmed39 (s.setVm vj44).vm) (hoj44 : (s.setVm vj44).vm.findClass oS6 = some m.cls) (Aj44 : CHr Z own_EL s.vm h0 vj44 h35) (hE1 : fx = own_om m7 m10 (own_veq (own_bs n12 u13 u14) (own_bs n15 u16 u17))), own_Go p.tables e below P (Tj44.setTop (mkF m 313 #[oj p0, .second, oj p2, .second, oi p4, oi p5, oi p6, oj m7, .second, oi f9, oj m10, .second, oi n12, oi u13, oi u14, oi n15, oi u16, oi u17, oR b3, oR b19, oi 0, .unset] [(.int fx)])) := by
          intro Tj44 lj44 fx vj44 kj44 Xj44 ej44 Nj44 hSj44 hkj44 hZ hown Aj44 hE1
          refine own_go (st' := Tj44.setTop (mkF m 315 #[oj p0, .second, oj p2, .second, oi p4, oi p5, oi p6, oj m7, .second, oi f9, oj m10, .second, oi n12, oi u13, oi u14, oi n15, oi u16, oi u17, oR b3, oR b19, oi 0, oi fx] [])) (fun _ k => XS.istore Xj44.here hx rfl (hb hby at_313) rfl (l' := #[oj p0, .second, oj p2, .second, oi p4, oi p5, oi p6, oj m7, .second, oi f9, oj m10, .second, oi n12, oi u13, oi u14, oi n15, oi u16, oi u17, oR b3, oR b19, oi 0, oi fx]) rfl k) ?_
          refine own_go (st' := Tj44.setTop (mkF m 317 #[oj p0, .second, oj p2, .second, oi p4, oi p5, oi p6, oj m7, .second, oi f9, oj m10, .second, oi n12, oi u13, oi u14, oi n15, oi u16, oi u17, oR b3, oR b19, oi 0, oi fx] [(.ref b3)])) (fun _ k => XS.aload Xj44.here hx rfl (hb hby at_315) rfl rfl k) ?_
          refine own_go (st' := Tj44.setTop (mkF m 319 #[oj p0, .second, oj p2, .second, oi p4, oi p5, oi p6, oj m7, .second, oi f9, oj m10, .second, oi n12, oi u13, oi u14, oi n15, oi u16, oi u17, oR b3, oR b19, oi 0, oi fx] [(.ref b19), (.ref b3)])) (fun _ k => XS.aload Xj44.here hx rfl (hb hby at_317) rfl rfl k) ?_
          have c46 : Fld Z h35 b3 oS1 "metadata" oS3 (.ref a1_6) := (((g14_1.ext E19).keep K22 nin0).keep K35 (ninS (own_ne (by omega)) nin0))
          have c47 : Fld Z h35 b3 oS1 "offset" "J" (.long m7) := (((g14_2.ext E19).keep K22 nin0).keep K35 (ninS (own_ne (by omega)) nin0))
          have c48 : Sta Z h35 oS0 oS2 "Z" (.int zc) := (own_sta_keep (own_sta_keep c23 K22 all0) K35 (allS (P := fun x => ∀ c : Cell, h22[x]? = some c → c.vm.isStatics = false) (own_pl_exa c29) all0))
          have c49 : Exa Z h35 a1_6 oS0 := (c32.keep K35)
          have c50 : Fld Z h35 a1_6 oS0 "value" "[B" (.ref r_6) := ((((g6_1.keep K14 (ninS (own_ne (by omega)) nin0)).ext E19).keep K22 nin0).keep K35 (ninS (own_ne (by omega)) nin0))
          have c51 : Fld Z h35 a1_6 oS0 "coder" "B" (.int (0 : Int32)) := ((((g6_2.keep K14 (ninS (own_ne (by omega)) nin0)).ext E19).keep K22 nin0).keep K35 (ninS (own_ne (by omega)) nin0))
          have c52 : Exa Z h35 a1_22 oS0 := (g22_0.keep K35)
          have c53 : Fld Z h35 a1_22 oS0 "value" "[B" (.ref r_22) := (g22_1.keep K35 (ninS (own_ne (by omega)) nin0))
          have c54 : Fld Z h35 a1_22 oS0 "coder" "B" (.int (0 : Int32)) := (g22_2.keep K35 (ninS (own_ne (by omega)) nin0))
          have c55 : Arv Z h35 r_6 kr_6 .byte n12 (own_bs n12 u13 u14) (.int (0 : Int32)) := ((((g6_3.keep K14 (ninS (own_ne (by omega)) nin0)).ext E19).keep K22 nin0).keep K35 (ninS (own_ne (by omega)) nin0))
          have c56 : Arv Z h35 r_22 kr_22 .byte n15 (own_bs n15 u16 u17) (.int (0 : Int32)) := (g22_3.keep K35 (ninS (own_ne (by omega)) nin0))
          obtain ⟨cq45, kq45, q45a, q45b, q45c⟩ := isOf hZ ej44 c39
          obtain ⟨_, _, ⟨T45, LC45, kC45, nC45⟩, -, X45, ⟨Lc45, hQ45, lq45, yq45, zq45⟩, st45⟩ := Xj44.virtualBack hx (y := oM1) (z := oM1) hown (mvT hZ (own_hw hw 47)) (mvT hZ (own_hw hw 48)) (notFace_of_selects (args := #[]) (mvT hZ (own_hw hw 50))) (mvT hZ (own_hw hw 50)) (mvT hZ (own_hw hw 49)) (by decide) (backOf (W := 0) (rte_gen l Z a0 hw [] b3 b19 m7 m10 a1_6 a1_22 zc r_6 kr_6 n12 (own_bs n12 u13 u14) r_22 kr_22 n15 (own_bs n15 u16 u17) h35 n0 (by omega) c39 c46 c47 g35_0 g35_1 g35_2 c48 (by assumption) (own_ne (by omega)) c49 c50 c51 c52 c53 c54 c55 c56 (own_bs_sh ht_n12) (own_bs_sh ht_n15)) hZ (own_hw hw 51) (own_hw hw 3) (by decide) (by decide)) q45a q45c (g := (mkF m 319 #[oj p0, .second, oj p2, .second, oi p4, oi p5, oi p6, oj m7, .second, oi f9, oj m10, .second, oi n12, oi u13, oi u14, oi n15, oi u16, oi u17, oR b3, oR b19, oi 0, oi fx] [(.ref b19), (.ref b3)])) rfl (by rw [hml]; rfl) (Steps.refl _) (argsL := [(.ref b19)]) (rest := []) (lenOf pd_10 rfl) rfl (by show 2 * 0 + _ ≤ _; exact Nat.le_of_eq rfl) (hb hby at_319) (fun _ _ => ⟨rfl, ej44, (by decide : 14 + 0 ≤ _), (by decide : 92 + 0 ≤ _)⟩)
          dsimp only [Pt.U, Pt.locs, Pt.cells, Pt.slots] at X45 lq45 yq45 zq45 st45 hQ45
          subst lq45 yq45 zq45
          obtain ⟨rfl, Nq45, eq45⟩ := hQ45
          have N45 := Fr.app Nj44 Nq45
          refine own_go (st' := T45.setTop (mkF m 322 #[oj p0, .second, oj p2, .second, oi p4, oi p5, oi p6, oj m7, .second, oi f9, oj m10, .second, oi n12, oi u13, oi u14, oi n15, oi u16, oi u17, oR b3, oR b19, oi 0, oi fx] [(.int (own_om m7 m10 (own_veq (own_bs n12 u13 u14) (own_bs n15 u16 u17))))])) (fun _ k => st45.trans k) ?_
          refine own_go (st' := T45.setTop (mkF m 324 #[oj p0, .second, oj p2, .second, oi p4, oi p5, oi p6, oj m7, .second, oi f9, oj m10, .second, oi n12, oi u13, oi u14, oi n15, oi u16, oi u17, oR b3, oR b19, oi 0, oi fx] [(.int fx), (.int (own_om m7 m10 (own_veq (own_bs n12 u13 u14) (own_bs n15 u16 u17))))])) (fun _ k => XS.iload X45.here hx rfl (hb hby at_322) rfl k) ?_
          have hc57 : (own_om m7 m10 (own_veq (own_bs n12 u13 u14) (own_bs n15 u16 u17))) = fx := hE1.symm
          refine own_go (st' := T45.setTop (mkF m 327 #[oj p0, .second, oj p2, .second, oi p4, oi p5, oi p6, oj m7, .second, oi f9, oj m10, .second, oi n12, oi u13, oi u14, oi n15, oi u16, oi u17, oR b3, oR b19, oi 0, oi fx] [])) (fun _ k => XS.icmpNo X45.here hx rfl (hb hby at_324) rfl (teq hc57).2 k) ?_
          refine own_go (st' := T45.setTop (mkF m 329 #[oj p0, .second, oj p2, .second, oi p4, oi p5, oi p6, oj m7, .second, oi f9, oj m10, .second, oi n12, oi u13, oi u14, oi n15, oi u16, oi u17, oR b3, oR b19, oi 0, oi fx] [(.ref b19)])) (fun _ k => XS.aload X45.here hx rfl (hb hby at_327) rfl rfl k) ?_
          refine own_go (st' := T45.setTop (mkF m 331 #[oj p0, .second, oj p2, .second, oi p4, oi p5, oi p6, oj m7, .second, oi f9, oj m10, .second, oi n12, oi u13, oi u14, oi n15, oi u16, oi u17, oR b3, oR b19, oi 0, oi fx] [(.ref b3), (.ref b19)])) (fun _ k => XS.aload X45.here hx rfl (hb hby at_329) rfl rfl k) ?_
          obtain ⟨cq58, kq58, q58a, q58b, q58c⟩ := isOf hZ eq45 g35_0
          obtain ⟨_, _, ⟨T58, LC58, kC58, nC58⟩, -, X58, ⟨Lc58, hQ58, lq58, yq58, zq58⟩, st58⟩ := X45.virtualBack hx (y := oM1) (z := oM1) hown (mvT hZ (own_hw hw 47)) (mvT hZ (own_hw hw 48)) (notFace_of_selects (args := #[]) (mvT hZ (own_hw hw 50))) (mvT hZ (own_hw hw 50)) (mvT hZ (own_hw hw 49)) (by decide) (backOf (W := 0) (rte_gen l Z a0 hw [] b19 b3 m10 m7 a1_22 a1_6 zc r_22 kr_22 n15 (own_bs n15 u16 u17) r_6 kr_6 n12 (own_bs n12 u13 u14) h35 n0 (by omega) g35_0 g35_1 g35_2 c39 c46 c47 c48 (by assumption) (own_ne (by omega)) c52 c53 c54 c49 c50 c51 c56 c55 (own_bs_sh ht_n15) (own_bs_sh ht_n12)) hZ (own_hw hw 51) (own_hw hw 3) (by decide) (by decide)) q58a q58c (g := (mkF m 331 #[oj p0, .second, oj p2, .second, oi p4, oi p5, oi p6, oj m7, .second, oi f9, oj m10, .second, oi n12, oi u13, oi u14, oi n15, oi u16, oi u17, oR b3, oR b19, oi 0, oi fx] [(.ref b3), (.ref b19)])) rfl (by rw [hml]; rfl) (Steps.refl _) (argsL := [(.ref b3)]) (rest := []) (lenOf pd_10 rfl) rfl (by show 2 * 0 + _ ≤ _; exact Nat.le_of_eq rfl) (hb hby at_331) (fun _ _ => ⟨rfl, eq45, (by decide : 14 + 0 ≤ _), (by decide : 92 + 0 ≤ _)⟩)
          dsimp only [Pt.U, Pt.locs, Pt.cells, Pt.slots] at X58 lq58 yq58 zq58 st58 hQ58
          subst lq58 yq58 zq58
          obtain ⟨rfl, Nq58, eq58⟩ := hQ58
          have N58 := Fr.app N45 Nq58
          refine own_go (st' := T58.setTop (mkF m 334 #[oj p0, .second, oj p2, .second, oi p4, oi p5, oi p6, oj m7, .second, oi f9, oj m10, .second, oi n12, oi u13, oi u14, oi n15, oi u16, oi u17, oR b3, oR b19, oi 0, oi fx] [(.int (own_om m10 m7 (own_veq (own_bs n15 u16 u17) (own_bs n12 u13 u14))))])) (fun _ k => st58.trans k) ?_
          refine own_go (st' := T58.setTop (mkF m 336 #[oj p0, .second, oj p2, .second, oi p4, oi p5, oi p6, oj m7, .second, oi f9, oj m10, .second, oi n12, oi u13, oi u14, oi n15, oi u16, oi u17, oR b3, oR b19, oi 0, oi fx] [(.int fx), (.int (own_om m10 m7 (own_veq (own_bs n15 u16 u17) (own_bs n12 u13 u14))))])) (fun _ k => XS.iload X58.here hx rfl (hb hby at_334) rfl k) ?_
          have hc59 : (own_om m10 m7 (own_veq (own_bs n15 u16 u17) (own_bs n12 u13 u14))) = fx := (own_om_symm _ _ _ _).trans hE1.symm
          refine own_go (st' := T58.setTop (mkF m 339 #[oj p0, .second, oj p2, .second, oi p4, oi p5, oi p6, oj m7, .second, oi f9, oj m10, .second, oi n12, oi u13, oi u14, oi n15, oi u16, oi u17, oR b3, oR b19, oi 0, oi fx] [])) (fun _ k => XS.icmpNo X58.here hx rfl (hb hby at_336) rfl (teq hc59).2 k) ?_
          refine own_go (st' := T58.setTop (mkF m 340 #[oj p0, .second, oj p2, .second, oi p4, oi p5, oi p6, oj m7, .second, oi f9, oj m10, .second, oi n12, oi u13, oi u14, oi n15, oi u16, oi u17, oR b3, oR b19, oi 0, oi fx] [(.int (1 : Int32))])) (fun _ k => XS.iconst X58.here hx rfl (hb hby at_339) k) ?_
          refine own_go (st' := T58.setTop (mkF m 344 #[oj p0, .second, oj p2, .second, oi p4, oi p5, oi p6, oj m7, .second, oi f9, oj m10, .second, oi n12, oi u13, oi u14, oi n15, oi u16, oi u17, oR b3, oR b19, oi 0, oi fx] [(.int (1 : Int32))])) (fun _ k => XS.goto X58.here hx rfl (pc0 := 340) (pc' := 344) rfl (hb hby at_340) (by decide) (by decide) k) ?_
          obtain ⟨fs, hr, hrun, hended, hR1, hR2, hR3, hR4⟩ := X58.leaveW hSj44 (by rw [eq58]; omega) (v := some (.int (1 : Int32))) (fun h => by rw [Bd.returns] at h; cases h)
          refine ⟨_, _, ?_, hP _ _ hrun hended ⟨_, _, rfl, ?_, hR1, hR2, hR3, hR4.mono (by decide) (by decide)⟩⟩
          · exact retN X58 hx (t := .boolean) Bd.returns (by simp) (hb hby at_344) hr
          · show Qrm0 Z p0 p2 p4 p5 p6 cal zc h0 n0 _ T58.heap _
            rw [eq58]
            exact ⟨rfl, N58, trivial⟩
        refine own_go (st' := T35.setTop (mkF m 269 #[oj p0, .second, oj p2, .second, oi p4, oi p5, oi p6, oj m7, .second, oi f9, oj m10, .second, oi n12, oi u13, oi u14, oi n15, oi u16, oi u17, oR b3, oR b19, oi 0, .unset] [(.long m7)])) (fun _ k => XS.lload X35.here hx rfl (hb hby at_267) rfl k) ?_
        refine own_go (st' := T35.setTop (mkF m 271 #[oj p0, .second, oj p2, .second, oi p4, oi p5, oi p6, oj m7, .second, oi f9, oj m10, .second, oi n12, oi u13, oi u14, oi n15, oi u16, oi u17, oR b3, oR b19, oi 0, .unset] [(.long m10), (.long m7)])) (fun _ k => XS.lload X35.here hx rfl (hb hby at_269) rfl k) ?_
        refine own_go (st' := T35.setTop (mkF m 272 #[oj p0, .second, oj p2, .second, oi p4, oi p5, oi p6, oj m7, .second, oi f9, oj m10, .second, oi n12, oi u13, oi u14, oi n15, oi u16, oi u17, oR b3, oR b19, oi 0, .unset] [(.int (lcmpW m7 m10))])) (fun _ k => XS.lcmp X35.here hx rfl (hb hby at_271) rfl k) ?_
        by_cases hc61 : m7 = m10
        · --
          refine own_go (st' := T35.setTop (mkF m 275 #[oj p0, .second, oj p2, .second, oi p4, oi p5, oi p6, oj m7, .second, oi f9, oj m10, .second, oi n12, oi u13, oi u14, oi n15, oi u16, oi u17, oR b3, oR b19, oi 0, .unset] [])) (fun _ k => XS.ifNo X35.here hx rfl (hb hby at_272) rfl ((if0 _ _).trans (teq ((lw_eq m7 m10).mpr hc61)).2) k) ?_
          refine own_go (st' := T35.setTop (mkF m 277 #[oj p0, .second, oj p2, .second, oi p4, oi p5, oi p6, oj m7, .second, oi f9, oj m10, .second, oi n12, oi u13, oi u14, oi n15, oi u16, oi u17, oR b3, oR b19, oi 0, .unset] [(.int n12)])) (fun _ k => XS.iload X35.here hx rfl (hb hby at_275) rfl k) ?_
          refine own_go (st' := T35.setTop (mkF m 279 #[oj p0, .second, oj p2, .second, oi p4, oi p5, oi p6, oj m7, .second, oi f9, oj m10, .second, oi n12, oi u13, oi u14, oi n15, oi u16, oi u17, oR b3, oR b19, oi 0, .unset] [(.int n15), (.int n12)])) (fun _ k => XS.iload X35.here hx rfl (hb hby at_277) rfl k) ?_
          by_cases hc62 : n12 = n15
          · --
            refine own_go (st' := T35.setTop (mkF m 282 #[oj p0, .second, oj p2, .second, oi p4, oi p5, oi p6, oj m7, .second, oi f9, oj m10, .second, oi n12, oi u13, oi u14, oi n15, oi u16, oi u17, oR b3, oR b19, oi 0, .unset] [])) (fun _ k => XS.icmpNo X35.here hx rfl (hb hby at_279) rfl (teq hc62).2 k) ?_
            refine own_go (st' := T35.setTop (mkF m 284 #[oj p0, .second, oj p2, .second, oi p4, oi p5, oi p6, oj m7, .second, oi f9, oj m10, .second, oi n12, oi u13, oi u14, oi n15, oi u16, oi u17, oR b3, oR b19, oi 0, .unset] [(.int n12)])) (fun _ k => XS.iload X35.here hx rfl (hb hby at_282) rfl k) ?_
            refine own_go (st' := T35.setTop (mkF m 285 #[oj p0, .second, oj p2, .second, oi p4, oi p5, oi p6, oj m7, .second, oi f9, oj m10, .second, oi n12, oi u13, oi u14, oi n15, oi u16, oi u17, oR b3, oR b19, oi 0, .unset] [(.int (1 : Int32)), (.int n12)])) (fun _ k => XS.iconst X35.here hx rfl (hb hby at_284) k) ?_
            by_cases hc63 : n12 < (1 : Int32)
            · --
              refine own_go (st' := T35.setTop (mkF m 295 #[oj p0, .second, oj p2, .second, oi p4, oi p5, oi p6, oj m7, .second, oi f9, oj m10, .second, oi n12, oi u13, oi u14, oi n15, oi u16, oi u17, oR b3, oR b19, oi 0, .unset] [])) (fun _ k => XS.icmpYes X35.here hx rfl (pc0 := 285) (pc' := 295) rfl (hb hby at_285) rfl (tlt hc63).1 (by decide) (by decide) k) ?_
              refine own_go (st' := T35.setTop (mkF m 297 #[oj p0, .second, oj p2, .second, oi p4, oi p5, oi p6, oj m7, .second, oi f9, oj m10, .second, oi n12, oi u13, oi u14, oi n15, oi u16, oi u17, oR b3, oR b19, oi 0, .unset] [(.int n12)])) (fun _ k => XS.iload X35.here hx rfl (hb hby at_295) rfl k) ?_
              refine own_go (st' := T35.setTop (mkF m 298 #[oj p0, .second, oj p2, .second, oi p4, oi p5, oi p6, oj m7, .second, oi f9, oj m10, .second, oi n12, oi u13, oi u14, oi n15, oi u16, oi u17, oR b3, oR b19, oi 0, .unset] [(.int (2 : Int32)), (.int n12)])) (fun _ k => XS.iconst X35.here hx rfl (hb hby at_297) k) ?_
              by_cases hc64 : n12 < (2 : Int32)
              · --
                refine own_go (st' := T35.setTop (mkF m 308 #[oj p0, .second, oj p2, .second, oi p4, oi p5, oi p6, oj m7, .second, oi f9, oj m10, .second, oi n12, oi u13, oi u14, oi n15, oi u16, oi u17, oR b3, oR b19, oi 0, .unset] [])) (fun _ k => XS.icmpYes X35.here hx rfl (pc0 := 298) (pc' := 308) rfl (hb hby at_298) rfl (tlt hc64).1 (by decide) (by decide) k) ?_
                refine own_go (st' := T35.setTop (mkF m 309 #[oj p0, .second, oj p2, .second, oi p4, oi p5, oi p6, oj m7, .second, oi f9, oj m10, .second, oi n12, oi u13, oi u14, oi n15, oi u16, oi u17, oR b3, oR b19, oi 0, .unset] [(.int (1 : Int32))])) (fun _ k => XS.iconst X35.here hx rfl (hb hby at_308) k) ?_
                refine own_go (st' := T35.setTop (mkF m 313 #[oj p0, .second, oj p2, .second, oi p4, oi p5, oi p6, oj m7, .second, oi f9, oj m10, .second, oi n12, oi u13, oi u14, oi n15, oi u16, oi u17, oR b3, oR b19, oi 0, .unset] [(.int (1 : Int32))])) (fun _ k => XS.goto X35.here hx rfl (pc0 := 309) (pc' := 313) rfl (hb hby at_309) (by decide) (by decide) k) ?_
                exact J313_44 _ _ (1 : Int32) _ _ X35 e35 N35 hS35 (by omega) hZ hown AA38 ((own_exp hl_u13 hl_u16 hl_u14 hl_u17 ht_n12 ht_n15).trans (if_pos ⟨hc61, hc62, Or.inl hc63, Or.inl hc64⟩)).symm
              · --
                refine own_go (st' := T35.setTop (mkF m 301 #[oj p0, .second, oj p2, .second, oi p4, oi p5, oi p6, oj m7, .second, oi f9, oj m10, .second, oi n12, oi u13, oi u14, oi n15, oi u16, oi u17, oR b3, oR b19, oi 0, .unset] [])) (fun _ k => XS.icmpNo X35.here hx rfl (hb hby at_298) rfl (flt hc64).1 k) ?_
                refine own_go (st' := T35.setTop (mkF m 303 #[oj p0, .second, oj p2, .second, oi p4, oi p5, oi p6, oj m7, .second, oi f9, oj m10, .second, oi n12, oi u13, oi u14, oi n15, oi u16, oi u17, oR b3, oR b19, oi 0, .unset] [(.int u14)])) (fun _ k => XS.iload X35.here hx rfl (hb hby at_301) rfl k) ?_
                refine own_go (st' := T35.setTop (mkF m 305 #[oj p0, .second, oj p2, .second, oi p4, oi p5, oi p6, oj m7, .second, oi f9, oj m10, .second, oi n12, oi u13, oi u14, oi n15, oi u16, oi u17, oR b3, oR b19, oi 0, .unset] [(.int u17), (.int u14)])) (fun _ k => XS.iload X35.here hx rfl (hb hby at_303) rfl k) ?_
                by_cases hc65 : u14 = u17
                · --
                  refine own_go (st' := T35.setTop (mkF m 308 #[oj p0, .second, oj p2, .second, oi p4, oi p5, oi p6, oj m7, .second, oi f9, oj m10, .second, oi n12, oi u13, oi u14, oi n15, oi u16, oi u17, oR b3, oR b19, oi 0, .unset] [])) (fun _ k => XS.icmpNo X35.here hx rfl (hb hby at_305) rfl (teq hc65).2 k) ?_
                  refine own_go (st' := T35.setTop (mkF m 309 #[oj p0, .second, oj p2, .second, oi p4, oi p5, oi p6, oj m7, .second, oi f9, oj m10, .second, oi n12, oi u13, oi u14, oi n15, oi u16, oi u17, oR b3, oR b19, oi 0, .unset] [(.int (1 : Int32))])) (fun _ k => XS.iconst X35.here hx rfl (hb hby at_308) k) ?_
                  refine own_go (st' := T35.setTop (mkF m 313 #[oj p0, .second, oj p2, .second, oi p4, oi p5, oi p6, oj m7, .second, oi f9, oj m10, .second, oi n12, oi u13, oi u14, oi n15, oi u16, oi u17, oR b3, oR b19, oi 0, .unset] [(.int (1 : Int32))])) (fun _ k => XS.goto X35.here hx rfl (pc0 := 309) (pc' := 313) rfl (hb hby at_309) (by decide) (by decide) k) ?_
                  exact J313_44 _ _ (1 : Int32) _ _ X35 e35 N35 hS35 (by omega) hZ hown AA38 ((own_exp hl_u13 hl_u16 hl_u14 hl_u17 ht_n12 ht_n15).trans (if_pos ⟨hc61, hc62, Or.inl hc63, Or.inr hc65⟩)).symm
                · --
                  refine own_go (st' := T35.setTop (mkF m 312 #[oj p0, .second, oj p2, .second, oi p4, oi p5, oi p6, oj m7, .second, oi f9, oj m10, .second, oi n12, oi u13, oi u14, oi n15, oi u16, oi u17, oR b3, oR b19, oi 0, .unset] [])) (fun _ k => XS.icmpYes X35.here hx rfl (pc0 := 305) (pc' := 312) rfl (hb hby at_305) rfl (feq hc65).2 (by decide) (by decide) k) ?_
                  refine own_go (st' := T35.setTop (mkF m 313 #[oj p0, .second, oj p2, .second, oi p4, oi p5, oi p6, oj m7, .second, oi f9, oj m10, .second, oi n12, oi u13, oi u14, oi n15, oi u16, oi u17, oR b3, oR b19, oi 0, .unset] [(.int (0 : Int32))])) (fun _ k => XS.iconst X35.here hx rfl (hb hby at_312) k) ?_
                  exact J313_44 _ _ (0 : Int32) _ _ X35 e35 N35 hS35 (by omega) hZ hown AA38 ((own_exp hl_u13 hl_u16 hl_u14 hl_u17 ht_n12 ht_n15).trans (if_neg (fun q => q.2.2.2.elim hc64 hc65))).symm
            · --
              refine own_go (st' := T35.setTop (mkF m 288 #[oj p0, .second, oj p2, .second, oi p4, oi p5, oi p6, oj m7, .second, oi f9, oj m10, .second, oi n12, oi u13, oi u14, oi n15, oi u16, oi u17, oR b3, oR b19, oi 0, .unset] [])) (fun _ k => XS.icmpNo X35.here hx rfl (hb hby at_285) rfl (flt hc63).1 k) ?_
              refine own_go (st' := T35.setTop (mkF m 290 #[oj p0, .second, oj p2, .second, oi p4, oi p5, oi p6, oj m7, .second, oi f9, oj m10, .second, oi n12, oi u13, oi u14, oi n15, oi u16, oi u17, oR b3, oR b19, oi 0, .unset] [(.int u13)])) (fun _ k => XS.iload X35.here hx rfl (hb hby at_288) rfl k) ?_
              refine own_go (st' := T35.setTop (mkF m 292 #[oj p0, .second, oj p2, .second, oi p4, oi p5, oi p6, oj m7, .second, oi f9, oj m10, .second, oi n12, oi u13, oi u14, oi n15, oi u16, oi u17, oR b3, oR b19, oi 0, .unset] [(.int u16), (.int u13)])) (fun _ k => XS.iload X35.here hx rfl (hb hby at_290) rfl k) ?_
              by_cases hc66 : u13 = u16
              · --
                refine own_go (st' := T35.setTop (mkF m 295 #[oj p0, .second, oj p2, .second, oi p4, oi p5, oi p6, oj m7, .second, oi f9, oj m10, .second, oi n12, oi u13, oi u14, oi n15, oi u16, oi u17, oR b3, oR b19, oi 0, .unset] [])) (fun _ k => XS.icmpNo X35.here hx rfl (hb hby at_292) rfl (teq hc66).2 k) ?_
                refine own_go (st' := T35.setTop (mkF m 297 #[oj p0, .second, oj p2, .second, oi p4, oi p5, oi p6, oj m7, .second, oi f9, oj m10, .second, oi n12, oi u13, oi u14, oi n15, oi u16, oi u17, oR b3, oR b19, oi 0, .unset] [(.int n12)])) (fun _ k => XS.iload X35.here hx rfl (hb hby at_295) rfl k) ?_
                refine own_go (st' := T35.setTop (mkF m 298 #[oj p0, .second, oj p2, .second, oi p4, oi p5, oi p6, oj m7, .second, oi f9, oj m10, .second, oi n12, oi u13, oi u14, oi n15, oi u16, oi u17, oR b3, oR b19, oi 0, .unset] [(.int (2 : Int32)), (.int n12)])) (fun _ k => XS.iconst X35.here hx rfl (hb hby at_297) k) ?_
                by_cases hc67 : n12 < (2 : Int32)
                · --
                  refine own_go (st' := T35.setTop (mkF m 308 #[oj p0, .second, oj p2, .second, oi p4, oi p5, oi p6, oj m7, .second, oi f9, oj m10, .second, oi n12, oi u13, oi u14, oi n15, oi u16, oi u17, oR b3, oR b19, oi 0, .unset] [])) (fun _ k => XS.icmpYes X35.here hx rfl (pc0 := 298) (pc' := 308) rfl (hb hby at_298) rfl (tlt hc67).1 (by decide) (by decide) k) ?_
                  refine own_go (st' := T35.setTop (mkF m 309 #[oj p0, .second, oj p2, .second, oi p4, oi p5, oi p6, oj m7, .second, oi f9, oj m10, .second, oi n12, oi u13, oi u14, oi n15, oi u16, oi u17, oR b3, oR b19, oi 0, .unset] [(.int (1 : Int32))])) (fun _ k => XS.iconst X35.here hx rfl (hb hby at_308) k) ?_
                  refine own_go (st' := T35.setTop (mkF m 313 #[oj p0, .second, oj p2, .second, oi p4, oi p5, oi p6, oj m7, .second, oi f9, oj m10, .second, oi n12, oi u13, oi u14, oi n15, oi u16, oi u17, oR b3, oR b19, oi 0, .unset] [(.int (1 : Int32))])) (fun _ k => XS.goto X35.here hx rfl (pc0 := 309) (pc' := 313) rfl (hb hby at_309) (by decide) (by decide) k) ?_
                  exact J313_44 _ _ (1 : Int32) _ _ X35 e35 N35 hS35 (by omega) hZ hown AA38 ((own_exp hl_u13 hl_u16 hl_u14 hl_u17 ht_n12 ht_n15).trans (if_pos ⟨hc61, hc62, Or.inr hc66, Or.inl hc67⟩)).symm
                · --
                  refine own_go (st' := T35.setTop (mkF m 301 #[oj p0, .second, oj p2, .second, oi p4, oi p5, oi p6, oj m7, .second, oi f9, oj m10, .second, oi n12, oi u13, oi u14, oi n15, oi u16, oi u17, oR b3, oR b19, oi 0, .unset] [])) (fun _ k => XS.icmpNo X35.here hx rfl (hb hby at_298) rfl (flt hc67).1 k) ?_
                  refine own_go (st' := T35.setTop (mkF m 303 #[oj p0, .second, oj p2, .second, oi p4, oi p5, oi p6, oj m7, .second, oi f9, oj m10, .second, oi n12, oi u13, oi u14, oi n15, oi u16, oi u17, oR b3, oR b19, oi 0, .unset] [(.int u14)])) (fun _ k => XS.iload X35.here hx rfl (hb hby at_301) rfl k) ?_
                  refine own_go (st' := T35.setTop (mkF m 305 #[oj p0, .second, oj p2, .second, oi p4, oi p5, oi p6, oj m7, .second, oi f9, oj m10, .second, oi n12, oi u13, oi u14, oi n15, oi u16, oi u17, oR b3, oR b19, oi 0, .unset] [(.int u17), (.int u14)])) (fun _ k => XS.iload X35.here hx rfl (hb hby at_303) rfl k) ?_
                  by_cases hc68 : u14 = u17
                  · --
                    refine own_go (st' := T35.setTop (mkF m 308 #[oj p0, .second, oj p2, .second, oi p4, oi p5, oi p6, oj m7, .second, oi f9, oj m10, .second, oi n12, oi u13, oi u14, oi n15, oi u16, oi u17, oR b3, oR b19, oi 0, .unset] [])) (fun _ k => XS.icmpNo X35.here hx rfl (hb hby at_305) rfl (teq hc68).2 k) ?_
                    refine own_go (st' := T35.setTop (mkF m 309 #[oj p0, .second, oj p2, .second, oi p4, oi p5, oi p6, oj m7, .second, oi f9, oj m10, .second, oi n12, oi u13, oi u14, oi n15, oi u16, oi u17, oR b3, oR b19, oi 0, .unset] [(.int (1 : Int32))])) (fun _ k => XS.iconst X35.here hx rfl (hb hby at_308) k) ?_
                    refine own_go (st' := T35.setTop (mkF m 313 #[oj p0, .second, oj p2, .second, oi p4, oi p5, oi p6, oj m7, .second, oi f9, oj m10, .second, oi n12, oi u13, oi u14, oi n15, oi u16, oi u17, oR b3, oR b19, oi 0, .unset] [(.int (1 : Int32))])) (fun _ k => XS.goto X35.here hx rfl (pc0 := 309) (pc' := 313) rfl (hb hby at_309) (by decide) (by decide) k) ?_
                    exact J313_44 _ _ (1 : Int32) _ _ X35 e35 N35 hS35 (by omega) hZ hown AA38 ((own_exp hl_u13 hl_u16 hl_u14 hl_u17 ht_n12 ht_n15).trans (if_pos ⟨hc61, hc62, Or.inr hc66, Or.inr hc68⟩)).symm
                  · --
                    refine own_go (st' := T35.setTop (mkF m 312 #[oj p0, .second, oj p2, .second, oi p4, oi p5, oi p6, oj m7, .second, oi f9, oj m10, .second, oi n12, oi u13, oi u14, oi n15, oi u16, oi u17, oR b3, oR b19, oi 0, .unset] [])) (fun _ k => XS.icmpYes X35.here hx rfl (pc0 := 305) (pc' := 312) rfl (hb hby at_305) rfl (feq hc68).2 (by decide) (by decide) k) ?_
                    refine own_go (st' := T35.setTop (mkF m 313 #[oj p0, .second, oj p2, .second, oi p4, oi p5, oi p6, oj m7, .second, oi f9, oj m10, .second, oi n12, oi u13, oi u14, oi n15, oi u16, oi u17, oR b3, oR b19, oi 0, .unset] [(.int (0 : Int32))])) (fun _ k => XS.iconst X35.here hx rfl (hb hby at_312) k) ?_
                    exact J313_44 _ _ (0 : Int32) _ _ X35 e35 N35 hS35 (by omega) hZ hown AA38 ((own_exp hl_u13 hl_u16 hl_u14 hl_u17 ht_n12 ht_n15).trans (if_neg (fun q => q.2.2.2.elim hc67 hc68))).symm
              · --
                refine own_go (st' := T35.setTop (mkF m 312 #[oj p0, .second, oj p2, .second, oi p4, oi p5, oi p6, oj m7, .second, oi f9, oj m10, .second, oi n12, oi u13, oi u14, oi n15, oi u16, oi u17, oR b3, oR b19, oi 0, .unset] [])) (fun _ k => XS.icmpYes X35.here hx rfl (pc0 := 292) (pc' := 312) rfl (hb hby at_292) rfl (feq hc66).2 (by decide) (by decide) k) ?_
                refine own_go (st' := T35.setTop (mkF m 313 #[oj p0, .second, oj p2, .second, oi p4, oi p5, oi p6, oj m7, .second, oi f9, oj m10, .second, oi n12, oi u13, oi u14, oi n15, oi u16, oi u17, oR b3, oR b19, oi 0, .unset] [(.int (0 : Int32))])) (fun _ k => XS.iconst X35.here hx rfl (hb hby at_312) k) ?_
                exact J313_44 _ _ (0 : Int32) _ _ X35 e35 N35 hS35 (by omega) hZ hown AA38 ((own_exp hl_u13 hl_u16 hl_u14 hl_u17 ht_n12 ht_n15).trans (if_neg (fun q => q.2.2.1.elim hc63 hc66))).symm
          · --
            refine own_go (st' := T35.setTop (mkF m 312 #[oj p0, .second, oj p2, .second, oi p4, oi p5, oi p6, oj m7, .second, oi f9, oj m10, .second, oi n12, oi u13, oi u14, oi n15, oi u16, oi u17, oR b3, oR b19, oi 0, .unset] [])) (fun _ k => XS.icmpYes X35.here hx rfl (pc0 := 279) (pc' := 312) rfl (hb hby at_279) rfl (feq hc62).2 (by decide) (by decide) k) ?_
            refine own_go (st' := T35.setTop (mkF m 313 #[oj p0, .second, oj p2, .second, oi p4, oi p5, oi p6, oj m7, .second, oi f9, oj m10, .second, oi n12, oi u13, oi u14, oi n15, oi u16, oi u17, oR b3, oR b19, oi 0, .unset] [(.int (0 : Int32))])) (fun _ k => XS.iconst X35.here hx rfl (hb hby at_312) k) ?_
            exact J313_44 _ _ (0 : Int32) _ _ X35 e35 N35 hS35 (by omega) hZ hown AA38 ((own_exp hl_u13 hl_u16 hl_u14 hl_u17 ht_n12 ht_n15).trans (if_neg (fun q => hc62 q.2.1))).symm
        · --
          refine own_go (st' := T35.setTop (mkF m 312 #[oj p0, .second, oj p2, .second, oi p4, oi p5, oi p6, oj m7, .second, oi f9, oj m10, .second, oi n12, oi u13, oi u14, oi n15, oi u16, oi u17, oR b3, oR b19, oi 0, .unset] [])) (fun _ k => XS.ifYes X35.here hx rfl (pc0 := 272) (pc' := 312) rfl (hb hby at_272) rfl ((if0 _ _).trans (feq (fun q_ => hc61 ((lw_eq m7 m10).mp q_))).2) (by decide) (by decide) k) ?_
          refine own_go (st' := T35.setTop (mkF m 313 #[oj p0, .second, oj p2, .second, oi p4, oi p5, oi p6, oj m7, .second, oi f9, oj m10, .second, oi n12, oi u13, oi u14, oi n15, oi u16, oi u17, oR b3, oR b19, oi 0, .unset] [(.int (0 : Int32))])) (fun _ k => XS.iconst X35.here hx rfl (hb hby at_312) k) ?_
          exact J313_44 _ _ (0 : Int32) _ _ X35 e35 N35 hS35 (by omega) hZ hown AA38 ((own_exp hl_u13 hl_u16 hl_u14 hl_u17 ht_n12 ht_n15).trans (if_neg (fun q => hc61 q.1))).symm
      · --
        refine own_go (st' := T35.setTop (mkF m 194 #[oj p0, .second, oj p2, .second, oi p4, oi p5, oi p6, oj m7, .second, oi f9, oj m10, .second, oi n12, oi u13, oi u14, oi n15, oi u16, oi u17, oR b3, oR b19, oi 1, .unset] [])) (fun _ k => XS.istore X35.here hx rfl (hb hby at_192) rfl (l' := #[oj p0, .second, oj p2, .second, oi p4, oi p5, oi p6, oj m7, .second, oi f9, oj m10, .second, oi n12, oi u13, oi u14, oi n15, oi u16, oi u17, oR b3, oR b19, oi 1, .unset]) rfl k) ?_
        refine own_go (st' := T35.setTop (mkF m 196 #[oj p0, .second, oj p2, .second, oi p4, oi p5, oi p6, oj m7, .second, oi f9, oj m10, .second, oi n12, oi u13, oi u14, oi n15, oi u16, oi u17, oR b3, oR b19, oi 1, .unset] [(.int (1 : Int32))])) (fun _ k => XS.iload X35.here hx rfl (hb hby at_194) rfl k) ?_
        refine own_go (st' := T35.setTop (mkF m 197 #[oj p0, .second, oj p2, .second, oi p4, oi p5, oi p6, oj m7, .second, oi f9, oj m10, .second, oi n12, oi u13, oi u14, oi n15, oi u16, oi u17, oR b3, oR b19, oi 1, .unset] [(.int (1 : Int32)), (.int (1 : Int32))])) (fun _ k => XS.iconst X35.here hx rfl (hb hby at_196) k) ?_
        have hc69 : (1 : Int32) = (1 : Int32) := by decide
        refine own_go (st' := T35.setTop (mkF m 200 #[oj p0, .second, oj p2, .second, oi p4, oi p5, oi p6, oj m7, .second, oi f9, oj m10, .second, oi n12, oi u13, oi u14, oi n15, oi u16, oi u17, oR b3, oR b19, oi 1, .unset] [])) (fun _ k => XS.icmpNo X35.here hx rfl (hb hby at_197) rfl (teq hc69).2 k) ?_
        refine own_go (st' := T35.setTop (mkF m 202 #[oj p0, .second, oj p2, .second, oi p4, oi p5, oi p6, oj m7, .second, oi f9, oj m10, .second, oi n12, oi u13, oi u14, oi n15, oi u16, oi u17, oR b3, oR b19, oi 1, .unset] [(.ref b3)])) (fun _ k => XS.aload X35.here hx rfl (hb hby at_200) rfl rfl k) ?_
        refine own_go (st' := T35.setTop (mkF m 203 #[oj p0, .second, oj p2, .second, oi p4, oi p5, oi p6, oj m7, .second, oi f9, oj m10, .second, oi n12, oi u13, oi u14, oi n15, oi u16, oi u17, oR b3, oR b19, oi 1, .unset] [.null, (.ref b3)])) (fun _ k => XS.aconstNull X35.here hx rfl (hb hby at_202) k) ?_
        obtain ⟨cq70, kq70, q70a, q70b, q70c⟩ := isOf hZ e35 c39
        obtain ⟨_, _, ⟨T70, LC70, kC70, nC70⟩, -, X70, ⟨Lc70, hQ70, lq70, yq70, zq70⟩, st70⟩ := X35.virtualBack hx (y := oM1) (z := oM1) hown (mvT hZ (own_hw hw 47)) (mvT hZ (own_hw hw 48)) (notFace_of_selects (args := #[]) (mvT hZ (own_hw hw 50))) (mvT hZ (own_hw hw 50)) (mvT hZ (own_hw hw 49)) (by decide) (backOf (W := 0) (rte_null l Z a0 hw [] b3 h35 n0 (by omega) ) hZ (own_hw hw 51) (own_hw hw 3) (by decide) (by decide)) q70a q70c (g := (mkF m 203 #[oj p0, .second, oj p2, .second, oi p4, oi p5, oi p6, oj m7, .second, oi f9, oj m10, .second, oi n12, oi u13, oi u14, oi n15, oi u16, oi u17, oR b3, oR b19, oi 1, .unset] [.null, (.ref b3)])) rfl (by rw [hml]; rfl) (Steps.refl _) (argsL := [.null]) (rest := []) (lenOf pd_10 rfl) rfl (by show 2 * 0 + _ ≤ _; exact Nat.le_of_eq rfl) (hb hby at_203) (fun _ _ => ⟨rfl, e35, (by decide : 14 + 0 ≤ _), (by decide : 92 + 0 ≤ _)⟩)
        dsimp only [Pt.U, Pt.locs, Pt.cells, Pt.slots] at X70 lq70 yq70 zq70 st70 hQ70
        subst lq70 yq70 zq70
        obtain ⟨rfl, Nq70, eq70⟩ := hQ70
        have N70 := Fr.app N35 Nq70
        refine own_go (st' := T70.setTop (mkF m 206 #[oj p0, .second, oj p2, .second, oi p4, oi p5, oi p6, oj m7, .second, oi f9, oj m10, .second, oi n12, oi u13, oi u14, oi n15, oi u16, oi u17, oR b3, oR b19, oi 1, .unset] [(.int (0 : Int32))])) (fun _ k => st70.trans k) ?_
        have hc71 : (0 : Int32) = (0 : Int32) := by decide
        refine own_go (st' := T70.setTop (mkF m 209 #[oj p0, .second, oj p2, .second, oi p4, oi p5, oi p6, oj m7, .second, oi f9, oj m10, .second, oi n12, oi u13, oi u14, oi n15, oi u16, oi u17, oR b3, oR b19, oi 1, .unset] [])) (fun _ k => XS.ifNo X70.here hx rfl (hb hby at_206) rfl ((if0 _ _).trans (teq hc71).2) k) ?_
        refine own_go (st' := T70.setTop (mkF m 210 #[oj p0, .second, oj p2, .second, oi p4, oi p5, oi p6, oj m7, .second, oi f9, oj m10, .second, oi n12, oi u13, oi u14, oi n15, oi u16, oi u17, oR b3, oR b19, oi 1, .unset] [(.int (1 : Int32))])) (fun _ k => XS.iconst X70.here hx rfl (hb hby at_209) k) ?_
        refine own_go (st' := T70.setTop (mkF m 214 #[oj p0, .second, oj p2, .second, oi p4, oi p5, oi p6, oj m7, .second, oi f9, oj m10, .second, oi n12, oi u13, oi u14, oi n15, oi u16, oi u17, oR b3, oR b19, oi 1, .unset] [(.int (1 : Int32))])) (fun _ k => XS.goto X70.here hx rfl (pc0 := 210) (pc' := 214) rfl (hb hby at_210) (by decide) (by decide) k) ?_
        obtain ⟨fs, hr, hrun, hended, hR1, hR2, hR3, hR4⟩ := X70.leaveW hS35 (by rw [eq70]; omega) (v := some (.int (1 : Int32))) (fun h => by rw [Bd.returns] at h; cases h)
        refine ⟨_, _, ?_, hP _ _ hrun hended ⟨_, _, rfl, ?_, hR1, hR2, hR3, hR4.mono (by decide) (by decide)⟩⟩
        · exact retN X70 hx (t := .boolean) Bd.returns (by simp) (hb hby at_214) hr
        · show Qrm0 Z p0 p2 p4 p5 p6 cal zc h0 n0 _ T70.heap _
          rw [eq70]
          exact ⟨rfl, N70, trivial⟩
      · --
        refine own_go (st' := T35.setTop (mkF m 194 #[oj p0, .second, oj p2, .second, oi p4, oi p5, oi p6, oj m7, .second, oi f9, oj m10, .second, oi n12, oi u13, oi u14, oi n15, oi u16, oi u17, oR b3, oR b19, oi 2, .unset] [])) (fun _ k => XS.istore X35.here hx rfl (hb hby at_192) rfl (l' := #[oj p0, .second, oj p2, .second, oi p4, oi p5, oi p6, oj m7, .second, oi f9, oj m10, .second, oi n12, oi u13, oi u14, oi n15, oi u16, oi u17, oR b3, oR b19, oi 2, .unset]) rfl k) ?_
        refine own_go (st' := T35.setTop (mkF m 196 #[oj p0, .second, oj p2, .second, oi p4, oi p5, oi p6, oj m7, .second, oi f9, oj m10, .second, oi n12, oi u13, oi u14, oi n15, oi u16, oi u17, oR b3, oR b19, oi 2, .unset] [(.int (2 : Int32))])) (fun _ k => XS.iload X35.here hx rfl (hb hby at_194) rfl k) ?_
        refine own_go (st' := T35.setTop (mkF m 197 #[oj p0, .second, oj p2, .second, oi p4, oi p5, oi p6, oj m7, .second, oi f9, oj m10, .second, oi n12, oi u13, oi u14, oi n15, oi u16, oi u17, oR b3, oR b19, oi 2, .unset] [(.int (1 : Int32)), (.int (2 : Int32))])) (fun _ k => XS.iconst X35.here hx rfl (hb hby at_196) k) ?_
        have hc73 : ¬ ((2 : Int32) = (1 : Int32)) := by decide
        refine own_go (st' := T35.setTop (mkF m 215 #[oj p0, .second, oj p2, .second, oi p4, oi p5, oi p6, oj m7, .second, oi f9, oj m10, .second, oi n12, oi u13, oi u14, oi n15, oi u16, oi u17, oR b3, oR b19, oi 2, .unset] [])) (fun _ k => XS.icmpYes X35.here hx rfl (pc0 := 197) (pc' := 215) rfl (hb hby at_197) rfl (feq hc73).2 (by decide) (by decide) k) ?_
        refine own_go (st' := T35.setTop (mkF m 217 #[oj p0, .second, oj p2, .second, oi p4, oi p5, oi p6, oj m7, .second, oi f9, oj m10, .second, oi n12, oi u13, oi u14, oi n15, oi u16, oi u17, oR b3, oR b19, oi 2, .unset] [(.int (2 : Int32))])) (fun _ k => XS.iload X35.here hx rfl (hb hby at_215) rfl k) ?_
        refine own_go (st' := T35.setTop (mkF m 218 #[oj p0, .second, oj p2, .second, oi p4, oi p5, oi p6, oj m7, .second, oi f9, oj m10, .second, oi n12, oi u13, oi u14, oi n15, oi u16, oi u17, oR b3, oR b19, oi 2, .unset] [(.int (2 : Int32)), (.int (2 : Int32))])) (fun _ k => XS.iconst X35.here hx rfl (hb hby at_217) k) ?_
        have hc74 : (2 : Int32) = (2 : Int32) := by decide
        refine own_go (st' := T35.setTop (mkF m 221 #[oj p0, .second, oj p2, .second, oi p4, oi p5, oi p6, oj m7, .second, oi f9, oj m10, .second, oi n12, oi u13, oi u14, oi n15, oi u16, oi u17, oR b3, oR b19, oi 2, .unset] [])) (fun _ k => XS.icmpNo X35.here hx rfl (hb hby at_218) rfl (teq hc74).2 k) ?_
        refine own_go (st' := T35.setTop (mkF m 223 #[oj p0, .second, oj p2, .second, oi p4, oi p5, oi p6, oj m7, .second, oi f9, oj m10, .second, oi n12, oi u13, oi u14, oi n15, oi u16, oi u17, oR b3, oR b19, oi 2, .unset] [(.ref b3)])) (fun _ k => XS.aload X35.here hx rfl (hb hby at_221) rfl rfl k) ?_
        refine own_go (st' := T35.setTop (mkF m 225 #[oj p0, .second, oj p2, .second, oi p4, oi p5, oi p6, oj m7, .second, oi f9, oj m10, .second, oi n12, oi u13, oi u14, oi n15, oi u16, oi u17, oR b3, oR b19, oi 2, .unset] [(.ref b3), (.ref b3)])) (fun _ k => XS.aload X35.here hx rfl (hb hby at_223) rfl rfl k) ?_
        have c76 : Fld Z h35 b3 oS1 "metadata" oS3 (.ref a1_6) := (((g14_1.ext E19).keep K22 nin0).keep K35 (ninS (own_ne (by omega)) nin0))
        have c77 : Fld Z h35 b3 oS1 "offset" "J" (.long m7) := (((g14_2.ext E19).keep K22 nin0).keep K35 (ninS (own_ne (by omega)) nin0))
        have c78 : Exa Z h35 a1_6 oS0 := (c32.keep K35)
        obtain ⟨cq75, kq75, q75a, q75b, q75c⟩ := isOf hZ e35 c39
        obtain ⟨_, _, ⟨T75, LC75, kC75, nC75⟩, -, X75, ⟨Lc75, hQ75, lq75, yq75, zq75⟩, st75⟩ := X35.virtualBack hx (y := oM1) (z := oM1) hown (mvT hZ (own_hw hw 47)) (mvT hZ (own_hw hw 48)) (notFace_of_selects (args := #[]) (mvT hZ (own_hw hw 50))) (mvT hZ (own_hw hw 50)) (mvT hZ (own_hw hw 49)) (by decide) (backOf (W := 0) (rte_self l Z a0 hw [] b3 a1_6 m7 h35 n0 (by omega) c39 c76 c77 c78) hZ (own_hw hw 51) (own_hw hw 3) (by decide) (by decide)) q75a q75c (g := (mkF m 225 #[oj p0, .second, oj p2, .second, oi p4, oi p5, oi p6, oj m7, .second, oi f9, oj m10, .second, oi n12, oi u13, oi u14, oi n15, oi u16, oi u17, oR b3, oR b19, oi 2, .unset] [(.ref b3), (.ref b3)])) rfl (by rw [hml]; rfl) (Steps.refl _) (argsL := [(.ref b3)]) (rest := []) (lenOf pd_10 rfl) rfl (by show 2 * 0 + _ ≤ _; exact Nat.le_of_eq rfl) (hb hby at_225) (fun _ _ => ⟨rfl, e35, (by decide : 14 + 0 ≤ _), (by decide : 92 + 0 ≤ _)⟩)
        dsimp only [Pt.U, Pt.locs, Pt.cells, Pt.slots] at X75 lq75 yq75 zq75 st75 hQ75
        subst lq75 yq75 zq75
        obtain ⟨rfl, Nq75, eq75⟩ := hQ75
        have N75 := Fr.app N35 Nq75
        refine own_go (st' := T75.setTop (mkF m 228 #[oj p0, .second, oj p2, .second, oi p4, oi p5, oi p6, oj m7, .second, oi f9, oj m10, .second, oi n12, oi u13, oi u14, oi n15, oi u16, oi u17, oR b3, oR b19, oi 2, .unset] [(.int (1 : Int32))])) (fun _ k => st75.trans k) ?_
        obtain ⟨fs, hr, hrun, hended, hR1, hR2, hR3, hR4⟩ := X75.leaveW hS35 (by rw [eq75]; omega) (v := some (.int (1 : Int32))) (fun h => by rw [Bd.returns] at h; cases h)
        refine ⟨_, _, ?_, hP _ _ hrun hended ⟨_, _, rfl, ?_, hR1, hR2, hR3, hR4.mono (by decide) (by decide)⟩⟩
        · exact retN X75 hx (t := .boolean) Bd.returns (by simp) (hb hby at_228) hr
        · show Qrm0 Z p0 p2 p4 p5 p6 cal zc h0 n0 _ T75.heap _
          rw [eq75]
          exact ⟨rfl, N75, trivial⟩
      · --
        refine own_go (st' := T35.setTop (mkF m 194 #[oj p0, .second, oj p2, .second, oi p4, oi p5, oi p6, oj m7, .second, oi f9, oj m10, .second, oi n12, oi u13, oi u14, oi n15, oi u16, oi u17, oR b3, oR b19, oi 3, .unset] [])) (fun _ k => XS.istore X35.here hx rfl (hb hby at_192) rfl (l' := #[oj p0, .second, oj p2, .second, oi p4, oi p5, oi p6, oj m7, .second, oi f9, oj m10, .second, oi n12, oi u13, oi u14, oi n15, oi u16, oi u17, oR b3, oR b19, oi 3, .unset]) rfl k) ?_
        refine own_go (st' := T35.setTop (mkF m 196 #[oj p0, .second, oj p2, .second, oi p4, oi p5, oi p6, oj m7, .second, oi f9, oj m10, .second, oi n12, oi u13, oi u14, oi n15, oi u16, oi u17, oR b3, oR b19, oi 3, .unset] [(.int (3 : Int32))])) (fun _ k => XS.iload X35.here hx rfl (hb hby at_194) rfl k) ?_
        refine own_go (st' := T35.setTop (mkF m 197 #[oj p0, .second, oj p2, .second, oi p4, oi p5, oi p6, oj m7, .second, oi f9, oj m10, .second, oi n12, oi u13, oi u14, oi n15, oi u16, oi u17, oR b3, oR b19, oi 3, .unset] [(.int (1 : Int32)), (.int (3 : Int32))])) (fun _ k => XS.iconst X35.here hx rfl (hb hby at_196) k) ?_
        have hc80 : ¬ ((3 : Int32) = (1 : Int32)) := by decide
        refine own_go (st' := T35.setTop (mkF m 215 #[oj p0, .second, oj p2, .second, oi p4, oi p5, oi p6, oj m7, .second, oi f9, oj m10, .second, oi n12, oi u13, oi u14, oi n15, oi u16, oi u17, oR b3, oR b19, oi 3, .unset] [])) (fun _ k => XS.icmpYes X35.here hx rfl (pc0 := 197) (pc' := 215) rfl (hb hby at_197) rfl (feq hc80).2 (by decide) (by decide) k) ?_
        refine own_go (st' := T35.setTop (mkF m 217 #[oj p0, .second, oj p2, .second, oi p4, oi p5, oi p6, oj m7, .second, oi f9, oj m10, .second, oi n12, oi u13, oi u14, oi n15, oi u16, oi u17, oR b3, oR b19, oi 3, .unset] [(.int (3 : Int32))])) (fun _ k => XS.iload X35.here hx rfl (hb hby at_215) rfl k) ?_
        refine own_go (st' := T35.setTop (mkF m 218 #[oj p0, .second, oj p2, .second, oi p4, oi p5, oi p6, oj m7, .second, oi f9, oj m10, .second, oi n12, oi u13, oi u14, oi n15, oi u16, oi u17, oR b3, oR b19, oi 3, .unset] [(.int (2 : Int32)), (.int (3 : Int32))])) (fun _ k => XS.iconst X35.here hx rfl (hb hby at_217) k) ?_
        have hc81 : ¬ ((3 : Int32) = (2 : Int32)) := by decide
        refine own_go (st' := T35.setTop (mkF m 229 #[oj p0, .second, oj p2, .second, oi p4, oi p5, oi p6, oj m7, .second, oi f9, oj m10, .second, oi n12, oi u13, oi u14, oi n15, oi u16, oi u17, oR b3, oR b19, oi 3, .unset] [])) (fun _ k => XS.icmpYes X35.here hx rfl (pc0 := 218) (pc' := 229) rfl (hb hby at_218) rfl (feq hc81).2 (by decide) (by decide) k) ?_
        refine own_go (st' := T35.setTop (mkF m 231 #[oj p0, .second, oj p2, .second, oi p4, oi p5, oi p6, oj m7, .second, oi f9, oj m10, .second, oi n12, oi u13, oi u14, oi n15, oi u16, oi u17, oR b3, oR b19, oi 3, .unset] [(.int (3 : Int32))])) (fun _ k => XS.iload X35.here hx rfl (hb hby at_229) rfl k) ?_
        refine own_go (st' := T35.setTop (mkF m 232 #[oj p0, .second, oj p2, .second, oi p4, oi p5, oi p6, oj m7, .second, oi f9, oj m10, .second, oi n12, oi u13, oi u14, oi n15, oi u16, oi u17, oR b3, oR b19, oi 3, .unset] [(.int (3 : Int32)), (.int (3 : Int32))])) (fun _ k => XS.iconst X35.here hx rfl (hb hby at_231) k) ?_
        have hc82 : (3 : Int32) = (3 : Int32) := by decide
        refine own_go (st' := T35.setTop (mkF m 235 #[oj p0, .second, oj p2, .second, oi p4, oi p5, oi p6, oj m7, .second, oi f9, oj m10, .second, oi n12, oi u13, oi u14, oi n15, oi u16, oi u17, oR b3, oR b19, oi 3, .unset] [])) (fun _ k => XS.icmpNo X35.here hx rfl (hb hby at_232) rfl (teq hc82).2 k) ?_
        refine own_go (st' := T35.setTop (mkF m 237 #[oj p0, .second, oj p2, .second, oi p4, oi p5, oi p6, oj m7, .second, oi f9, oj m10, .second, oi n12, oi u13, oi u14, oi n15, oi u16, oi u17, oR b3, oR b19, oi 3, .unset] [(.ref b3)])) (fun _ k => XS.aload X35.here hx rfl (hb hby at_235) rfl rfl k) ?_
        refine own_go (st' := T35.setTop (mkF m 239 #[oj p0, .second, oj p2, .second, oi p4, oi p5, oi p6, oj m7, .second, oi f9, oj m10, .second, oi n12, oi u13, oi u14, oi n15, oi u16, oi u17, oR b3, oR b19, oi 3, .unset] [(.ref b3), (.ref b3)])) (fun _ k => XS.aload X35.here hx rfl (hb hby at_237) rfl rfl k) ?_
        have c84 : Fld Z h35 b3 oS1 "metadata" oS3 (.ref a1_6) := (((g14_1.ext E19).keep K22 nin0).keep K35 (ninS (own_ne (by omega)) nin0))
        obtain ⟨cq83, kq83, q83a, q83b, q83c⟩ := isOf hZ e35 c39
        obtain ⟨_, _, ⟨T83, LC83, kC83, nC83⟩, -, X83, ⟨Lc83, hQ83, lq83, yq83, zq83⟩, st83⟩ := X35.virtualBack hx (y := oM11) (z := oM11) hown (mvT hZ (own_hw hw 66)) (mvT hZ (own_hw hw 67)) (notFace_of_selects (args := #[]) (mvT hZ (own_hw hw 69))) (mvT hZ (own_hw hw 69)) (mvT hZ (own_hw hw 68)) (by decide) (backOf (W := 1) (rm11 l Z a0 hw [] b3 a1_6 h35 n0 (by omega) c84) hZ (own_hw hw 70) (own_hw hw 3) (by decide) (by decide)) q83a q83c (g := (mkF m 239 #[oj p0, .second, oj p2, .second, oi p4, oi p5, oi p6, oj m7, .second, oi f9, oj m10, .second, oi n12, oi u13, oi u14, oi n15, oi u16, oi u17, oR b3, oR b19, oi 3, .unset] [(.ref b3), (.ref b3)])) rfl (by rw [hml]; rfl) (Steps.refl _) (argsL := []) (rest := [(.ref b3)]) (lenOf pd_13 rfl) rfl (by show 2 * 0 + _ ≤ _; exact Nat.le_of_eq rfl) (hb hby at_239) (fun _ _ => ⟨rfl, e35, (by decide : 14 + 0 ≤ _), (by decide : 92 + 0 ≤ _)⟩)
        dsimp only [Pt.U, Pt.locs, Pt.cells, Pt.slots] at X83 lq83 yq83 zq83 st83 hQ83
        subst lq83 yq83 zq83
        obtain ⟨rfl, Nq83, eq83⟩ := hQ83
        have N83 := Fr.app N35 Nq83
        refine own_go (st' := T83.setTop (mkF m 242 #[oj p0, .second, oj p2, .second, oi p4, oi p5, oi p6, oj m7, .second, oi f9, oj m10, .second, oi n12, oi u13, oi u14, oi n15, oi u16, oi u17, oR b3, oR b19, oi 3, .unset] [(.ref a1_6), (.ref b3)])) (fun _ k => st83.trans k) ?_
        have c86 : Exa Z h35 a1_6 oS0 := (c32.keep K35)
        obtain ⟨cq85, kq85, q85a, q85b, q85c⟩ := isOf hZ eq83 c39
        obtain ⟨_, _, ⟨T85, LC85, kC85, nC85⟩, -, X85, ⟨Lc85, hQ85, lq85, yq85, zq85⟩, st85⟩ := X83.virtualBack hx (y := oM1) (z := oM1) hown (mvT hZ (own_hw hw 47)) (mvT hZ (own_hw hw 48)) (notFace_of_selects (args := #[]) (mvT hZ (own_hw hw 50))) (mvT hZ (own_hw hw 50)) (mvT hZ (own_hw hw 49)) (by decide) (backOf (W := 0) (rte_str l Z a0 hw [] b3 a1_6 h35 n0 (by omega) c86) hZ (own_hw hw 51) (own_hw hw 3) (by decide) (by decide)) q85a q85c (g := (mkF m 242 #[oj p0, .second, oj p2, .second, oi p4, oi p5, oi p6, oj m7, .second, oi f9, oj m10, .second, oi n12, oi u13, oi u14, oi n15, oi u16, oi u17, oR b3, oR b19, oi 3, .unset] [(.ref a1_6), (.ref b3)])) rfl (by rw [hml]; rfl) (Steps.refl _) (argsL := [(.ref a1_6)]) (rest := []) (lenOf pd_10 rfl) rfl (by show 2 * 0 + _ ≤ _; exact Nat.le_of_eq rfl) (hb hby at_242) (fun _ _ => ⟨rfl, eq83, (by decide : 14 + 0 ≤ _), (by decide : 92 + 0 ≤ _)⟩)
        dsimp only [Pt.U, Pt.locs, Pt.cells, Pt.slots] at X85 lq85 yq85 zq85 st85 hQ85
        subst lq85 yq85 zq85
        obtain ⟨rfl, Nq85, eq85⟩ := hQ85
        have N85 := Fr.app N83 Nq85
        refine own_go (st' := T85.setTop (mkF m 245 #[oj p0, .second, oj p2, .second, oi p4, oi p5, oi p6, oj m7, .second, oi f9, oj m10, .second, oi n12, oi u13, oi u14, oi n15, oi u16, oi u17, oR b3, oR b19, oi 3, .unset] [(.int (0 : Int32))])) (fun _ k => st85.trans k) ?_
        have hc87 : (0 : Int32) = (0 : Int32) := by decide
        refine own_go (st' := T85.setTop (mkF m 248 #[oj p0, .second, oj p2, .second, oi p4, oi p5, oi p6, oj m7, .second, oi f9, oj m10, .second, oi n12, oi u13, oi u14, oi n15, oi u16, oi u17, oR b3, oR b19, oi 3, .unset] [])) (fun _ k => XS.ifNo X85.here hx rfl (hb hby at_245) rfl ((if0 _ _).trans (teq hc87).2) k) ?_
        refine own_go (st' := T85.setTop (mkF m 250 #[oj p0, .second, oj p2, .second, oi p4, oi p5, oi p6, oj m7, .second, oi f9, oj m10, .second, oi n12, oi u13, oi u14, oi n15, oi u16, oi u17, oR b3, oR b19, oi 3, .unset] [(.ref b3)])) (fun _ k => XS.aload X85.here hx rfl (hb hby at_248) rfl rfl k) ?_
        refine own_go (st' := T85.setTop (mkF m 252 #[oj p0, .second, oj p2, .second, oi p4, oi p5, oi p6, oj m7, .second, oi f9, oj m10, .second, oi n12, oi u13, oi u14, oi n15, oi u16, oi u17, oR b3, oR b19, oi 3, .unset] [(.long m7), (.ref b3)])) (fun _ k => XS.lload X85.here hx rfl (hb hby at_250) rfl k) ?_
        have c89 : Sta Z h35 "java/lang/Long$LongCache" "cache" "[Ljava/lang/Long;" (.ref cal) := (own_sta_keep (own_sta_keep ((own_sta_keep (own_sta_keep (pr1.ext E3) K6 all0) K14 (allS (P := fun x => ∀ c : Cell, h6[x]? = some c → c.vm.isStatics = false) (own_pl_exa c11) all0)).ext E19) K22 all0) K35 (allS (P := fun x => ∀ c : Cell, h22[x]? = some c → c.vm.isStatics = false) (own_pl_exa c29) all0))
        have c90 : own_CacheL Z h35 cal := (own_CacheL_keep (own_CacheL_keep (own_CacheL_ext (own_CacheL_keep (own_CacheL_keep (own_CacheL_ext pr2 E3) K6 nin0) K14 (ninS (own_ne (by omega)) nin0)) E19) K22 nin0) K35 (ninS (own_ne (by omega)) nin0))
        obtain ⟨_, _, ⟨T88, LC88, kC88, nC88⟩, -, X88, ⟨Lc88, hQ88, lq88, yq88, zq88⟩, st88⟩ := Jvm.LawKit.callS X85 hx (y := oM13) hown (mvT hZ (own_hw hw 73)) (mvT hZ (own_hw hw 74)) (mvT hZ (own_hw hw 75)) (mvT hZ (own_hw hw 76)) (by decide) (backOf (W := 1) (rm12 l Z a0 hw [] m7 cal h35 n0 (by omega) c89 c90) hZ (own_hw hw 76) (own_hw hw 75) (by decide) (by decide)) (g := (mkF m 252 #[oj p0, .second, oj p2, .second, oi p4, oi p5, oi p6, oj m7, .second, oi f9, oj m10, .second, oi n12, oi u13, oi u14, oi n15, oi u16, oi u17, oR b3, oR b19, oi 3, .unset] [(.long m7), (.ref b3)])) rfl (by rw [hml]; rfl) (argsL := [(.long m7)]) (rest := [(.ref b3)]) (lenOf pd_14 rfl) rfl (by show 2 * 0 + _ ≤ _; exact Nat.le_of_eq rfl) (hb hby at_252) (fun _ _ => ⟨rfl, eq85, (by decide : 14 + 1 ≤ _), (by decide : 92 + 1 ≤ _)⟩)
        dsimp only [Pt.U, Pt.locs, Pt.cells, Pt.slots] at X88 lq88 yq88 zq88 st88 hQ88
        subst lq88 yq88 zq88
        obtain ⟨h88, e88⟩ : ∃ z, T88.heap = z := ⟨_, rfl⟩
        rw [e88] at hQ88
        obtain ⟨r_88, rfl, Nq88, K88, g88_0⟩ := hQ88
        have sz88 : h35.size ≤ h88.size := K88.1
        have N88 := Fr.app N85 Nq88
        have lt88_1 : @LT.lt Nat _ r_88 h88.size := g88_0.lt
        refine own_go (st' := T88.setTop (mkF m 255 #[oj p0, .second, oj p2, .second, oi p4, oi p5, oi p6, oj m7, .second, oi f9, oj m10, .second, oi n12, oi u13, oi u14, oi n15, oi u16, oi u17, oR b3, oR b19, oi 3, .unset] [(.ref r_88), (.ref b3)])) (fun t k => st88 t k) ?_
        have c92 : Exa Z h88 b3 oS1 := (c39.keep K88)
        obtain ⟨cq91, kq91, q91a, q91b, q91c⟩ := isOf hZ e88 c92
        obtain ⟨_, _, ⟨T91, LC91, kC91, nC91⟩, -, X91, ⟨Lc91, hQ91, lq91, yq91, zq91⟩, st91⟩ := X88.virtualBack hx (y := oM1) (z := oM1) hown (mvT hZ (own_hw hw 47)) (mvT hZ (own_hw hw 48)) (notFace_of_selects (args := #[]) (mvT hZ (own_hw hw 50))) (mvT hZ (own_hw hw 50)) (mvT hZ (own_hw hw 49)) (by decide) (backOf (W := 0) (rte_lng l Z a0 hw [] b3 r_88 h88 n0 (by omega) g88_0) hZ (own_hw hw 51) (own_hw hw 3) (by decide) (by decide)) q91a q91c (g := (mkF m 255 #[oj p0, .second, oj p2, .second, oi p4, oi p5, oi p6, oj m7, .second, oi f9, oj m10, .second, oi n12, oi u13, oi u14, oi n15, oi u16, oi u17, oR b3, oR b19, oi 3, .unset] [(.ref r_88), (.ref b3)])) rfl (by rw [hml]; rfl) (Steps.refl _) (argsL := [(.ref r_88)]) (rest := []) (lenOf pd_10 rfl) rfl (by show 2 * 0 + _ ≤ _; exact Nat.le_of_eq rfl) (hb hby at_255) (fun _ _ => ⟨rfl, e88, (by decide : 15 + 0 ≤ _), (by decide : 93 + 0 ≤ _)⟩)
        dsimp only [Pt.U, Pt.locs, Pt.cells, Pt.slots] at X91 lq91 yq91 zq91 st91 hQ91
        subst lq91 yq91 zq91
        obtain ⟨rfl, Nq91, eq91⟩ := hQ91
        have N91 := Fr.app N88 Nq91
        refine own_go (st' := T91.setTop (mkF m 258 #[oj p0, .second, oj p2, .second, oi p4, oi p5, oi p6, oj m7, .second, oi f9, oj m10, .second, oi n12, oi u13, oi u14, oi n15, oi u16, oi u17, oR b3, oR b19, oi 3, .unset] [(.int (0 : Int32))])) (fun _ k => st91.trans k) ?_
        have hc93 : (0 : Int32) = (0 : Int32) := by decide
        refine own_go (st' := T91.setTop (mkF m 261 #[oj p0, .second, oj p2, .second, oi p4, oi p5, oi p6, oj m7, .second, oi f9, oj m10, .second, oi n12, oi u13, oi u14, oi n15, oi u16, oi u17, oR b3, oR b19, oi 3, .unset] [])) (fun _ k => XS.ifNo X91.here hx rfl (hb hby at_258) rfl ((if0 _ _).trans (teq hc93).2) k) ?_
        refine own_go (st' := T91.setTop (mkF m 262 #[oj p0, .second, oj p2, .second, oi p4, oi p5, oi p6, oj m7, .second, oi f9, oj m10, .second, oi n12, oi u13, oi u14, oi n15, oi u16, oi u17, oR b3, oR b19, oi 3, .unset] [(.int (1 : Int32))])) (fun _ k => XS.iconst X91.here hx rfl (hb hby at_261) k) ?_
        refine own_go (st' := T91.setTop (mkF m 266 #[oj p0, .second, oj p2, .second, oi p4, oi p5, oi p6, oj m7, .second, oi f9, oj m10, .second, oi n12, oi u13, oi u14, oi n15, oi u16, oi u17, oR b3, oR b19, oi 3, .unset] [(.int (1 : Int32))])) (fun _ k => XS.goto X91.here hx rfl (pc0 := 262) (pc' := 266) rfl (hb hby at_262) (by decide) (by decide) k) ?_
        obtain ⟨fs, hr, hrun, hended, hR1, hR2, hR3, hR4⟩ := X91.leaveW hS35 (by rw [eq91]; omega) (v := some (.int (1 : Int32))) (fun h => by rw [Bd.returns] at h; cases h)
        refine ⟨_, _, ?_, hP _ _ hrun hended ⟨_, _, rfl, ?_, hR1, hR2, hR3, hR4.mono (by decide) (by decide)⟩⟩
        · exact retN X91 hx (t := .boolean) Bd.returns (by simp) (hb hby at_266) hr
        · show Qrm0 Z p0 p2 p4 p5 p6 cal zc h0 n0 _ T91.heap _
          rw [eq91]
          exact ⟨rfl, N91, trivial⟩
    refine own_go (st' := Tj1.setTop (mkF m 92 #[oj p0, .second, oj p2, .second, oi p4, oi p5, oi p6, oj m7, .second, oi f9, oj m10, .second, oi n12, oi u13, oi u14, .unset, .unset, .unset, .unset, .unset, .unset, .unset] [(.int p6)])) (fun _ k => XS.iload Xj1.here hx rfl (hb hby at_90) rfl k) ?_
    refine own_go (st' := Tj1.setTop (mkF m 93 #[oj p0, .second, oj p2, .second, oi p4, oi p5, oi p6, oj m7, .second, oi f9, oj m10, .second, oi n12, oi u13, oi u14, .unset, .unset, .unset, .unset, .unset, .unset, .unset] [(.int (2 : Int32)), (.int p6)])) (fun _ k => XS.iconst Xj1.here hx rfl (hb hby at_92) k) ?_
    refine own_go (st' := Tj1.setTop (mkF m 94 #[oj p0, .second, oj p2, .second, oi p4, oi p5, oi p6, oj m7, .second, oi f9, oj m10, .second, oi n12, oi u13, oi u14, .unset, .unset, .unset, .unset, .unset, .unset, .unset] [(.int ((p6.toUInt32 >>> ((2 : Int32) &&& 31).toUInt32).toInt32))])) (fun _ k => XS.iushr Xj1.here hx rfl (hb hby at_93) rfl k) ?_
    refine own_go (st' := Tj1.setTop (mkF m 95 #[oj p0, .second, oj p2, .second, oi p4, oi p5, oi p6, oj m7, .second, oi f9, oj m10, .second, oi n12, oi u13, oi u14, .unset, .unset, .unset, .unset, .unset, .unset, .unset] [(.int (1 : Int32)), (.int ((p6.toUInt32 >>> ((2 : Int32) &&& 31).toUInt32).toInt32))])) (fun _ k => XS.iconst Xj1.here hx rfl (hb hby at_94) k) ?_
    refine own_go (st' := Tj1.setTop (mkF m 96 #[oj p0, .second, oj p2, .second, oi p4, oi p5, oi p6, oj m7, .second, oi f9, oj m10, .second, oi n12, oi u13, oi u14, .unset, .unset, .unset, .unset, .unset, .unset, .unset] [(.int (((p6.toUInt32 >>> ((2 : Int32) &&& 31).toUInt32).toInt32) &&& (1 : Int32)))])) (fun _ k => XS.iand Xj1.here hx rfl (hb hby at_95) rfl k) ?_
    by_cases hc95 : (((p6.toUInt32 >>> ((2 : Int32) &&& 31).toUInt32).toInt32) &&& (1 : Int32)) = (0 : Int32)
    · --
      refine own_go (st' := Tj1.setTop (mkF m 114 #[oj p0, .second, oj p2, .second, oi p4, oi p5, oi p6, oj m7, .second, oi f9, oj m10, .second, oi n12, oi u13, oi u14, .unset, .unset, .unset, .unset, .unset, .unset, .unset] [])) (fun _ k => XS.ifYes Xj1.here hx rfl (pc0 := 96) (pc' := 114) rfl (hb hby at_96) rfl ((if0 _ _).trans (teq hc95).1) (by decide) (by decide) k) ?_
      refine own_go (st' := Tj1.setTop (mkF m 116 #[oj p0, .second, oj p2, .second, oi p4, oi p5, oi p6, oj m7, .second, oi f9, oj m10, .second, oi n12, oi u13, oi u14, .unset, .unset, .unset, .unset, .unset, .unset, .unset] [(.int p5)])) (fun _ k => XS.iload Xj1.here hx rfl (hb hby at_114) rfl k) ?_
      refine own_go (st' := Tj1.setTop (mkF m 118 #[oj p0, .second, oj p2, .second, oi p4, oi p5, oi p6, oj m7, .second, oi f9, oj m10, .second, oi n12, oi u13, oi u14, .unset, .unset, .unset, .unset, .unset, .unset, .unset] [(.int (16 : Int32)), (.int p5)])) (fun _ k => XS.bipush Xj1.here hx rfl (hb hby at_116) k) ?_
      refine own_go (st' := Tj1.setTop (mkF m 119 #[oj p0, .second, oj p2, .second, oi p4, oi p5, oi p6, oj m7, .second, oi f9, oj m10, .second, oi n12, oi u13, oi u14, .unset, .unset, .unset, .unset, .unset, .unset, .unset] [(.int ((p5.toUInt32 >>> ((16 : Int32) &&& 31).toUInt32).toInt32))])) (fun _ k => XS.iushr Xj1.here hx rfl (hb hby at_118) rfl k) ?_
      refine own_go (st' := Tj1.setTop (mkF m 122 #[oj p0, .second, oj p2, .second, oi p4, oi p5, oi p6, oj m7, .second, oi f9, oj m10, .second, oi n12, oi u13, oi u14, .unset, .unset, .unset, .unset, .unset, .unset, .unset] [(.int (32767 : Int32)), (.int ((p5.toUInt32 >>> ((16 : Int32) &&& 31).toUInt32).toInt32))])) (fun _ k => XS.sipush Xj1.here hx rfl (hb hby at_119) k) ?_
      refine own_go (st' := Tj1.setTop (mkF m 123 #[oj p0, .second, oj p2, .second, oi p4, oi p5, oi p6, oj m7, .second, oi f9, oj m10, .second, oi n12, oi u13, oi u14, .unset, .unset, .unset, .unset, .unset, .unset, .unset] [(.int (((p5.toUInt32 >>> ((16 : Int32) &&& 31).toUInt32).toInt32) &&& (32767 : Int32)))])) (fun _ k => XS.iand Xj1.here hx rfl (hb hby at_122) rfl k) ?_
      refine own_go (st' := Tj1.setTop (mkF m 124 #[oj p0, .second, oj p2, .second, oi p4, oi p5, oi p6, oj m7, .second, oi f9, oj m10, .second, oi n12, oi u13, oi u14, .unset, .unset, .unset, .unset, .unset, .unset, .unset] [(.int (3 : Int32)), (.int (((p5.toUInt32 >>> ((16 : Int32) &&& 31).toUInt32).toInt32) &&& (32767 : Int32)))])) (fun _ k => XS.iconst Xj1.here hx rfl (hb hby at_123) k) ?_
      refine own_go (st' := Tj1.setTop (mkF m 125 #[oj p0, .second, oj p2, .second, oi p4, oi p5, oi p6, oj m7, .second, oi f9, oj m10, .second, oi n12, oi u13, oi u14, .unset, .unset, .unset, .unset, .unset, .unset, .unset] [(.int ((((p5.toUInt32 >>> ((16 : Int32) &&& 31).toUInt32).toInt32) &&& (32767 : Int32)) % (3 : Int32)))])) (fun _ k => iremM Xj1 hx rfl (hb hby at_124) rfl (by decide) k) ?_
      refine own_go (st' := Tj1.setTop (mkF m 127 #[oj p0, .second, oj p2, .second, oi p4, oi p5, oi p6, oj m7, .second, oi f9, oj m10, .second, oi n12, oi u13, oi u14, .val (.int ((((p5.toUInt32 >>> ((16 : Int32) &&& 31).toUInt32).toInt32) &&& (32767 : Int32)) % (3 : Int32))), .unset, .unset, .unset, .unset, .unset, .unset] [])) (fun _ k => XS.istore Xj1.here hx rfl (hb hby at_125) rfl (l' := #[oj p0, .second, oj p2, .second, oi p4, oi p5, oi p6, oj m7, .second, oi f9, oj m10, .second, oi n12, oi u13, oi u14, .val (.int ((((p5.toUInt32 >>> ((16 : Int32) &&& 31).toUInt32).toInt32) &&& (32767 : Int32)) % (3 : Int32))), .unset, .unset, .unset, .unset, .unset, .unset]) rfl k) ?_
      refine own_go (st' := Tj1.setTop (mkF m 129 #[oj p0, .second, oj p2, .second, oi p4, oi p5, oi p6, oj m7, .second, oi f9, oj m10, .second, oi n12, oi u13, oi u14, .val (.int ((((p5.toUInt32 >>> ((16 : Int32) &&& 31).toUInt32).toInt32) &&& (32767 : Int32)) % (3 : Int32))), .unset, .unset, .unset, .unset, .unset, .unset] [(.int p5)])) (fun _ k => XS.iload Xj1.here hx rfl (hb hby at_127) rfl k) ?_
      refine own_go (st' := Tj1.setTop (mkF m 132 #[oj p0, .second, oj p2, .second, oi p4, oi p5, oi p6, oj m7, .second, oi f9, oj m10, .second, oi n12, oi u13, oi u14, .val (.int ((((p5.toUInt32 >>> ((16 : Int32) &&& 31).toUInt32).toInt32) &&& (32767 : Int32)) % (3 : Int32))), .unset, .unset, .unset, .unset, .unset, .unset] [(.int (255 : Int32)), (.int p5)])) (fun _ k => XS.sipush Xj1.here hx rfl (hb hby at_129) k) ?_
      refine own_go (st' := Tj1.setTop (mkF m 133 #[oj p0, .second, oj p2, .second, oi p4, oi p5, oi p6, oj m7, .second, oi f9, oj m10, .second, oi n12, oi u13, oi u14, .val (.int ((((p5.toUInt32 >>> ((16 : Int32) &&& 31).toUInt32).toInt32) &&& (32767 : Int32)) % (3 : Int32))), .unset, .unset, .unset, .unset, .unset, .unset] [(.int (p5 &&& (255 : Int32)))])) (fun _ k => XS.iand Xj1.here hx rfl (hb hby at_132) rfl k) ?_
      refine own_go (st' := Tj1.setTop (mkF m 135 #[oj p0, .second, oj p2, .second, oi p4, oi p5, oi p6, oj m7, .second, oi f9, oj m10, .second, oi n12, oi u13, oi u14, .val (.int ((((p5.toUInt32 >>> ((16 : Int32) &&& 31).toUInt32).toInt32) &&& (32767 : Int32)) % (3 : Int32))), .val (.int (p5 &&& (255 : Int32))), .unset, .unset, .unset, .unset, .unset] [])) (fun _ k => XS.istore Xj1.here hx rfl (hb hby at_133) rfl (l' := #[oj p0, .second, oj p2, .second, oi p4, oi p5, oi p6, oj m7, .second, oi f9, oj m10, .second, oi n12, oi u13, oi u14, .val (.int ((((p5.toUInt32 >>> ((16 : Int32) &&& 31).toUInt32).toInt32) &&& (32767 : Int32)) % (3 : Int32))), .val (.int (p5 &&& (255 : Int32))), .unset, .unset, .unset, .unset, .unset]) rfl k) ?_
      refine own_go (st' := Tj1.setTop (mkF m 137 #[oj p0, .second, oj p2, .second, oi p4, oi p5, oi p6, oj m7, .second, oi f9, oj m10, .second, oi n12, oi u13, oi u14, .val (.int ((((p5.toUInt32 >>> ((16 : Int32) &&& 31).toUInt32).toInt32) &&& (32767 : Int32)) % (3 : Int32))), .val (.int (p5 &&& (255 : Int32))), .unset, .unset, .unset, .unset, .unset] [(.int p5)])) (fun _ k => XS.iload Xj1.here hx rfl (hb hby at_135) rfl k) ?_
      refine own_go (st' := Tj1.setTop (mkF m 139 #[oj p0, .second, oj p2, .second, oi p4, oi p5, oi p6, oj m7, .second, oi f9, oj m10, .second, oi n12, oi u13, oi u14, .val (.int ((((p5.toUInt32 >>> ((16 : Int32) &&& 31).toUInt32).toInt32) &&& (32767 : Int32)) % (3 : Int32))), .val (.int (p5 &&& (255 : Int32))), .unset, .unset, .unset, .unset, .unset] [(.int (8 : Int32)), (.int p5)])) (fun _ k => XS.bipush Xj1.here hx rfl (hb hby at_137) k) ?_
      refine own_go (st' := Tj1.setTop (mkF m 140 #[oj p0, .second, oj p2, .second, oi p4, oi p5, oi p6, oj m7, .second, oi f9, oj m10, .second, oi n12, oi u13, oi u14, .val (.int ((((p5.toUInt32 >>> ((16 : Int32) &&& 31).toUInt32).toInt32) &&& (32767 : Int32)) % (3 : Int32))), .val (.int (p5 &&& (255 : Int32))), .unset, .unset, .unset, .unset, .unset] [(.int ((p5.toUInt32 >>> ((8 : Int32) &&& 31).toUInt32).toInt32))])) (fun _ k => XS.iushr Xj1.here hx rfl (hb hby at_139) rfl k) ?_
      refine own_go (st' := Tj1.setTop (mkF m 143 #[oj p0, .second, oj p2, .second, oi p4, oi p5, oi p6, oj m7, .second, oi f9, oj m10, .second, oi n12, oi u13, oi u14, .val (.int ((((p5.toUInt32 >>> ((16 : Int32) &&& 31).toUInt32).toInt32) &&& (32767 : Int32)) % (3 : Int32))), .val (.int (p5 &&& (255 : Int32))), .unset, .unset, .unset, .unset, .unset] [(.int (255 : Int32)), (.int ((p5.toUInt32 >>> ((8 : Int32) &&& 31).toUInt32).toInt32))])) (fun _ k => XS.sipush Xj1.here hx rfl (hb hby at_140) k) ?_
      refine own_go (st' := Tj1.setTop (mkF m 144 #[oj p0, .second, oj p2, .second, oi p4, oi p5, oi p6, oj m7, .second, oi f9, oj m10, .second, oi n12, oi u13, oi u14, .val (.int ((((p5.toUInt32 >>> ((16 : Int32) &&& 31).toUInt32).toInt32) &&& (32767 : Int32)) % (3 : Int32))), .val (.int (p5 &&& (255 : Int32))), .unset, .unset, .unset, .unset, .unset] [(.int (((p5.toUInt32 >>> ((8 : Int32) &&& 31).toUInt32).toInt32) &&& (255 : Int32)))])) (fun _ k => XS.iand Xj1.here hx rfl (hb hby at_143) rfl k) ?_
      refine own_go (st' := Tj1.setTop (mkF m 146 #[oj p0, .second, oj p2, .second, oi p4, oi p5, oi p6, oj m7, .second, oi f9, oj m10, .second, oi n12, oi u13, oi u14, .val (.int ((((p5.toUInt32 >>> ((16 : Int32) &&& 31).toUInt32).toInt32) &&& (32767 : Int32)) % (3 : Int32))), .val (.int (p5 &&& (255 : Int32))), .val (.int (((p5.toUInt32 >>> ((8 : Int32) &&& 31).toUInt32).toInt32) &&& (255 : Int32))), .unset, .unset, .unset, .unset] [])) (fun _ k => XS.istore Xj1.here hx rfl (hb hby at_144) rfl (l' := #[oj p0, .second, oj p2, .second, oi p4, oi p5, oi p6, oj m7, .second, oi f9, oj m10, .second, oi n12, oi u13, oi u14, .val (.int ((((p5.toUInt32 >>> ((16 : Int32) &&& 31).toUInt32).toInt32) &&& (32767 : Int32)) % (3 : Int32))), .val (.int (p5 &&& (255 : Int32))), .val (.int (((p5.toUInt32 >>> ((8 : Int32) &&& 31).toUInt32).toInt32) &&& (255 : Int32))), .unset, .unset, .unset, .unset]) rfl k) ?_
      exact J146_2 _ _ ((((p5.toUInt32 >>> ((16 : Int32) &&& 31).toUInt32).toInt32) &&& (32767 : Int32)) % (3 : Int32)) (p5 &&& (255 : Int32)) (((p5.toUInt32 >>> ((8 : Int32) &&& 31).toUInt32).toInt32) &&& (255 : Int32)) _ _ Xj1 ej1 Nj1 hSj1 (by omega) hZ hown Aj1 (own_r3 _) (own_lat_a _) (own_lat_a _)
    · --
      refine own_go (st' := Tj1.setTop (mkF m 99 #[oj p0, .second, oj p2, .second, oi p4, oi p5, oi p6, oj m7, .second, oi f9, oj m10, .second, oi n12, oi u13, oi u14, .unset, .unset, .unset, .unset, .unset, .unset, .unset] [])) (fun _ k => XS.ifNo Xj1.here hx rfl (hb hby at_96) rfl ((if0 _ _).trans (feq hc95).1) k) ?_
      refine own_go (st' := Tj1.setTop (mkF m 101 #[oj p0, .second, oj p2, .second, oi p4, oi p5, oi p6, oj m7, .second, oi f9, oj m10, .second, oi n12, oi u13, oi u14, .unset, .unset, .unset, .unset, .unset, .unset, .unset] [(.int n12)])) (fun _ k => XS.iload Xj1.here hx rfl (hb hby at_99) rfl k) ?_
      refine own_go (st' := Tj1.setTop (mkF m 103 #[oj p0, .second, oj p2, .second, oi p4, oi p5, oi p6, oj m7, .second, oi f9, oj m10, .second, oi n12, oi u13, oi u14, oi n12, .unset, .unset, .unset, .unset, .unset, .unset] [])) (fun _ k => XS.istore Xj1.here hx rfl (hb hby at_101) rfl (l' := #[oj p0, .second, oj p2, .second, oi p4, oi p5, oi p6, oj m7, .second, oi f9, oj m10, .second, oi n12, oi u13, oi u14, oi n12, .unset, .unset, .unset, .unset, .unset, .unset]) rfl k) ?_
      refine own_go (st' := Tj1.setTop (mkF m 105 #[oj p0, .second, oj p2, .second, oi p4, oi p5, oi p6, oj m7, .second, oi f9, oj m10, .second, oi n12, oi u13, oi u14, oi n12, .unset, .unset, .unset, .unset, .unset, .unset] [(.int u13)])) (fun _ k => XS.iload Xj1.here hx rfl (hb hby at_103) rfl k) ?_
      refine own_go (st' := Tj1.setTop (mkF m 107 #[oj p0, .second, oj p2, .second, oi p4, oi p5, oi p6, oj m7, .second, oi f9, oj m10, .second, oi n12, oi u13, oi u14, oi n12, oi u13, .unset, .unset, .unset, .unset, .unset] [])) (fun _ k => XS.istore Xj1.here hx rfl (hb hby at_105) rfl (l' := #[oj p0, .second, oj p2, .second, oi p4, oi p5, oi p6, oj m7, .second, oi f9, oj m10, .second, oi n12, oi u13, oi u14, oi n12, oi u13, .unset, .unset, .unset, .unset, .unset]) rfl k) ?_
      refine own_go (st' := Tj1.setTop (mkF m 109 #[oj p0, .second, oj p2, .second, oi p4, oi p5, oi p6, oj m7, .second, oi f9, oj m10, .second, oi n12, oi u13, oi u14, oi n12, oi u13, .unset, .unset, .unset, .unset, .unset] [(.int u14)])) (fun _ k => XS.iload Xj1.here hx rfl (hb hby at_107) rfl k) ?_
      refine own_go (st' := Tj1.setTop (mkF m 111 #[oj p0, .second, oj p2, .second, oi p4, oi p5, oi p6, oj m7, .second, oi f9, oj m10, .second, oi n12, oi u13, oi u14, oi n12, oi u13, oi u14, .unset, .unset, .unset, .unset] [])) (fun _ k => XS.istore Xj1.here hx rfl (hb hby at_109) rfl (l' := #[oj p0, .second, oj p2, .second, oi p4, oi p5, oi p6, oj m7, .second, oi f9, oj m10, .second, oi n12, oi u13, oi u14, oi n12, oi u13, oi u14, .unset, .unset, .unset, .unset]) rfl k) ?_
      refine own_go (st' := Tj1.setTop (mkF m 146 #[oj p0, .second, oj p2, .second, oi p4, oi p5, oi p6, oj m7, .second, oi f9, oj m10, .second, oi n12, oi u13, oi u14, oi n12, oi u13, oi u14, .unset, .unset, .unset, .unset] [])) (fun _ k => XS.goto Xj1.here hx rfl (pc0 := 111) (pc' := 146) rfl (hb hby at_111) (by decide) (by decide) k) ?_
      exact J146_2 _ _ n12 u13 u14 _ _ Xj1 ej1 Nj1 hSj1 (by omega) hZ hown Aj1 ht_n12 hl_u13 hl_u14
  refine own_go (st' := s₁.setTop (mkF m 9 #[oj p0, .second, oj p2, .second, oi p4, oi p5, oi p6, oj m7, .second, .unset, .unset, .unset, .unset, .unset, .unset, .unset, .unset, .unset, .unset, .unset, .unset, .unset] [(.int p6)])) (fun _ k => XS.iload X0.here hx rfl (hb hby at_7) rfl k) ?_
  refine own_go (st' := s₁.setTop (mkF m 10 #[oj p0, .second, oj p2, .second, oi p4, oi p5, oi p6, oj m7, .second, .unset, .unset, .unset, .unset, .unset, .unset, .unset, .unset, .unset, .unset, .unset, .unset, .unset] [(.int (3 : Int32)), (.int p6)])) (fun _ k => XS.iconst X0.here hx rfl (hb hby at_9) k) ?_
  refine own_go (st' := s₁.setTop (mkF m 11 #[oj p0, .second, oj p2, .second, oi p4, oi p5, oi p6, oj m7, .second, .unset, .unset, .unset, .unset, .unset, .unset, .unset, .unset, .unset, .unset, .unset, .unset, .unset] [(.int (p6 &&& (3 : Int32)))])) (fun _ k => XS.iand X0.here hx rfl (hb hby at_10) rfl k) ?_
  refine own_go (st' := s₁.setTop (mkF m 13 #[oj p0, .second, oj p2, .second, oi p4, oi p5, oi p6, oj m7, .second, .val (.int (p6 &&& (3 : Int32))), .unset, .unset, .unset, .unset, .unset, .unset, .unset, .unset, .unset, .unset, .unset, .unset] [])) (fun _ k => XS.istore X0.here hx rfl (hb hby at_11) rfl (l' := #[oj p0, .second, oj p2, .second, oi p4, oi p5, oi p6, oj m7, .second, .val (.int (p6 &&& (3 : Int32))), .unset, .unset, .unset, .unset, .unset, .unset, .unset, .unset, .unset, .unset, .unset, .unset]) rfl k) ?_
  refine own_go (st' := s₁.setTop (mkF m 15 #[oj p0, .second, oj p2, .second, oi p4, oi p5, oi p6, oj m7, .second, .val (.int (p6 &&& (3 : Int32))), .unset, .unset, .unset, .unset, .unset, .unset, .unset, .unset, .unset, .unset, .unset, .unset] [(.int (p6 &&& (3 : Int32)))])) (fun _ k => XS.iload X0.here hx rfl (hb hby at_13) rfl k) ?_
  by_cases hc96 : (p6 &&& (3 : Int32)) = (0 : Int32)
  · --
    refine own_go (st' := s₁.setTop (mkF m 18 #[oj p0, .second, oj p2, .second, oi p4, oi p5, oi p6, oj m7, .second, .val (.int (p6 &&& (3 : Int32))), .unset, .unset, .unset, .unset, .unset, .unset, .unset, .unset, .unset, .unset, .unset, .unset] [])) (fun _ k => XS.ifNo X0.here hx rfl (hb hby at_15) rfl ((if0 _ _).trans (teq hc96).2) k) ?_
    refine own_go (st' := s₁.setTop (mkF m 20 #[oj p0, .second, oj p2, .second, oi p4, oi p5, oi p6, oj m7, .second, .val (.int (p6 &&& (3 : Int32))), .unset, .unset, .unset, .unset, .unset, .unset, .unset, .unset, .unset, .unset, .unset, .unset] [(.long m7)])) (fun _ k => XS.lload X0.here hx rfl (hb hby at_18) rfl k) ?_
    refine own_go (st' := s₁.setTop (mkF m 22 #[oj p0, .second, oj p2, .second, oi p4, oi p5, oi p6, oj m7, .second, .val (.int (p6 &&& (3 : Int32))), oj m7, .second, .unset, .unset, .unset, .unset, .unset, .unset, .unset, .unset, .unset, .unset] [])) (fun _ k => XS.lstore X0.here hx rfl (hb hby at_20) rfl (l' := #[oj p0, .second, oj p2, .second, oi p4, oi p5, oi p6, oj m7, .second, .val (.int (p6 &&& (3 : Int32))), oj m7, .second, .unset, .unset, .unset, .unset, .unset, .unset, .unset, .unset, .unset, .unset]) rfl k) ?_
    refine own_go (st' := s₁.setTop (mkF m 58 #[oj p0, .second, oj p2, .second, oi p4, oi p5, oi p6, oj m7, .second, .val (.int (p6 &&& (3 : Int32))), oj m7, .second, .unset, .unset, .unset, .unset, .unset, .unset, .unset, .unset, .unset, .unset] [])) (fun _ k => XS.goto X0.here hx rfl (pc0 := 22) (pc' := 58) rfl (hb hby at_22) (by decide) (by decide) k) ?_
    exact J58_1 _ _ m7 (p6 &&& (3 : Int32)) _ _ X0 e0 N0 hS0 (by omega) hZ hown A0 hp_m7
  · --
    refine own_go (st' := s₁.setTop (mkF m 25 #[oj p0, .second, oj p2, .second, oi p4, oi p5, oi p6, oj m7, .second, .val (.int (p6 &&& (3 : Int32))), .unset, .unset, .unset, .unset, .unset, .unset, .unset, .unset, .unset, .unset, .unset, .unset] [])) (fun _ k => XS.ifYes X0.here hx rfl (pc0 := 15) (pc' := 25) rfl (hb hby at_15) rfl ((if0 _ _).trans (feq hc96).2) (by decide) (by decide) k) ?_
    refine own_go (st' := s₁.setTop (mkF m 27 #[oj p0, .second, oj p2, .second, oi p4, oi p5, oi p6, oj m7, .second, .val (.int (p6 &&& (3 : Int32))), .unset, .unset, .unset, .unset, .unset, .unset, .unset, .unset, .unset, .unset, .unset, .unset] [(.int (p6 &&& (3 : Int32)))])) (fun _ k => XS.iload X0.here hx rfl (hb hby at_25) rfl k) ?_
    refine own_go (st' := s₁.setTop (mkF m 28 #[oj p0, .second, oj p2, .second, oi p4, oi p5, oi p6, oj m7, .second, .val (.int (p6 &&& (3 : Int32))), .unset, .unset, .unset, .unset, .unset, .unset, .unset, .unset, .unset, .unset, .unset, .unset] [(.int (1 : Int32)), (.int (p6 &&& (3 : Int32)))])) (fun _ k => XS.iconst X0.here hx rfl (hb hby at_27) k) ?_
    by_cases hc97 : (p6 &&& (3 : Int32)) = (1 : Int32)
    · --
      refine own_go (st' := s₁.setTop (mkF m 31 #[oj p0, .second, oj p2, .second, oi p4, oi p5, oi p6, oj m7, .second, .val (.int (p6 &&& (3 : Int32))), .unset, .unset, .unset, .unset, .unset, .unset, .unset, .unset, .unset, .unset, .unset, .unset] [])) (fun _ k => XS.icmpNo X0.here hx rfl (hb hby at_28) rfl (teq hc97).2 k) ?_
      refine own_go (st' := s₁.setTop (mkF m 33 #[oj p0, .second, oj p2, .second, oi p4, oi p5, oi p6, oj m7, .second, .val (.int (p6 &&& (3 : Int32))), .unset, .unset, .unset, .unset, .unset, .unset, .unset, .unset, .unset, .unset, .unset, .unset] [(.long m7)])) (fun _ k => XS.lload X0.here hx rfl (hb hby at_31) rfl k) ?_
      refine own_go (st' := s₁.setTop (mkF m 34 #[oj p0, .second, oj p2, .second, oi p4, oi p5, oi p6, oj m7, .second, .val (.int (p6 &&& (3 : Int32))), .unset, .unset, .unset, .unset, .unset, .unset, .unset, .unset, .unset, .unset, .unset, .unset] [(.long (1 : Int64)), (.long m7)])) (fun _ k => XS.lconst X0.here hx rfl (hb hby at_33) k) ?_
      refine own_go (st' := s₁.setTop (mkF m 35 #[oj p0, .second, oj p2, .second, oi p4, oi p5, oi p6, oj m7, .second, .val (.int (p6 &&& (3 : Int32))), .unset, .unset, .unset, .unset, .unset, .unset, .unset, .unset, .unset, .unset, .unset, .unset] [(.long p2), (.long (1 : Int64)), (.long m7)])) (fun _ k => XS.lloadN X0.here hx rfl (hb hby at_34) rfl k) ?_
      refine own_go (st' := s₁.setTop (mkF m 38 #[oj p0, .second, oj p2, .second, oi p4, oi p5, oi p6, oj m7, .second, .val (.int (p6 &&& (3 : Int32))), .unset, .unset, .unset, .unset, .unset, .unset, .unset, .unset, .unset, .unset, .unset, .unset] [(.long (63 : Int64)), (.long p2), (.long (1 : Int64)), (.long m7)])) (X0.ldc2Long hx hown (mvT hZ (own_hw hw 65)) (g := (mkF m 35 #[oj p0, .second, oj p2, .second, oi p4, oi p5, oi p6, oj m7, .second, .val (.int (p6 &&& (3 : Int32))), .unset, .unset, .unset, .unset, .unset, .unset, .unset, .unset, .unset, .unset, .unset, .unset] [(.long p2), (.long (1 : Int64)), (.long m7)])) rfl (hb hby at_35)) ?_
      refine own_go (st' := s₁.setTop (mkF m 39 #[oj p0, .second, oj p2, .second, oi p4, oi p5, oi p6, oj m7, .second, .val (.int (p6 &&& (3 : Int32))), .unset, .unset, .unset, .unset, .unset, .unset, .unset, .unset, .unset, .unset, .unset, .unset] [(.long (p2 &&& (63 : Int64))), (.long (1 : Int64)), (.long m7)])) (fun _ k => XS.land X0.here hx rfl (hb hby at_38) rfl k) ?_
      refine own_go (st' := s₁.setTop (mkF m 40 #[oj p0, .second, oj p2, .second, oi p4, oi p5, oi p6, oj m7, .second, .val (.int (p6 &&& (3 : Int32))), .unset, .unset, .unset, .unset, .unset, .unset, .unset, .unset, .unset, .unset, .unset, .unset] [(.int (p2 &&& (63 : Int64)).toInt32), (.long (1 : Int64)), (.long m7)])) (fun _ k => XS.l2i X0.here hx rfl (hb hby at_39) rfl k) ?_
      refine own_go (st' := s₁.setTop (mkF m 41 #[oj p0, .second, oj p2, .second, oi p4, oi p5, oi p6, oj m7, .second, .val (.int (p6 &&& (3 : Int32))), .unset, .unset, .unset, .unset, .unset, .unset, .unset, .unset, .unset, .unset, .unset, .unset] [(.long ((1 : Int64) <<< ((p2 &&& (63 : Int64)).toInt32 &&& 0x3f).toInt64)), (.long m7)])) (fun _ k => XS.lshl X0.here hx rfl (hb hby at_40) rfl k) ?_
      refine own_go (st' := s₁.setTop (mkF m 42 #[oj p0, .second, oj p2, .second, oi p4, oi p5, oi p6, oj m7, .second, .val (.int (p6 &&& (3 : Int32))), .unset, .unset, .unset, .unset, .unset, .unset, .unset, .unset, .unset, .unset, .unset, .unset] [(.long (m7 ^^^ ((1 : Int64) <<< ((p2 &&& (63 : Int64)).toInt32 &&& 0x3f).toInt64)))])) (fun _ k => XS.lxor X0.here hx rfl (hb hby at_41) rfl k) ?_
      refine own_go (st' := s₁.setTop (mkF m 45 #[oj p0, .second, oj p2, .second, oi p4, oi p5, oi p6, oj m7, .second, .val (.int (p6 &&& (3 : Int32))), .unset, .unset, .unset, .unset, .unset, .unset, .unset, .unset, .unset, .unset, .unset, .unset] [(.long (9223372036854775807 : Int64)), (.long (m7 ^^^ ((1 : Int64) <<< ((p2 &&& (63 : Int64)).toInt32 &&& 0x3f).toInt64)))])) (X0.ldc2Long hx hown (mvT hZ (own_hw hw 0)) (g := (mkF m 42 #[oj p0, .second, oj p2, .second, oi p4, oi p5, oi p6, oj m7, .second, .val (.int (p6 &&& (3 : Int32))), .unset, .unset, .unset, .unset, .unset, .unset, .unset, .unset, .unset, .unset, .unset, .unset] [(.long (m7 ^^^ ((1 : Int64) <<< ((p2 &&& (63 : Int64)).toInt32 &&& 0x3f).toInt64)))])) rfl (hb hby at_42)) ?_
      refine own_go (st' := s₁.setTop (mkF m 46 #[oj p0, .second, oj p2, .second, oi p4, oi p5, oi p6, oj m7, .second, .val (.int (p6 &&& (3 : Int32))), .unset, .unset, .unset, .unset, .unset, .unset, .unset, .unset, .unset, .unset, .unset, .unset] [(.long ((m7 ^^^ ((1 : Int64) <<< ((p2 &&& (63 : Int64)).toInt32 &&& 0x3f).toInt64)) &&& (9223372036854775807 : Int64)))])) (fun _ k => XS.land X0.here hx rfl (hb hby at_45) rfl k) ?_
      refine own_go (st' := s₁.setTop (mkF m 48 #[oj p0, .second, oj p2, .second, oi p4, oi p5, oi p6, oj m7, .second, .val (.int (p6 &&& (3 : Int32))), .val (.long ((m7 ^^^ ((1 : Int64) <<< ((p2 &&& (63 : Int64)).toInt32 &&& 0x3f).toInt64)) &&& (9223372036854775807 : Int64))), .second, .unset, .unset, .unset, .unset, .unset, .unset, .unset, .unset, .unset, .unset] [])) (fun _ k => XS.lstore X0.here hx rfl (hb hby at_46) rfl (l' := #[oj p0, .second, oj p2, .second, oi p4, oi p5, oi p6, oj m7, .second, .val (.int (p6 &&& (3 : Int32))), .val (.long ((m7 ^^^ ((1 : Int64) <<< ((p2 &&& (63 : Int64)).toInt32 &&& 0x3f).toInt64)) &&& (9223372036854775807 : Int64))), .second, .unset, .unset, .unset, .unset, .unset, .unset, .unset, .unset, .unset, .unset]) rfl k) ?_
      refine own_go (st' := s₁.setTop (mkF m 58 #[oj p0, .second, oj p2, .second, oi p4, oi p5, oi p6, oj m7, .second, .val (.int (p6 &&& (3 : Int32))), .val (.long ((m7 ^^^ ((1 : Int64) <<< ((p2 &&& (63 : Int64)).toInt32 &&& 0x3f).toInt64)) &&& (9223372036854775807 : Int64))), .second, .unset, .unset, .unset, .unset, .unset, .unset, .unset, .unset, .unset, .unset] [])) (fun _ k => XS.goto X0.here hx rfl (pc0 := 48) (pc' := 58) rfl (hb hby at_48) (by decide) (by decide) k) ?_
      exact J58_1 _ _ ((m7 ^^^ ((1 : Int64) <<< ((p2 &&& (63 : Int64)).toInt32 &&& 0x3f).toInt64)) &&& (9223372036854775807 : Int64)) (p6 &&& (3 : Int32)) _ _ X0 e0 N0 hS0 (by omega) hZ hown A0 (own_posL _)
    · --
      refine own_go (st' := s₁.setTop (mkF m 51 #[oj p0, .second, oj p2, .second, oi p4, oi p5, oi p6, oj m7, .second, .val (.int (p6 &&& (3 : Int32))), .unset, .unset, .unset, .unset, .unset, .unset, .unset, .unset, .unset, .unset, .unset, .unset] [])) (fun _ k => XS.icmpYes X0.here hx rfl (pc0 := 28) (pc' := 51) rfl (hb hby at_28) rfl (feq hc97).2 (by decide) (by decide) k) ?_
      refine own_go (st' := s₁.setTop (mkF m 52 #[oj p0, .second, oj p2, .second, oi p4, oi p5, oi p6, oj m7, .second, .val (.int (p6 &&& (3 : Int32))), .unset, .unset, .unset, .unset, .unset, .unset, .unset, .unset, .unset, .unset, .unset, .unset] [(.long p2)])) (fun _ k => XS.lloadN X0.here hx rfl (hb hby at_51) rfl k) ?_
      refine own_go (st' := s₁.setTop (mkF m 55 #[oj p0, .second, oj p2, .second, oi p4, oi p5, oi p6, oj m7, .second, .val (.int (p6 &&& (3 : Int32))), .unset, .unset, .unset, .unset, .unset, .unset, .unset, .unset, .unset, .unset, .unset, .unset] [(.long (9223372036854775807 : Int64)), (.long p2)])) (X0.ldc2Long hx hown (mvT hZ (own_hw hw 0)) (g := (mkF m 52 #[oj p0, .second, oj p2, .second, oi p4, oi p5, oi p6, oj m7, .second, .val (.int (p6 &&& (3 : Int32))), .unset, .unset, .unset, .unset, .unset, .unset, .unset, .unset, .unset, .unset, .unset, .unset] [(.long p2)])) rfl (hb hby at_52)) ?_
      refine own_go (st' := s₁.setTop (mkF m 56 #[oj p0, .second, oj p2, .second, oi p4, oi p5, oi p6, oj m7, .second, .val (.int (p6 &&& (3 : Int32))), .unset, .unset, .unset, .unset, .unset, .unset, .unset, .unset, .unset, .unset, .unset, .unset] [(.long (p2 &&& (9223372036854775807 : Int64)))])) (fun _ k => XS.land X0.here hx rfl (hb hby at_55) rfl k) ?_
      refine own_go (st' := s₁.setTop (mkF m 58 #[oj p0, .second, oj p2, .second, oi p4, oi p5, oi p6, oj m7, .second, .val (.int (p6 &&& (3 : Int32))), .val (.long (p2 &&& (9223372036854775807 : Int64))), .second, .unset, .unset, .unset, .unset, .unset, .unset, .unset, .unset, .unset, .unset] [])) (fun _ k => XS.lstore X0.here hx rfl (hb hby at_56) rfl (l' := #[oj p0, .second, oj p2, .second, oi p4, oi p5, oi p6, oj m7, .second, .val (.int (p6 &&& (3 : Int32))), .val (.long (p2 &&& (9223372036854775807 : Int64))), .second, .unset, .unset, .unset, .unset, .unset, .unset, .unset, .unset, .unset, .unset]) rfl k) ?_
      exact J58_1 _ _ (p2 &&& (9223372036854775807 : Int64)) (p6 &&& (3 : Int32)) _ _ X0 e0 N0 hS0 (by omega) hZ hown A0 (own_posL _)
set_option maxRecDepth 65536 in
set_option maxHeartbeats 40000000 in
theorem comes_1 {Post : Tables → Env → Array Value → State → Outcome → State → Prop} (hpost : ∀ tb e args s v u, (limb_1_1.after args s (.returned v) u = true ∧ limb_1_2.after args s (.returned v) u = true ∧ True) → ReturnedEndW s (.returned v) u (Jvm.fieldLocs frame_1_writes args s ++ Jvm.arrayLocs frame_1_arrays args s ++ Jvm.staticLocs frame_1_statics s) 32 2176 → Post tb e args s (.returned v) u) :
    ArmFor flags0 classFile x code maxLocals ret World_1 tables_1 room_1 Calls_1 rest_1 Pre_1 Post := by
  intro l hfl _ _ p e ha hc hk s m args below hf hA hF happ hP
  obtain ⟨hcalls, hrest, hpre⟩ := hP
  obtain ⟨-, -, -, hnamed, -, -, -, hat⟩ := (Spec.applies_iff hf).mp happ
  obtain ⟨hg, hn⟩ := and_e (Cond.before_iff.mp (show (Jvm.Cond.and given_1 narrow_1).before args s = true from hpre))
  obtain ⟨h1, h2⟩ := and_e hg
  obtain ⟨w0, w1, w2, w3, w4, rfl⟩ : ∃ w0 w1 w2 w3 w4 : Value, args = #[w0, w1, w2, w3, w4] := by
    have hs : args.size = 5 := by simpa [Cond.value, given_1] using h1
    obtain ⟨L⟩ := args
    match L, hs with
    | [w0, w1, w2, w3, w4], _ => exact ⟨w0, w1, w2, w3, w4, rfl⟩
  have hw := fun d (hd : d ∈ tables_1) => atoms_spec (ws := Jvm.Cond.code x code maxLocals ret :: tables_1) hat d (List.mem_cons_of_mem _ hd)
  have hfit : Fit s := fun {y c} hc i hi => by
    obtain ⟨ha, rfl⟩ := Array.getElem?_eq_some_iff.mp hc
    have q := List.all_eq_true.mp ((Array.all_eq_true_iff_forall_mem.mp hF) _ (Array.getElem_mem ha)) i (List.mem_range.mpr hi)
    simpa [Array.getElem?_eq_getElem hi] using q
  obtain ⟨hsets, hown0⟩ := atoms_of _ (rest_1_c_eq ▸ (show rest_1_c.before _ s = true from hrest))
  obtain ⟨ha0, hr0⟩ := and_e h2
  obtain ⟨p0, ev0⟩ := isL_v ha0
  obtain rfl : w0 = (.long p0) := Option.some.inj ev0
  obtain ⟨ha1, hr1⟩ := and_e hr0
  obtain ⟨p2, ev1⟩ := isL_v ha1
  obtain rfl : w1 = (.long p2) := Option.some.inj ev1
  obtain ⟨ha2, hr2⟩ := and_e hr1
  obtain ⟨p4, ev2⟩ := is_v ha2
  obtain rfl : w2 = (.int p4) := Option.some.inj ev2
  obtain ⟨ha3, hr3⟩ := and_e hr2
  obtain ⟨p5, ev3⟩ := is_v ha3
  obtain rfl : w3 = (.int p5) := Option.some.inj ev3
  obtain ⟨p6, ev4⟩ := is_v hr3
  obtain rfl : w4 = (.int p6) := Option.some.inj ev4
  obtain ⟨cal, ecal⟩ := arr_v (Cond.before_iff.mp (hsets _ (List.mem_of_getElem? (i := 11) rfl)))
  obtain ⟨clcal, Arcal⟩ := Arr.start ecal (Cond.before_iff.mp (hsets _ (List.mem_of_getElem? (i := 11) rfl)))
  have scal : Sta s s.heap "java/lang/Long$LongCache" "cache" "[Ljava/lang/Long;" (.ref cal) := Sta.start ecal (Or.inl (hsets _ (List.mem_of_getElem? (i := 10) rfl)))
  have hcal := own_cache_ofL ecal Arcal (own_len ecal Arcal.1 (Cond.before_iff.mp (hsets _ (List.mem_of_getElem? (i := 13) rfl)))) (Cond.before_iff.mp (hsets _ (List.mem_of_getElem? (i := 14) rfl)))
  obtain ⟨zc, ezc⟩ := is_v (Cond.before_iff.mp (hsets _ (List.mem_of_getElem? (i := 1) rfl)))
  have szc : Sta s s.heap oS0 oS2 "Z" (.int zc) := Sta.start ezc (Or.inl (hsets _ (List.mem_of_getElem? (i := 0) rfl)))
  have hzc : ¬ zc = (0 : Int32) := fun q0 => by
    have q := (hsets _ (List.mem_of_getElem? (i := 2) rfl))
    simp only [Cond.before, Cond.holds, Cond.value, ezc, q0] at q
    simp [Term.eval] at q
  obtain ⟨n, o, h1, h2, h3, _, L, rfl, hQ, hq⟩ := rm0 l s _ hw tables_1 p0 p2 p4 p5 p6 cal zc s.heap s.heap.size (Nat.le_refl _) scal hcal szc hzc p e ha hc hk s m _ below hf ((Spec.applies_iff_loose hf).mp happ).1 ⟨rfl, State.Warmed39.refl s, rfl, CHv.start (own_ew hw) (fun p hp => hcalls.1 p (own_el p hp)) (hsets _ (List.mem_of_getElem? (i := 2) rfl)) (own_hw hw 23) (own_hw hw 9)⟩ trivial
  obtain ⟨rfl, N, -⟩ := hQ
  refine ⟨n, _, h1, h2, h3, hpost _ _ _ _ _ _ ⟨Cond.after_iff.mpr rfl, Cond.after_iff.mpr (eq_i res_at (Term.int_eval (1)) rfl), trivial⟩ ⟨hq.1, hq.2.1, hq.2.2.1, (hq.2.2.2.sift fun y hy => Or.inr (N y hy)).mono (by decide) (by decide)⟩⟩
theorem main_1_1 : Claimed_1_1 := comes_1 fun _ _ _ _ _ _ h hF => ⟨h.1, hF⟩
theorem main_1_2 : Claimed_1_2 := comes_1 fun _ _ _ _ _ _ h hF => ⟨h.2.1, hF⟩
end Jvm.Pilot.@@N@@
namespace Jvm.Pilot.@@N@@
open Jvm Jvm.ClassFile Sem Op Lib Jvm.Free Jvm.Stand Jvm.Pilot.@@N@@.Jvm.D
/-! MADE BY PROGRAM (witnessworld.py) out of the Statement's table words and the real class files: 26 classes; the members and pool entries that the words name. The judged class is class 1, her method 2. -/
namespace start1
open Jvm.ClassFile
def u (s : String) : CpInfo := .utf8 (stringToUtf16 s)
/-- a pool by its gaps: so many unusable entries, then the entry; so many at the end -/
def gap : Nat → List CpInfo → List CpInfo
  | 0, r => r
  | n + 1, r => .unusable :: gap n r
def poolList (es : List (Nat × CpInfo)) (last : Nat) : List CpInfo := es.foldr (fun e r => gap e.1 (e.2 :: r)) (gap last [])
def pool (es : List (Nat × CpInfo)) (last : Nat) : Array CpInfo := ⟨poolList es last⟩
def fileOf (pool : Array CpInfo) (this : Nat) (attrs : Array Attribute := #[]) (ms : Array MethodInfo := #[]) (fl : Nat := 33) (sup : Nat := 0) (ifs : Array Nat := #[]) (fds : Array FieldInfo := #[]) : ClassFile where
  minorVersion := 0
  majorVersion := 65
  constantPool := pool
  accessFlags := fl
  thisClass := this
  superClass := sup
  interfaces := ifs
  fields := fds
  methods := ms
  attributes := attrs
def plain (name : String) (sup : Option ClassId) : Class where
  name := name
  kind := .ordinary
  loader := none
  accessFlags := 33
  super := sup
  interfaces := #[]
  cf := none
  fields := #[]
  methods := #[]
  instanceTypes := #[]
  staticTypes := #[]
  resolved := #[]
  callSites := []
  init := .initialized
  statics := none
  mirror := none

def pool0 : Array CpInfo := pool [(5, u "<init>"), (0, u "()V"), (1, .class_ 10), (1, u "java/lang/Object")] 113

def k0c0 : Code := { maxStack := 0, maxLocals := 1, code := object_method_1_code, exceptionTable := #[], attributes := #[] }
def k0m0 : Method := { name := "<init>", desc := "()V", sig := { parameters := [], returnType := none }, accessFlags := 1, code := some k0c0 }
/-- java/lang/Object -/
def k0 : Class := { plain "java/lang/Object" none with
  accessFlags := 33
  interfaces := #[]
  cf := some (fileOf pool0 8 #[] #[{ accessFlags := 1, nameIndex := 5, descriptorIndex := 6, attributes := #[] }] 33 0 #[] #[])
  fields := #[]
  methods := #[k0m0]
  instanceTypes := #[]
  staticTypes := #[]
  resolved := Array.replicate 124 none
  statics := none }

def pool1 : Array CpInfo := pool [(2, .class_ 4), (1, u "java/lang/Object"), (0, u "<init>"), (0, u "()V"), (0, .class_ 8), (0, u "java/lang/String"), (0, .methodref 7 10), (0, .nameAndType 5 11), (0, u "([C)V"), (0, .class_ 13), (0, u "java/lang/Long"), (0, .long 9223372036854775807), (1, .long 63), (1, .class_ 19), (0, u "com/example/limpet/limpet/OffsetAndMetadata"), (0, .methodref 21 22), (0, .class_ 23), (0, .nameAndType 24 25), (0, u "com/example/limpet/limpet/OffsetAndMetadataEqualsPinLaw"), (0, u "str"), (0, u "(III)Ljava/lang/String;"), (0, .methodref 18 27), (0, .nameAndType 5 28), (0, u "(JLjava/lang/String;)V"), (0, .methodref 18 30), (0, .nameAndType 31 32), (0, u "equals"), (0, u "(Ljava/lang/Object;)Z"), (0, .methodref 18 34), (0, .nameAndType 35 36), (0, u "metadata"), (0, u "()Ljava/lang/String;"), (0, .methodref 12 38), (0, .nameAndType 39 40), (0, u "valueOf"), (0, u "(J)Ljava/lang/Long;"), (3, u "law"), (0, u "(JJIII)Z")] 2

def k1m0 : Method := { name := "<init>", desc := "()V", sig := { parameters := [], returnType := none }, accessFlags := 1, code := none }
def k1c1 : Code := { maxStack := 6, maxLocals := 3, code := method_2_code, exceptionTable := #[], attributes := #[] }
def k1m1 : Method := { name := "str", desc := "(III)Ljava/lang/String;", sig := { parameters := [.int, .int, .int], returnType := some (.object "java/lang/String") }, accessFlags := 10, code := some k1c1 }
def k1c2 : Code := { maxStack := 8, maxLocals := 22, code := code, exceptionTable := #[], attributes := #[] }
def k1m2 : Method := { name := "law", desc := "(JJIII)Z", sig := { parameters := [.long, .long, .int, .int, .int], returnType := some .boolean }, accessFlags := 9, code := some k1c2 }
/-- com/example/limpet/limpet/OffsetAndMetadataEqualsPinLaw -/
def k1 : Class := { plain "com/example/limpet/limpet/OffsetAndMetadataEqualsPinLaw" (some 0) with
  accessFlags := 49
  interfaces := #[]
  cf := some (fileOf pool1 21 #[] #[{ accessFlags := 1, nameIndex := 5, descriptorIndex := 6, attributes := #[] }, { accessFlags := 10, nameIndex := 24, descriptorIndex := 25, attributes := #[] }, { accessFlags := 9, nameIndex := 44, descriptorIndex := 45, attributes := #[] }] 49 2 #[] #[])
  fields := #[]
  methods := #[k1m0, k1m1, k1m2]
  instanceTypes := #[]
  staticTypes := #[]
  resolved := Array.replicate 48 none
  statics := none }

def pool2 : Array CpInfo := pool [(4, .class_ 6), (1, u "com/example/limpet/limpet/OffsetAndMetadata"), (0, u "<init>"), (0, u "(JLjava/lang/String;)V"), (0, .methodref 10 11), (0, .class_ 12), (0, .nameAndType 7 13), (0, u "java/lang/Object"), (0, u "()V"), (0, .string 15), (0, u "metadata"), (0, .methodref 17 18), (0, .class_ 19), (0, .nameAndType 20 21), (0, u "java/util/Objects"), (0, u "requireNonNull"), (0, u "(Ljava/lang/Object;Ljava/lang/String;)Ljava/lang/Object;"), (0, .methodref 23 24), (0, .class_ 25), (0, .nameAndType 26 27), (0, u "com/example/limpet/limpet/CommittedOffset"), (0, u "requireOffset"), (0, u "(J)J"), (0, .fieldref 4 29), (0, .nameAndType 30 31), (0, u "offset"), (0, u "J"), (0, .fieldref 4 33), (0, .nameAndType 15 34), (0, u "Ljava/lang/String;"), (0, .methodref 36 37), (0, .class_ 38), (0, .nameAndType 39 40), (0, u "java/lang/String"), (0, u "equals"), (0, u "(Ljava/lang/Object;)Z"), (18, u "()Ljava/lang/String;")] 21

def k2c0 : Code := { maxStack := 3, maxLocals := 4, code := prog_21_method_2_code, exceptionTable := #[], attributes := #[] }
def k2m0 : Method := { name := "<init>", desc := "(JLjava/lang/String;)V", sig := { parameters := [.long, (.object "java/lang/String")], returnType := none }, accessFlags := 1, code := some k2c0 }
def k2c1 : Code := { maxStack := 1, maxLocals := 1, code := prog_21_method_4_code, exceptionTable := #[], attributes := #[] }
def k2m1 : Method := { name := "metadata", desc := "()Ljava/lang/String;", sig := { parameters := [], returnType := some (.object "java/lang/String") }, accessFlags := 1, code := some k2c1 }
def k2c2 : Code := { maxStack := 4, maxLocals := 3, code := prog_21_method_5_code, exceptionTable := #[], attributes := #[] }
def k2m2 : Method := { name := "equals", desc := "(Ljava/lang/Object;)Z", sig := { parameters := [(.object "java/lang/Object")], returnType := some .boolean }, accessFlags := 1, code := some k2c2 }
/-- com/example/limpet/limpet/OffsetAndMetadata -/
def k2 : Class := { plain "com/example/limpet/limpet/OffsetAndMetadata" (some 0) with
  accessFlags := 49
  interfaces := #[]
  cf := some (fileOf pool2 4 #[] #[{ accessFlags := 1, nameIndex := 7, descriptorIndex := 8, attributes := #[] }, { accessFlags := 1, nameIndex := 15, descriptorIndex := 59, attributes := #[] }, { accessFlags := 1, nameIndex := 39, descriptorIndex := 40, attributes := #[] }] 49 10 #[] #[{ accessFlags := 18, nameIndex := 30, descriptorIndex := 31, attributes := #[] }, { accessFlags := 18, nameIndex := 15, descriptorIndex := 34, attributes := #[] }])
  fields := #[{ name := "offset", type := .long, accessFlags := 18, slot := 0, constantValue := 0 }, { name := "metadata", type := (.object "java/lang/String"), accessFlags := 18, slot := 1, constantValue := 0 }]
  methods := #[k2m0, k2m1, k2m2]
  instanceTypes := #[.long, (.object "java/lang/String")]
  staticTypes := #[]
  resolved := Array.replicate 81 none
  statics := none }

def pool3 : Array CpInfo := pool [(1, .class_ 2), (0, u "java/io/Serializable"), (0, .class_ 4), (0, u "java/lang/Object")] 2

/-- java/io/Serializable -/
def k3 : Class := { plain "java/io/Serializable" (some 0) with
  accessFlags := 1537
  interfaces := #[]
  cf := some (fileOf pool3 1 #[] #[] 1537 3 #[] #[])
  fields := #[]
  methods := #[]
  instanceTypes := #[]
  staticTypes := #[]
  resolved := Array.replicate 7 none
  statics := none }

def pool4 : Array CpInfo := pool [(1, .class_ 2), (0, u "java/lang/Comparable"), (0, .class_ 4), (0, u "java/lang/Object")] 7

/-- java/lang/Comparable -/
def k4 : Class := { plain "java/lang/Comparable" (some 0) with
  accessFlags := 1537
  interfaces := #[]
  cf := some (fileOf pool4 1 #[] #[] 1537 3 #[] #[])
  fields := #[]
  methods := #[]
  instanceTypes := #[]
  staticTypes := #[]
  resolved := Array.replicate 12 none
  statics := none }

def pool5 : Array CpInfo := pool [(2, .class_ 4), (1, u "java/lang/CharSequence"), (42, .class_ 48), (0, u "java/lang/CharSequence$1CodePointIterator"), (10, .class_ 60), (0, u "java/lang/CharSequence$1CharIterator"), (5, .class_ 67), (0, u "java/lang/Object")] 63

/-- java/lang/CharSequence -/
def k5 : Class := { plain "java/lang/CharSequence" (some 0) with
  accessFlags := 1537
  interfaces := #[]
  cf := some (fileOf pool5 2 #[.nestMembers #[47, 59]] #[] 1537 66 #[] #[])
  fields := #[]
  methods := #[]
  instanceTypes := #[]
  staticTypes := #[]
  resolved := Array.replicate 131 none
  statics := none }

def pool6 : Array CpInfo := pool [(1, .class_ 2), (0, u "java/lang/constant/Constable"), (0, .class_ 4), (0, u "java/lang/Object")] 6

/-- java/lang/constant/Constable -/
def k6 : Class := { plain "java/lang/constant/Constable" (some 0) with
  accessFlags := 1537
  interfaces := #[]
  cf := some (fileOf pool6 1 #[] #[] 1537 3 #[] #[])
  fields := #[]
  methods := #[]
  instanceTypes := #[]
  staticTypes := #[]
  resolved := Array.replicate 11 none
  statics := none }

def pool7 : Array CpInfo := pool [(1, .class_ 2), (0, u "java/lang/constant/ConstantDesc"), (0, .class_ 4), (0, u "java/lang/Object")] 32

/-- java/lang/constant/ConstantDesc -/
def k7 : Class := { plain "java/lang/constant/ConstantDesc" (some 0) with
  accessFlags := 1537
  interfaces := #[]
  cf := some (fileOf pool7 1 #[] #[] 1537 3 #[] #[])
  fields := #[]
  methods := #[]
  instanceTypes := #[]
  staticTypes := #[]
  resolved := Array.replicate 37 none
  statics := none }

def pool8 : Array CpInfo := pool [(1, .methodref 2 3), (0, .class_ 4), (0, .nameAndType 5 6), (0, u "java/lang/Object"), (0, u "<init>"), (0, u "()V"), (0, .string 8), (0, u ""), (0, .fieldref 10 11), (0, .class_ 12), (0, .nameAndType 13 14), (0, u "java/lang/String"), (0, u "value"), (0, u "[B"), (0, .fieldref 10 16), (0, .nameAndType 17 18), (0, u "coder"), (0, u "B"), (2, u "hash"), (0, u "I"), (2, u "hashIsZero"), (0, u "Z"), (0, .methodref 10 28), (0, .nameAndType 5 29), (0, u "([CIILjava/lang/Void;)V"), (8, .fieldref 10 39), (0, .nameAndType 40 26), (0, u "COMPACT_STRINGS"), (1, .class_ 44), (1, u "java/lang/StringUTF16"), (0, u "compress"), (1, .methodref 42 48), (0, .nameAndType 49 50), (0, u "coderFromArrayLen"), (0, u "([BI)B"), (56, .class_ 109), (1, u "java/lang/StringLatin1"), (67, .methodref 42 178), (0, .nameAndType 45 179), (0, u "([CII)[B"), (361, .methodref 107 542), (0, .nameAndType 543 544), (0, u "equals"), (0, u "([B[B)Z"), (28, u "(Ljava/lang/Object;)Z"), (1, .class_ 576), (0, u "java/lang/CharSequence"), (22, u "CASE_INSENSITIVE_ORDER"), (0, u "Ljava/util/Comparator;"), (409, u "([C)V"), (90, u "serialPersistentFields"), (0, u "[Ljava/io/ObjectStreamField;"), (0, .class_ 1104), (0, u "java/lang/String$CaseInsensitiveComparator"), (1, .class_ 1107), (0, u "java/io/Serializable"), (0, .class_ 1109), (0, u "java/lang/Comparable"), (0, .class_ 1111), (0, u "java/lang/constant/Constable"), (0, .class_ 1113), (0, u "java/lang/constant/ConstantDesc"), (2, u "serialVersionUID"), (0, u "J"), (3, u "REPL"), (0, u "C"), (2, u "LATIN1"), (1, u "UTF16")] 323

def k8m0 : Method := { name := "<init>", desc := "()V", sig := { parameters := [], returnType := none }, accessFlags := 1, code := none }
def k8c1 : Code := { maxStack := 5, maxLocals := 2, code := jdk_42_method_3_code, exceptionTable := #[], attributes := #[] }
def k8m1 : Method := { name := "<init>", desc := "([C)V", sig := { parameters := [(.array .char)], returnType := none }, accessFlags := 1, code := some k8c1 }
def k8c2 : Code := { maxStack := 2, maxLocals := 3, code := jdk_42_method_66_code, exceptionTable := #[], attributes := #[] }
def k8m2 : Method := { name := "equals", desc := "(Ljava/lang/Object;)Z", sig := { parameters := [(.object "java/lang/Object")], returnType := some .boolean }, accessFlags := 1, code := some k8c2 }
def k8c3 : Code := { maxStack := 4, maxLocals := 6, code := jdk_42_method_149_code, exceptionTable := #[], attributes := #[] }
def k8m3 : Method := { name := "<init>", desc := "([CIILjava/lang/Void;)V", sig := { parameters := [(.array .char), .int, .int, (.object "java/lang/Void")], returnType := none }, accessFlags := 2, code := some k8c3 }
/-- java/lang/String -/
def k8 : Class := { plain "java/lang/String" (some 0) with
  accessFlags := 49
  interfaces := #[3, 4, 5, 6, 7]
  cf := some (fileOf pool8 10 #[.nestMembers #[1103]] #[{ accessFlags := 1, nameIndex := 5, descriptorIndex := 6, attributes := #[] }, { accessFlags := 1, nameIndex := 5, descriptorIndex := 1010, attributes := #[] }, { accessFlags := 1, nameIndex := 543, descriptorIndex := 573, attributes := #[] }, { accessFlags := 2, nameIndex := 5, descriptorIndex := 29, attributes := #[] }] 49 2 #[1106, 1108, 575, 1110, 1112] #[{ accessFlags := 18, nameIndex := 13, descriptorIndex := 14, attributes := #[] }, { accessFlags := 18, nameIndex := 17, descriptorIndex := 18, attributes := #[] }, { accessFlags := 2, nameIndex := 21, descriptorIndex := 22, attributes := #[] }, { accessFlags := 2, nameIndex := 25, descriptorIndex := 26, attributes := #[] }, { accessFlags := 26, nameIndex := 1116, descriptorIndex := 1117, attributes := #[] }, { accessFlags := 24, nameIndex := 40, descriptorIndex := 26, attributes := #[] }, { accessFlags := 26, nameIndex := 1101, descriptorIndex := 1102, attributes := #[] }, { accessFlags := 26, nameIndex := 1121, descriptorIndex := 1122, attributes := #[] }, { accessFlags := 25, nameIndex := 599, descriptorIndex := 600, attributes := #[] }, { accessFlags := 24, nameIndex := 1125, descriptorIndex := 18, attributes := #[] }, { accessFlags := 24, nameIndex := 1127, descriptorIndex := 18, attributes := #[] }])
  fields := #[{ name := "value", type := (.array .byte), accessFlags := 18, slot := 0, constantValue := 0 }, { name := "coder", type := .byte, accessFlags := 18, slot := 1, constantValue := 0 }, { name := "hash", type := .int, accessFlags := 2, slot := 2, constantValue := 0 }, { name := "hashIsZero", type := .boolean, accessFlags := 2, slot := 3, constantValue := 0 }, { name := "serialVersionUID", type := .long, accessFlags := 26, slot := 0, constantValue := 0 }, { name := "COMPACT_STRINGS", type := .boolean, accessFlags := 24, slot := 1, constantValue := 0 }, { name := "serialPersistentFields", type := (.array (.object "java/io/ObjectStreamField")), accessFlags := 26, slot := 2, constantValue := 0 }, { name := "REPL", type := .char, accessFlags := 26, slot := 3, constantValue := 0 }, { name := "CASE_INSENSITIVE_ORDER", type := (.object "java/util/Comparator"), accessFlags := 25, slot := 4, constantValue := 0 }, { name := "LATIN1", type := .byte, accessFlags := 24, slot := 5, constantValue := 0 }, { name := "UTF16", type := .byte, accessFlags := 24, slot := 6, constantValue := 0 }]
  methods := #[k8m0, k8m1, k8m2, k8m3]
  instanceTypes := #[(.array .byte), .byte, .int, .boolean]
  staticTypes := #[.long, .boolean, (.array (.object "java/io/ObjectStreamField")), .char, (.object "java/util/Comparator"), .byte, .byte]
  resolved := Array.replicate 1451 none
  statics := some 0 }

def pool9 : Array CpInfo := pool [(2, .class_ 4), (1, u "java/lang/Object"), (0, u "<init>"), (0, u "()V"), (35, .class_ 44), (1, u "java/util/Objects"), (0, u "requireNonNull"), (48, u "(Ljava/lang/Object;Ljava/lang/String;)Ljava/lang/Object;")] 89

def k9m0 : Method := { name := "<init>", desc := "()V", sig := { parameters := [], returnType := none }, accessFlags := 2, code := none }
def k9c1 : Code := { maxStack := 3, maxLocals := 2, code := jdk_31_method_11_code, exceptionTable := #[], attributes := #[] }
def k9m1 : Method := { name := "requireNonNull", desc := "(Ljava/lang/Object;Ljava/lang/String;)Ljava/lang/Object;", sig := { parameters := [(.object "java/lang/Object"), (.object "java/lang/String")], returnType := some (.object "java/lang/Object") }, accessFlags := 9, code := some k9c1 }
/-- java/util/Objects -/
def k9 : Class := { plain "java/util/Objects" (some 0) with
  accessFlags := 49
  interfaces := #[]
  cf := some (fileOf pool9 42 #[] #[{ accessFlags := 2, nameIndex := 5, descriptorIndex := 6, attributes := #[] }, { accessFlags := 9, nameIndex := 45, descriptorIndex := 94, attributes := #[] }] 49 2 #[] #[])
  fields := #[]
  methods := #[k9m0, k9m1]
  instanceTypes := #[]
  staticTypes := #[]
  resolved := Array.replicate 184 none
  statics := none }

def pool10 : Array CpInfo := pool [(2, .class_ 4), (1, u "java/lang/Object"), (3, u "metadata"), (7, u "commitTime"), (1, .class_ 20), (1, u "com/example/limpet/limpet/CommittedOffset"), (0, u "requireOffset"), (0, u "(J)J"), (2, u "offset"), (0, u "J"), (2, u "Ljava/lang/String;"), (12, u "Ljava/time/Instant;")] 60

def k10c0 : Code := { maxStack := 4, maxLocals := 2, code := prog_5_method_2_code, exceptionTable := #[], attributes := #[] }
def k10m0 : Method := { name := "requireOffset", desc := "(J)J", sig := { parameters := [.long], returnType := some .long }, accessFlags := 8, code := some k10c0 }
/-- com/example/limpet/limpet/CommittedOffset -/
def k10 : Class := { plain "com/example/limpet/limpet/CommittedOffset" (some 0) with
  accessFlags := 49
  interfaces := #[]
  cf := some (fileOf pool10 18 #[] #[{ accessFlags := 8, nameIndex := 21, descriptorIndex := 22, attributes := #[] }] 49 2 #[] #[{ accessFlags := 18, nameIndex := 25, descriptorIndex := 26, attributes := #[] }, { accessFlags := 18, nameIndex := 8, descriptorIndex := 29, attributes := #[] }, { accessFlags := 18, nameIndex := 16, descriptorIndex := 42, attributes := #[] }])
  fields := #[{ name := "offset", type := .long, accessFlags := 18, slot := 0, constantValue := 0 }, { name := "metadata", type := (.object "java/lang/String"), accessFlags := 18, slot := 1, constantValue := 0 }, { name := "commitTime", type := (.object "java/time/Instant"), accessFlags := 18, slot := 2, constantValue := 0 }]
  methods := #[k10m0]
  instanceTypes := #[.long, (.object "java/lang/String"), (.object "java/time/Instant")]
  staticTypes := #[]
  resolved := Array.replicate 103 none
  statics := none }

def pool11 : Array CpInfo := pool [(4, .class_ 6), (1, u "java/lang/Object"), (0, u "<init>"), (0, u "()V"), (5, .class_ 16), (1, u "java/lang/StringLatin1"), (104, u "$assertionsDisabled"), (0, u "Z"), (98, .class_ 223), (1, u "java/lang/StringLatin1$LinesSpliterator"), (57, u "equals"), (0, u "([B[B)Z"), (107, .class_ 391), (0, u "java/lang/StringLatin1$CharsSpliterator")] 3

def k11m0 : Method := { name := "<init>", desc := "()V", sig := { parameters := [], returnType := none }, accessFlags := 0, code := none }
def k11c1 : Code := { maxStack := 3, maxLocals := 3, code := jdk_43_method_13_code, exceptionTable := #[], attributes := #[] }
def k11m1 : Method := { name := "equals", desc := "([B[B)Z", sig := { parameters := [(.array .byte), (.array .byte)], returnType := some .boolean }, accessFlags := 9, code := some k11c1 }
/-- java/lang/StringLatin1 -/
def k11 : Class := { plain "java/lang/StringLatin1" (some 0) with
  accessFlags := 48
  interfaces := #[]
  cf := some (fileOf pool11 14 #[.nestMembers #[390, 221]] #[{ accessFlags := 0, nameIndex := 7, descriptorIndex := 8, attributes := #[] }, { accessFlags := 9, nameIndex := 281, descriptorIndex := 282, attributes := #[] }] 48 4 #[] #[{ accessFlags := 4120, nameIndex := 121, descriptorIndex := 122, attributes := #[] }])
  fields := #[{ name := "$assertionsDisabled", type := .boolean, accessFlags := 4120, slot := 0, constantValue := 0 }]
  methods := #[k11m0, k11m1]
  instanceTypes := #[]
  staticTypes := #[.boolean]
  resolved := Array.replicate 395 none
  statics := none }

def pool12 : Array CpInfo := pool [(1, .methodref 2 3), (0, .class_ 4), (0, .nameAndType 5 6), (0, u "java/lang/Object"), (0, u "<init>"), (0, u "()V"), (1, .class_ 10), (1, u "java/lang/Number"), (2, .class_ 14), (0, u "java/io/Serializable"), (0, u "serialVersionUID"), (0, u "J")] 20

def k12c0 : Code := { maxStack := 1, maxLocals := 1, code := jdk_18_method_1_code, exceptionTable := #[], attributes := #[] }
def k12m0 : Method := { name := "<init>", desc := "()V", sig := { parameters := [], returnType := none }, accessFlags := 1, code := some k12c0 }
/-- java/lang/Number -/
def k12 : Class := { plain "java/lang/Number" (some 0) with
  accessFlags := 1057
  interfaces := #[3]
  cf := some (fileOf pool12 8 #[] #[{ accessFlags := 1, nameIndex := 5, descriptorIndex := 6, attributes := #[] }] 1057 2 #[13] #[{ accessFlags := 26, nameIndex := 15, descriptorIndex := 16, attributes := #[] }])
  fields := #[{ name := "serialVersionUID", type := .long, accessFlags := 26, slot := 0, constantValue := 0 }]
  methods := #[k12m0]
  instanceTypes := #[]
  staticTypes := #[.long]
  resolved := Array.replicate 37 none
  statics := none }

def pool13 : Array CpInfo := pool [(1, .class_ 2), (0, u "java/lang/Long"), (55, .nameAndType 59 60), (0, u "<init>"), (0, u "()V"), (24, u "valueOf"), (143, u "(J)Ljava/lang/Long;"), (0, .long 18446744073709551488), (1, .long 127), (1, .fieldref 235 236), (0, .class_ 237), (0, .nameAndType 238 239), (0, u "java/lang/Long$LongCache"), (0, u "cache"), (0, u "[Ljava/lang/Long;"), (0, .methodref 1 241), (0, .nameAndType 59 242), (0, u "(J)V"), (27, .methodref 271 58), (0, .class_ 272), (0, u "java/lang/Number"), (0, .fieldref 1 274), (0, .nameAndType 275 276), (0, u "value"), (0, u "J"), (84, u "TYPE"), (0, u "Ljava/lang/Class;"), (0, .class_ 364), (0, u "java/lang/Comparable"), (0, .class_ 366), (0, u "java/lang/constant/Constable"), (0, .class_ 368), (0, u "java/lang/constant/ConstantDesc"), (0, u "MIN_VALUE"), (1, u "MAX_VALUE"), (4, u "SIZE"), (0, u "I"), (1, u "BYTES"), (1, u "serialVersionUID")] 142

def k13c0 : Code := { maxStack := 4, maxLocals := 3, code := jdk_35_method_24_code, exceptionTable := #[], attributes := #[] }
def k13m0 : Method := { name := "valueOf", desc := "(J)Ljava/lang/Long;", sig := { parameters := [.long], returnType := some (.object "java/lang/Long") }, accessFlags := 9, code := some k13c0 }
def k13c1 : Code := { maxStack := 3, maxLocals := 3, code := jdk_35_method_26_code, exceptionTable := #[], attributes := #[] }
def k13m1 : Method := { name := "<init>", desc := "(J)V", sig := { parameters := [.long], returnType := none }, accessFlags := 1, code := some k13c1 }
/-- java/lang/Long -/
def k13 : Class := { plain "java/lang/Long" (some 12) with
  accessFlags := 49
  interfaces := #[4, 6, 7]
  cf := some (fileOf pool13 1 #[.nestMembers #[235]] #[{ accessFlags := 9, nameIndex := 85, descriptorIndex := 229, attributes := #[] }, { accessFlags := 1, nameIndex := 59, descriptorIndex := 242, attributes := #[] }] 49 271 #[363, 365, 367] #[{ accessFlags := 25, nameIndex := 369, descriptorIndex := 276, attributes := #[] }, { accessFlags := 25, nameIndex := 371, descriptorIndex := 276, attributes := #[] }, { accessFlags := 25, nameIndex := 361, descriptorIndex := 362, attributes := #[] }, { accessFlags := 18, nameIndex := 275, descriptorIndex := 276, attributes := #[] }, { accessFlags := 25, nameIndex := 376, descriptorIndex := 377, attributes := #[] }, { accessFlags := 25, nameIndex := 379, descriptorIndex := 377, attributes := #[] }, { accessFlags := 26, nameIndex := 381, descriptorIndex := 276, attributes := #[] }])
  fields := #[{ name := "MIN_VALUE", type := .long, accessFlags := 25, slot := 0, constantValue := 0 }, { name := "MAX_VALUE", type := .long, accessFlags := 25, slot := 1, constantValue := 0 }, { name := "TYPE", type := (.object "java/lang/Class"), accessFlags := 25, slot := 2, constantValue := 0 }, { name := "value", type := .long, accessFlags := 18, slot := 0, constantValue := 0 }, { name := "SIZE", type := .int, accessFlags := 25, slot := 3, constantValue := 0 }, { name := "BYTES", type := .int, accessFlags := 25, slot := 4, constantValue := 0 }, { name := "serialVersionUID", type := .long, accessFlags := 26, slot := 5, constantValue := 0 }]
  methods := #[k13m0, k13m1]
  instanceTypes := #[.long]
  staticTypes := #[.long, .long, (.object "java/lang/Class"), .int, .int, .long]
  resolved := Array.replicate 524 none
  statics := none }

def pool14 : Array CpInfo := pool [(6, .class_ 8), (1, u "java/lang/Object"), (0, u "<init>"), (0, u "()V"), (1, .class_ 14), (1, u "java/lang/StringUTF16"), (31, u "$assertionsDisabled"), (0, u "Z"), (13, u "HI_BYTE_SHIFT"), (0, u "I"), (2, u "LO_BYTE_SHIFT"), (49, .methodref 12 116), (0, .nameAndType 117 118), (0, u "compress"), (0, u "([CI[BII)I"), (3, u "([CII)[B"), (138, u "coderFromArrayLen"), (0, u "([BI)B"), (106, .class_ 371), (1, u "java/lang/StringUTF16$LinesSpliterator"), (58, u "MAX_LENGTH"), (196, .class_ 628), (0, u "java/lang/StringUTF16$CodePointsSpliterator"), (0, .class_ 630), (0, u "java/lang/StringUTF16$CharsSpliterator")] 4

def k14m0 : Method := { name := "<init>", desc := "()V", sig := { parameters := [], returnType := none }, accessFlags := 0, code := none }
def k14c1 : Code := { maxStack := 2, maxLocals := 2, code := jdk_52_method_15_code, exceptionTable := #[], attributes := #[] }
def k14m1 : Method := { name := "coderFromArrayLen", desc := "([BI)B", sig := { parameters := [(.array .byte), .int], returnType := some .byte }, accessFlags := 8, code := some k14c1 }
def k14c2 : Code := { maxStack := 5, maxLocals := 6, code := jdk_52_method_16_code, exceptionTable := #[], attributes := #[] }
def k14m2 : Method := { name := "compress", desc := "([CII)[B", sig := { parameters := [(.array .char), .int, .int], returnType := some (.array .byte) }, accessFlags := 9, code := some k14c2 }
def k14c3 : Code := { maxStack := 3, maxLocals := 7, code := jdk_52_method_21_code, exceptionTable := #[], attributes := #[] }
def k14m3 : Method := { name := "compress", desc := "([CI[BII)I", sig := { parameters := [(.array .char), .int, (.array .byte), .int, .int], returnType := some .int }, accessFlags := 9, code := some k14c3 }
/-- java/lang/StringUTF16 -/
def k14 : Class := { plain "java/lang/StringUTF16" (some 0) with
  accessFlags := 48
  interfaces := #[]
  cf := some (fileOf pool14 12 #[.nestMembers #[627, 629, 369]] #[{ accessFlags := 0, nameIndex := 9, descriptorIndex := 10, attributes := #[] }, { accessFlags := 8, nameIndex := 261, descriptorIndex := 262, attributes := #[] }, { accessFlags := 9, nameIndex := 117, descriptorIndex := 122, attributes := #[] }, { accessFlags := 9, nameIndex := 117, descriptorIndex := 118, attributes := #[] }] 48 6 #[] #[{ accessFlags := 26, nameIndex := 61, descriptorIndex := 62, attributes := #[] }, { accessFlags := 26, nameIndex := 65, descriptorIndex := 62, attributes := #[] }, { accessFlags := 24, nameIndex := 430, descriptorIndex := 62, attributes := #[] }, { accessFlags := 4120, nameIndex := 46, descriptorIndex := 47, attributes := #[] }])
  fields := #[{ name := "HI_BYTE_SHIFT", type := .int, accessFlags := 26, slot := 0, constantValue := 0 }, { name := "LO_BYTE_SHIFT", type := .int, accessFlags := 26, slot := 1, constantValue := 0 }, { name := "MAX_LENGTH", type := .int, accessFlags := 24, slot := 2, constantValue := 0 }, { name := "$assertionsDisabled", type := .boolean, accessFlags := 4120, slot := 3, constantValue := 0 }]
  methods := #[k14m0, k14m1, k14m2, k14m3]
  instanceTypes := #[]
  staticTypes := #[.int, .int, .int, .boolean]
  resolved := Array.replicate 635 none
  statics := none }

def pool15 : Array CpInfo := pool [(2, .class_ 4), (1, u "java/lang/Object"), (0, u "<init>"), (0, u "()V"), (0, .class_ 8), (0, u "java/lang/Long"), (7, .class_ 18), (1, u "java/lang/Long$LongCache"), (0, u "$assertionsDisabled"), (0, u "Z"), (8, u "archivedCache"), (0, u "[Ljava/lang/Long;"), (7, u "cache")] 24

def k15m0 : Method := { name := "<init>", desc := "()V", sig := { parameters := [], returnType := none }, accessFlags := 2, code := none }
/-- java/lang/Long$LongCache -/
def k15 : Class := { plain "java/lang/Long$LongCache" (some 0) with
  accessFlags := 48
  interfaces := #[]
  cf := some (fileOf pool15 16 #[.nestHost 7] #[{ accessFlags := 2, nameIndex := 5, descriptorIndex := 6, attributes := #[] }] 48 2 #[] #[{ accessFlags := 24, nameIndex := 38, descriptorIndex := 30, attributes := #[] }, { accessFlags := 8, nameIndex := 29, descriptorIndex := 30, attributes := #[] }, { accessFlags := 4120, nameIndex := 19, descriptorIndex := 20, attributes := #[] }])
  fields := #[{ name := "cache", type := (.array (.object "java/lang/Long")), accessFlags := 24, slot := 0, constantValue := 0 }, { name := "archivedCache", type := (.array (.object "java/lang/Long")), accessFlags := 8, slot := 1, constantValue := 0 }, { name := "$assertionsDisabled", type := .boolean, accessFlags := 4120, slot := 2, constantValue := 0 }]
  methods := #[k15m0]
  instanceTypes := #[]
  staticTypes := #[(.array (.object "java/lang/Long")), (.array (.object "java/lang/Long")), .boolean]
  resolved := Array.replicate 63 none
  statics := some 1 }

def pool16 : Array CpInfo := pool [(2, .class_ 4), (1, u "java/lang/Object"), (0, u "<init>"), (0, u "()V"), (17, .class_ 26), (1, u "jdk/internal/util/Preconditions"), (28, .class_ 56), (0, u "jdk/internal/util/Preconditions$4"), (57, .class_ 115), (0, u "jdk/internal/util/Preconditions$1"), (7, u "SIOOBE_FORMATTER"), (0, u "Ljava/util/function/BiFunction;"), (0, .class_ 126), (0, u "jdk/internal/util/Preconditions$2"), (3, u "AIOOBE_FORMATTER"), (0, .class_ 132), (0, u "jdk/internal/util/Preconditions$3"), (3, u "IOOBE_FORMATTER")] 57

def k16m0 : Method := { name := "<init>", desc := "()V", sig := { parameters := [], returnType := none }, accessFlags := 1, code := none }
/-- jdk/internal/util/Preconditions -/
def k16 : Class := { plain "jdk/internal/util/Preconditions" (some 0) with
  accessFlags := 33
  interfaces := #[]
  cf := some (fileOf pool16 24 #[.nestMembers #[55, 131, 125, 114]] #[{ accessFlags := 1, nameIndex := 5, descriptorIndex := 6, attributes := #[] }] 33 2 #[] #[{ accessFlags := 25, nameIndex := 123, descriptorIndex := 124, attributes := #[] }, { accessFlags := 25, nameIndex := 130, descriptorIndex := 124, attributes := #[] }, { accessFlags := 25, nameIndex := 136, descriptorIndex := 124, attributes := #[] }])
  fields := #[{ name := "SIOOBE_FORMATTER", type := (.object "java/util/function/BiFunction"), accessFlags := 25, slot := 0, constantValue := 0 }, { name := "AIOOBE_FORMATTER", type := (.object "java/util/function/BiFunction"), accessFlags := 25, slot := 1, constantValue := 0 }, { name := "IOOBE_FORMATTER", type := (.object "java/util/function/BiFunction"), accessFlags := 25, slot := 2, constantValue := 0 }]
  methods := #[k16m0]
  instanceTypes := #[]
  staticTypes := #[(.object "java/util/function/BiFunction"), (.object "java/util/function/BiFunction"), (.object "java/util/function/BiFunction")]
  resolved := Array.replicate 194 none
  statics := some 2 }

def pool17 : Array CpInfo := pool [(9, u "<init>"), (6, .class_ 18), (1, u "java/lang/Object"), (0, u "()V"), (1, .class_ 23), (1, u "jdk/internal/util/ArraysSupport"), (0, u "LOG2_ARRAY_LONG_INDEX_SCALE"), (0, u "I"), (2, u "U"), (0, u "Ljdk/internal/misc/Unsafe;"), (8, u "BIG_ENDIAN"), (0, u "Z"), (8, u "LOG2_BYTE_BIT_SIZE"), (4, u "LOG2_ARRAY_INT_INDEX_SCALE"), (54, u "JLA"), (0, u "Ljdk/internal/access/JavaLangAccess;"), (11, u "LOG2_ARRAY_BOOLEAN_INDEX_SCALE"), (9, u "LOG2_ARRAY_BYTE_INDEX_SCALE"), (5, u "LOG2_ARRAY_CHAR_INDEX_SCALE"), (5, u "LOG2_ARRAY_SHORT_INDEX_SCALE"), (18, u "LOG2_ARRAY_FLOAT_INDEX_SCALE"), (24, u "LOG2_ARRAY_DOUBLE_INDEX_SCALE"), (89, u "T_BOOLEAN"), (2, u "T_CHAR"), (1, u "T_FLOAT"), (1, u "T_DOUBLE"), (1, u "T_BYTE"), (1, u "T_SHORT"), (1, u "T_INT"), (1, u "T_LONG"), (1, u "SOFT_MAX_ARRAY_LENGTH")] 83

def k17m0 : Method := { name := "<init>", desc := "()V", sig := { parameters := [], returnType := none }, accessFlags := 2, code := none }
/-- jdk/internal/util/ArraysSupport -/
def k17 : Class := { plain "jdk/internal/util/ArraysSupport" (some 0) with
  accessFlags := 33
  interfaces := #[]
  cf := some (fileOf pool17 21 #[] #[{ accessFlags := 2, nameIndex := 9, descriptorIndex := 19, attributes := #[] }] 33 16 #[] #[{ accessFlags := 24, nameIndex := 28, descriptorIndex := 29, attributes := #[] }, { accessFlags := 26, nameIndex := 38, descriptorIndex := 39, attributes := #[] }, { accessFlags := 25, nameIndex := 121, descriptorIndex := 25, attributes := #[] }, { accessFlags := 25, nameIndex := 131, descriptorIndex := 25, attributes := #[] }, { accessFlags := 25, nameIndex := 137, descriptorIndex := 25, attributes := #[] }, { accessFlags := 25, nameIndex := 143, descriptorIndex := 25, attributes := #[] }, { accessFlags := 25, nameIndex := 53, descriptorIndex := 25, attributes := #[] }, { accessFlags := 25, nameIndex := 24, descriptorIndex := 25, attributes := #[] }, { accessFlags := 25, nameIndex := 162, descriptorIndex := 25, attributes := #[] }, { accessFlags := 25, nameIndex := 187, descriptorIndex := 25, attributes := #[] }, { accessFlags := 26, nameIndex := 48, descriptorIndex := 25, attributes := #[] }, { accessFlags := 25, nameIndex := 277, descriptorIndex := 25, attributes := #[] }, { accessFlags := 25, nameIndex := 280, descriptorIndex := 25, attributes := #[] }, { accessFlags := 25, nameIndex := 282, descriptorIndex := 25, attributes := #[] }, { accessFlags := 25, nameIndex := 284, descriptorIndex := 25, attributes := #[] }, { accessFlags := 25, nameIndex := 286, descriptorIndex := 25, attributes := #[] }, { accessFlags := 25, nameIndex := 288, descriptorIndex := 25, attributes := #[] }, { accessFlags := 25, nameIndex := 290, descriptorIndex := 25, attributes := #[] }, { accessFlags := 25, nameIndex := 292, descriptorIndex := 25, attributes := #[] }, { accessFlags := 26, nameIndex := 108, descriptorIndex := 109, attributes := #[] }, { accessFlags := 25, nameIndex := 294, descriptorIndex := 25, attributes := #[] }])
  fields := #[{ name := "U", type := (.object "jdk/internal/misc/Unsafe"), accessFlags := 24, slot := 0, constantValue := 0 }, { name := "BIG_ENDIAN", type := .boolean, accessFlags := 26, slot := 1, constantValue := 0 }, { name := "LOG2_ARRAY_BOOLEAN_INDEX_SCALE", type := .int, accessFlags := 25, slot := 2, constantValue := 0 }, { name := "LOG2_ARRAY_BYTE_INDEX_SCALE", type := .int, accessFlags := 25, slot := 3, constantValue := 0 }, { name := "LOG2_ARRAY_CHAR_INDEX_SCALE", type := .int, accessFlags := 25, slot := 4, constantValue := 0 }, { name := "LOG2_ARRAY_SHORT_INDEX_SCALE", type := .int, accessFlags := 25, slot := 5, constantValue := 0 }, { name := "LOG2_ARRAY_INT_INDEX_SCALE", type := .int, accessFlags := 25, slot := 6, constantValue := 0 }, { name := "LOG2_ARRAY_LONG_INDEX_SCALE", type := .int, accessFlags := 25, slot := 7, constantValue := 0 }, { name := "LOG2_ARRAY_FLOAT_INDEX_SCALE", type := .int, accessFlags := 25, slot := 8, constantValue := 0 }, { name := "LOG2_ARRAY_DOUBLE_INDEX_SCALE", type := .int, accessFlags := 25, slot := 9, constantValue := 0 }, { name := "LOG2_BYTE_BIT_SIZE", type := .int, accessFlags := 26, slot := 10, constantValue := 0 }, { name := "T_BOOLEAN", type := .int, accessFlags := 25, slot := 11, constantValue := 0 }, { name := "T_CHAR", type := .int, accessFlags := 25, slot := 12, constantValue := 0 }, { name := "T_FLOAT", type := .int, accessFlags := 25, slot := 13, constantValue := 0 }, { name := "T_DOUBLE", type := .int, accessFlags := 25, slot := 14, constantValue := 0 }, { name := "T_BYTE", type := .int, accessFlags := 25, slot := 15, constantValue := 0 }, { name := "T_SHORT", type := .int, accessFlags := 25, slot := 16, constantValue := 0 }, { name := "T_INT", type := .int, accessFlags := 25, slot := 17, constantValue := 0 }, { name := "T_LONG", type := .int, accessFlags := 25, slot := 18, constantValue := 0 }, { name := "JLA", type := (.object "jdk/internal/access/JavaLangAccess"), accessFlags := 26, slot := 19, constantValue := 0 }, { name := "SOFT_MAX_ARRAY_LENGTH", type := .int, accessFlags := 25, slot := 20, constantValue := 0 }]
  methods := #[k17m0]
  instanceTypes := #[]
  staticTypes := #[(.object "jdk/internal/misc/Unsafe"), .boolean, .int, .int, .int, .int, .int, .int, .int, .int, .int, .int, .int, .int, .int, .int, .int, .int, .int, (.object "jdk/internal/access/JavaLangAccess"), .int]
  resolved := Array.replicate 378 none
  statics := none }

def pool18 : Array CpInfo := pool [(1, u "java/lang/Cloneable"), (0, .class_ 1), (0, u "java/lang/Object"), (0, .class_ 3)] 3

/-- java/lang/Cloneable -/
def k18 : Class := { plain "java/lang/Cloneable" (some 0) with
  accessFlags := 1537
  interfaces := #[]
  cf := some (fileOf pool18 2 #[] #[] 1537 4 #[] #[])
  fields := #[]
  methods := #[]
  instanceTypes := #[]
  staticTypes := #[]
  resolved := Array.replicate 8 none
  statics := none }

/-- the primitive byte -/
def k19 : Class := { plain "byte" none with kind := .primitive 'B', accessFlags := 0x411 }
/-- [B -/
def k20 : Class := { plain "[B" (some 0) with kind := .array 19 .byte, interfaces := #[18, 3], accessFlags := 1041 }

/-- the primitive char -/
def k21 : Class := { plain "char" none with kind := .primitive 'C', accessFlags := 0x411 }
/-- [C -/
def k22 : Class := { plain "[C" (some 0) with kind := .array 21 .char, interfaces := #[18, 3], accessFlags := 1041 }

/-- the primitive int -/
def k23 : Class := { plain "int" none with kind := .primitive 'I', accessFlags := 0x411 }
/-- [I -/
def k24 : Class := { plain "[I" (some 0) with kind := .array 23 .int, interfaces := #[18, 3], accessFlags := 1041 }

/-- [Ljava/lang/Long; -/
def k25 : Class := { plain "[Ljava/lang/Long;" (some 0) with kind := .array 13 (.object "java/lang/Long"), interfaces := #[18, 3], accessFlags := 1041 }

def heap : Heap := #[{ cls := 8, slots := #[.long 0, .int 1, .null, .int 0, .null, .int 0, .int 0], vm := .statics 8 },
  { cls := 15, slots := #[.ref 3, .null, .int 0], vm := .statics 15 },
  { cls := 16, slots := #[.null, .null, .null], vm := .statics 16 },
  { cls := 25, slots := #[.ref 4, .ref 5, .ref 6, .ref 7, .ref 8, .ref 9, .ref 10, .ref 11, .ref 12, .ref 13, .ref 14, .ref 15, .ref 16, .ref 17, .ref 18, .ref 19, .ref 20, .ref 21, .ref 22, .ref 23, .ref 24, .ref 25, .ref 26, .ref 27, .ref 28, .ref 29, .ref 30, .ref 31, .ref 32, .ref 33, .ref 34, .ref 35, .ref 36, .ref 37, .ref 38, .ref 39, .ref 40, .ref 41, .ref 42, .ref 43, .ref 44, .ref 45, .ref 46, .ref 47, .ref 48, .ref 49, .ref 50, .ref 51, .ref 52, .ref 53, .ref 54, .ref 55, .ref 56, .ref 57, .ref 58, .ref 59, .ref 60, .ref 61, .ref 62, .ref 63, .ref 64, .ref 65, .ref 66, .ref 67, .ref 68, .ref 69, .ref 70, .ref 71, .ref 72, .ref 73, .ref 74, .ref 75, .ref 76, .ref 77, .ref 78, .ref 79, .ref 80, .ref 81, .ref 82, .ref 83, .ref 84, .ref 85, .ref 86, .ref 87, .ref 88, .ref 89, .ref 90, .ref 91, .ref 92, .ref 93, .ref 94, .ref 95, .ref 96, .ref 97, .ref 98, .ref 99, .ref 100, .ref 101, .ref 102, .ref 103, .ref 104, .ref 105, .ref 106, .ref 107, .ref 108, .ref 109, .ref 110, .ref 111, .ref 112, .ref 113, .ref 114, .ref 115, .ref 116, .ref 117, .ref 118, .ref 119, .ref 120, .ref 121, .ref 122, .ref 123, .ref 124, .ref 125, .ref 126, .ref 127, .ref 128, .ref 129, .ref 130, .ref 131, .ref 132, .ref 133, .ref 134, .ref 135, .ref 136, .ref 137, .ref 138, .ref 139, .ref 140, .ref 141, .ref 142, .ref 143, .ref 144, .ref 145, .ref 146, .ref 147, .ref 148, .ref 149, .ref 150, .ref 151, .ref 152, .ref 153, .ref 154, .ref 155, .ref 156, .ref 157, .ref 158, .ref 159, .ref 160, .ref 161, .ref 162, .ref 163, .ref 164, .ref 165, .ref 166, .ref 167, .ref 168, .ref 169, .ref 170, .ref 171, .ref 172, .ref 173, .ref 174, .ref 175, .ref 176, .ref 177, .ref 178, .ref 179, .ref 180, .ref 181, .ref 182, .ref 183, .ref 184, .ref 185, .ref 186, .ref 187, .ref 188, .ref 189, .ref 190, .ref 191, .ref 192, .ref 193, .ref 194, .ref 195, .ref 196, .ref 197, .ref 198, .ref 199, .ref 200, .ref 201, .ref 202, .ref 203, .ref 204, .ref 205, .ref 206, .ref 207, .ref 208, .ref 209, .ref 210, .ref 211, .ref 212, .ref 213, .ref 214, .ref 215, .ref 216, .ref 217, .ref 218, .ref 219, .ref 220, .ref 221, .ref 222, .ref 223, .ref 224, .ref 225, .ref 226, .ref 227, .ref 228, .ref 229, .ref 230, .ref 231, .ref 232, .ref 233, .ref 234, .ref 235, .ref 236, .ref 237, .ref 238, .ref 239, .ref 240, .ref 241, .ref 242, .ref 243, .ref 244, .ref 245, .ref 246, .ref 247, .ref 248, .ref 249, .ref 250, .ref 251, .ref 252, .ref 253, .ref 254, .ref 255, .ref 256, .ref 257, .ref 258, .ref 259], vm := .none },
  { cls := 13, slots := #[.long (-128)], vm := .none },
  { cls := 13, slots := #[.long (-127)], vm := .none },
  { cls := 13, slots := #[.long (-126)], vm := .none },
  { cls := 13, slots := #[.long (-125)], vm := .none },
  { cls := 13, slots := #[.long (-124)], vm := .none },
  { cls := 13, slots := #[.long (-123)], vm := .none },
  { cls := 13, slots := #[.long (-122)], vm := .none },
  { cls := 13, slots := #[.long (-121)], vm := .none },
  { cls := 13, slots := #[.long (-120)], vm := .none },
  { cls := 13, slots := #[.long (-119)], vm := .none },
  { cls := 13, slots := #[.long (-118)], vm := .none },
  { cls := 13, slots := #[.long (-117)], vm := .none },
  { cls := 13, slots := #[.long (-116)], vm := .none },
  { cls := 13, slots := #[.long (-115)], vm := .none },
  { cls := 13, slots := #[.long (-114)], vm := .none },
  { cls := 13, slots := #[.long (-113)], vm := .none },
  { cls := 13, slots := #[.long (-112)], vm := .none },
  { cls := 13, slots := #[.long (-111)], vm := .none },
  { cls := 13, slots := #[.long (-110)], vm := .none },
  { cls := 13, slots := #[.long (-109)], vm := .none },
  { cls := 13, slots := #[.long (-108)], vm := .none },
  { cls := 13, slots := #[.long (-107)], vm := .none },
  { cls := 13, slots := #[.long (-106)], vm := .none },
  { cls := 13, slots := #[.long (-105)], vm := .none },
  { cls := 13, slots := #[.long (-104)], vm := .none },
  { cls := 13, slots := #[.long (-103)], vm := .none },
  { cls := 13, slots := #[.long (-102)], vm := .none },
  { cls := 13, slots := #[.long (-101)], vm := .none },
  { cls := 13, slots := #[.long (-100)], vm := .none },
  { cls := 13, slots := #[.long (-99)], vm := .none },
  { cls := 13, slots := #[.long (-98)], vm := .none },
  { cls := 13, slots := #[.long (-97)], vm := .none },
  { cls := 13, slots := #[.long (-96)], vm := .none },
  { cls := 13, slots := #[.long (-95)], vm := .none },
  { cls := 13, slots := #[.long (-94)], vm := .none },
  { cls := 13, slots := #[.long (-93)], vm := .none },
  { cls := 13, slots := #[.long (-92)], vm := .none },
  { cls := 13, slots := #[.long (-91)], vm := .none },
  { cls := 13, slots := #[.long (-90)], vm := .none },
  { cls := 13, slots := #[.long (-89)], vm := .none },
  { cls := 13, slots := #[.long (-88)], vm := .none },
  { cls := 13, slots := #[.long (-87)], vm := .none },
  { cls := 13, slots := #[.long (-86)], vm := .none },
  { cls := 13, slots := #[.long (-85)], vm := .none },
  { cls := 13, slots := #[.long (-84)], vm := .none },
  { cls := 13, slots := #[.long (-83)], vm := .none },
  { cls := 13, slots := #[.long (-82)], vm := .none },
  { cls := 13, slots := #[.long (-81)], vm := .none },
  { cls := 13, slots := #[.long (-80)], vm := .none },
  { cls := 13, slots := #[.long (-79)], vm := .none },
  { cls := 13, slots := #[.long (-78)], vm := .none },
  { cls := 13, slots := #[.long (-77)], vm := .none },
  { cls := 13, slots := #[.long (-76)], vm := .none },
  { cls := 13, slots := #[.long (-75)], vm := .none },
  { cls := 13, slots := #[.long (-74)], vm := .none },
  { cls := 13, slots := #[.long (-73)], vm := .none },
  { cls := 13, slots := #[.long (-72)], vm := .none },
  { cls := 13, slots := #[.long (-71)], vm := .none },
  { cls := 13, slots := #[.long (-70)], vm := .none },
  { cls := 13, slots := #[.long (-69)], vm := .none },
  { cls := 13, slots := #[.long (-68)], vm := .none },
  { cls := 13, slots := #[.long (-67)], vm := .none },
  { cls := 13, slots := #[.long (-66)], vm := .none },
  { cls := 13, slots := #[.long (-65)], vm := .none },
  { cls := 13, slots := #[.long (-64)], vm := .none },
  { cls := 13, slots := #[.long (-63)], vm := .none },
  { cls := 13, slots := #[.long (-62)], vm := .none },
  { cls := 13, slots := #[.long (-61)], vm := .none },
  { cls := 13, slots := #[.long (-60)], vm := .none },
  { cls := 13, slots := #[.long (-59)], vm := .none },
  { cls := 13, slots := #[.long (-58)], vm := .none },
  { cls := 13, slots := #[.long (-57)], vm := .none },
  { cls := 13, slots := #[.long (-56)], vm := .none },
  { cls := 13, slots := #[.long (-55)], vm := .none },
  { cls := 13, slots := #[.long (-54)], vm := .none },
  { cls := 13, slots := #[.long (-53)], vm := .none },
  { cls := 13, slots := #[.long (-52)], vm := .none },
  { cls := 13, slots := #[.long (-51)], vm := .none },
  { cls := 13, slots := #[.long (-50)], vm := .none },
  { cls := 13, slots := #[.long (-49)], vm := .none },
  { cls := 13, slots := #[.long (-48)], vm := .none },
  { cls := 13, slots := #[.long (-47)], vm := .none },
  { cls := 13, slots := #[.long (-46)], vm := .none },
  { cls := 13, slots := #[.long (-45)], vm := .none },
  { cls := 13, slots := #[.long (-44)], vm := .none },
  { cls := 13, slots := #[.long (-43)], vm := .none },
  { cls := 13, slots := #[.long (-42)], vm := .none },
  { cls := 13, slots := #[.long (-41)], vm := .none },
  { cls := 13, slots := #[.long (-40)], vm := .none },
  { cls := 13, slots := #[.long (-39)], vm := .none },
  { cls := 13, slots := #[.long (-38)], vm := .none },
  { cls := 13, slots := #[.long (-37)], vm := .none },
  { cls := 13, slots := #[.long (-36)], vm := .none },
  { cls := 13, slots := #[.long (-35)], vm := .none },
  { cls := 13, slots := #[.long (-34)], vm := .none },
  { cls := 13, slots := #[.long (-33)], vm := .none },
  { cls := 13, slots := #[.long (-32)], vm := .none },
  { cls := 13, slots := #[.long (-31)], vm := .none },
  { cls := 13, slots := #[.long (-30)], vm := .none },
  { cls := 13, slots := #[.long (-29)], vm := .none },
  { cls := 13, slots := #[.long (-28)], vm := .none },
  { cls := 13, slots := #[.long (-27)], vm := .none },
  { cls := 13, slots := #[.long (-26)], vm := .none },
  { cls := 13, slots := #[.long (-25)], vm := .none },
  { cls := 13, slots := #[.long (-24)], vm := .none },
  { cls := 13, slots := #[.long (-23)], vm := .none },
  { cls := 13, slots := #[.long (-22)], vm := .none },
  { cls := 13, slots := #[.long (-21)], vm := .none },
  { cls := 13, slots := #[.long (-20)], vm := .none },
  { cls := 13, slots := #[.long (-19)], vm := .none },
  { cls := 13, slots := #[.long (-18)], vm := .none },
  { cls := 13, slots := #[.long (-17)], vm := .none },
  { cls := 13, slots := #[.long (-16)], vm := .none },
  { cls := 13, slots := #[.long (-15)], vm := .none },
  { cls := 13, slots := #[.long (-14)], vm := .none },
  { cls := 13, slots := #[.long (-13)], vm := .none },
  { cls := 13, slots := #[.long (-12)], vm := .none },
  { cls := 13, slots := #[.long (-11)], vm := .none },
  { cls := 13, slots := #[.long (-10)], vm := .none },
  { cls := 13, slots := #[.long (-9)], vm := .none },
  { cls := 13, slots := #[.long (-8)], vm := .none },
  { cls := 13, slots := #[.long (-7)], vm := .none },
  { cls := 13, slots := #[.long (-6)], vm := .none },
  { cls := 13, slots := #[.long (-5)], vm := .none },
  { cls := 13, slots := #[.long (-4)], vm := .none },
  { cls := 13, slots := #[.long (-3)], vm := .none },
  { cls := 13, slots := #[.long (-2)], vm := .none },
  { cls := 13, slots := #[.long (-1)], vm := .none },
  { cls := 13, slots := #[.long 0], vm := .none },
  { cls := 13, slots := #[.long 1], vm := .none },
  { cls := 13, slots := #[.long 2], vm := .none },
  { cls := 13, slots := #[.long 3], vm := .none },
  { cls := 13, slots := #[.long 4], vm := .none },
  { cls := 13, slots := #[.long 5], vm := .none },
  { cls := 13, slots := #[.long 6], vm := .none },
  { cls := 13, slots := #[.long 7], vm := .none },
  { cls := 13, slots := #[.long 8], vm := .none },
  { cls := 13, slots := #[.long 9], vm := .none },
  { cls := 13, slots := #[.long 10], vm := .none },
  { cls := 13, slots := #[.long 11], vm := .none },
  { cls := 13, slots := #[.long 12], vm := .none },
  { cls := 13, slots := #[.long 13], vm := .none },
  { cls := 13, slots := #[.long 14], vm := .none },
  { cls := 13, slots := #[.long 15], vm := .none },
  { cls := 13, slots := #[.long 16], vm := .none },
  { cls := 13, slots := #[.long 17], vm := .none },
  { cls := 13, slots := #[.long 18], vm := .none },
  { cls := 13, slots := #[.long 19], vm := .none },
  { cls := 13, slots := #[.long 20], vm := .none },
  { cls := 13, slots := #[.long 21], vm := .none },
  { cls := 13, slots := #[.long 22], vm := .none },
  { cls := 13, slots := #[.long 23], vm := .none },
  { cls := 13, slots := #[.long 24], vm := .none },
  { cls := 13, slots := #[.long 25], vm := .none },
  { cls := 13, slots := #[.long 26], vm := .none },
  { cls := 13, slots := #[.long 27], vm := .none },
  { cls := 13, slots := #[.long 28], vm := .none },
  { cls := 13, slots := #[.long 29], vm := .none },
  { cls := 13, slots := #[.long 30], vm := .none },
  { cls := 13, slots := #[.long 31], vm := .none },
  { cls := 13, slots := #[.long 32], vm := .none },
  { cls := 13, slots := #[.long 33], vm := .none },
  { cls := 13, slots := #[.long 34], vm := .none },
  { cls := 13, slots := #[.long 35], vm := .none },
  { cls := 13, slots := #[.long 36], vm := .none },
  { cls := 13, slots := #[.long 37], vm := .none },
  { cls := 13, slots := #[.long 38], vm := .none },
  { cls := 13, slots := #[.long 39], vm := .none },
  { cls := 13, slots := #[.long 40], vm := .none },
  { cls := 13, slots := #[.long 41], vm := .none },
  { cls := 13, slots := #[.long 42], vm := .none },
  { cls := 13, slots := #[.long 43], vm := .none },
  { cls := 13, slots := #[.long 44], vm := .none },
  { cls := 13, slots := #[.long 45], vm := .none },
  { cls := 13, slots := #[.long 46], vm := .none },
  { cls := 13, slots := #[.long 47], vm := .none },
  { cls := 13, slots := #[.long 48], vm := .none },
  { cls := 13, slots := #[.long 49], vm := .none },
  { cls := 13, slots := #[.long 50], vm := .none },
  { cls := 13, slots := #[.long 51], vm := .none },
  { cls := 13, slots := #[.long 52], vm := .none },
  { cls := 13, slots := #[.long 53], vm := .none },
  { cls := 13, slots := #[.long 54], vm := .none },
  { cls := 13, slots := #[.long 55], vm := .none },
  { cls := 13, slots := #[.long 56], vm := .none },
  { cls := 13, slots := #[.long 57], vm := .none },
  { cls := 13, slots := #[.long 58], vm := .none },
  { cls := 13, slots := #[.long 59], vm := .none },
  { cls := 13, slots := #[.long 60], vm := .none },
  { cls := 13, slots := #[.long 61], vm := .none },
  { cls := 13, slots := #[.long 62], vm := .none },
  { cls := 13, slots := #[.long 63], vm := .none },
  { cls := 13, slots := #[.long 64], vm := .none },
  { cls := 13, slots := #[.long 65], vm := .none },
  { cls := 13, slots := #[.long 66], vm := .none },
  { cls := 13, slots := #[.long 67], vm := .none },
  { cls := 13, slots := #[.long 68], vm := .none },
  { cls := 13, slots := #[.long 69], vm := .none },
  { cls := 13, slots := #[.long 70], vm := .none },
  { cls := 13, slots := #[.long 71], vm := .none },
  { cls := 13, slots := #[.long 72], vm := .none },
  { cls := 13, slots := #[.long 73], vm := .none },
  { cls := 13, slots := #[.long 74], vm := .none },
  { cls := 13, slots := #[.long 75], vm := .none },
  { cls := 13, slots := #[.long 76], vm := .none },
  { cls := 13, slots := #[.long 77], vm := .none },
  { cls := 13, slots := #[.long 78], vm := .none },
  { cls := 13, slots := #[.long 79], vm := .none },
  { cls := 13, slots := #[.long 80], vm := .none },
  { cls := 13, slots := #[.long 81], vm := .none },
  { cls := 13, slots := #[.long 82], vm := .none },
  { cls := 13, slots := #[.long 83], vm := .none },
  { cls := 13, slots := #[.long 84], vm := .none },
  { cls := 13, slots := #[.long 85], vm := .none },
  { cls := 13, slots := #[.long 86], vm := .none },
  { cls := 13, slots := #[.long 87], vm := .none },
  { cls := 13, slots := #[.long 88], vm := .none },
  { cls := 13, slots := #[.long 89], vm := .none },
  { cls := 13, slots := #[.long 90], vm := .none },
  { cls := 13, slots := #[.long 91], vm := .none },
  { cls := 13, slots := #[.long 92], vm := .none },
  { cls := 13, slots := #[.long 93], vm := .none },
  { cls := 13, slots := #[.long 94], vm := .none },
  { cls := 13, slots := #[.long 95], vm := .none },
  { cls := 13, slots := #[.long 96], vm := .none },
  { cls := 13, slots := #[.long 97], vm := .none },
  { cls := 13, slots := #[.long 98], vm := .none },
  { cls := 13, slots := #[.long 99], vm := .none },
  { cls := 13, slots := #[.long 100], vm := .none },
  { cls := 13, slots := #[.long 101], vm := .none },
  { cls := 13, slots := #[.long 102], vm := .none },
  { cls := 13, slots := #[.long 103], vm := .none },
  { cls := 13, slots := #[.long 104], vm := .none },
  { cls := 13, slots := #[.long 105], vm := .none },
  { cls := 13, slots := #[.long 106], vm := .none },
  { cls := 13, slots := #[.long 107], vm := .none },
  { cls := 13, slots := #[.long 108], vm := .none },
  { cls := 13, slots := #[.long 109], vm := .none },
  { cls := 13, slots := #[.long 110], vm := .none },
  { cls := 13, slots := #[.long 111], vm := .none },
  { cls := 13, slots := #[.long 112], vm := .none },
  { cls := 13, slots := #[.long 113], vm := .none },
  { cls := 13, slots := #[.long 114], vm := .none },
  { cls := 13, slots := #[.long 115], vm := .none },
  { cls := 13, slots := #[.long 116], vm := .none },
  { cls := 13, slots := #[.long 117], vm := .none },
  { cls := 13, slots := #[.long 118], vm := .none },
  { cls := 13, slots := #[.long 119], vm := .none },
  { cls := 13, slots := #[.long 120], vm := .none },
  { cls := 13, slots := #[.long 121], vm := .none },
  { cls := 13, slots := #[.long 122], vm := .none },
  { cls := 13, slots := #[.long 123], vm := .none },
  { cls := 13, slots := #[.long 124], vm := .none },
  { cls := 13, slots := #[.long 125], vm := .none },
  { cls := 13, slots := #[.long 126], vm := .none },
  { cls := 13, slots := #[.long 127], vm := .none }]
def classes : Array Class := #[k0, k1, k2, k3, k4, k5, k6, k7, k8, k9, k10, k11, k12, k13, k14, k15, k16, k17, k18, k19, k20, k21, k22, k23, k24, k25]
def interned : List (Array UInt16 × Addr) := []
def slotsUsed : Nat := 525
def theMethod : MethodId := ⟨1, 2⟩
def args0 : Array Value := #[.long 5, .long 7, .int 3, .int 4, .int 4]
def aboutOver (below : List Frame) : State where
  vm := { classes := classes, interned := interned.toArray }
  heap := heap
  slotsUsed := slotsUsed
  threads := #[{ frames := .invoking theMethod args0 :: below }]
def below0 : List Frame := [.native { method := ⟨0, 0⟩, args := #[] }]
def about1 : State := aboutOver below0
def p0 : Program := .bare "" "" ""
def e0 : Env := launch0.env 0 0 0
theorem w_frames : about1.frames = Frame.invoking theMethod args0 :: below0 := rfl
set_option maxRecDepth 65536 in
theorem w_args : argsFit about1.vm theMethod args0 = true := by decide +kernel
set_option maxRecDepth 65536 in
theorem w_heap : heapFits about1 = true := by decide +kernel
set_option maxRecDepth 65536 in
theorem w_runnable : about1.curStatus? = some .runnable := by decide +kernel
set_option maxRecDepth 65536 in
theorem w_alone : about1.alone = true := by decide +kernel
set_option maxRecDepth 65536 in
theorem w_named : about1.methodNamed? x = some theMethod := by decide +kernel
set_option maxRecDepth 65536 in
theorem w_hears : about1.hears theMethod below0 = true := by decide +kernel
set_option maxRecDepth 65536 in
theorem w_ripe : about1.ripe theMethod args0 below0 = true := by decide +kernel
theorem w_running : about1.status = .running := rfl
set_option maxRecDepth 65536 in
theorem w_room : about1.hasRoom e0.platform room_1 = true :=
  launch0.hasRoom_least _ room_1 (by decide +kernel) (by decide +kernel) (by decide +kernel) (by decide +kernel) (by decide +kernel) (by decide +kernel)
theorem allAtoms_all (ts : List Jvm.Cond) (a : Array Jvm.Value) (st : Jvm.State) : (allAtoms ts).before a st = ts.all (fun c => c.before a st) := by
  induction ts with
  | nil => rfl
  | cons c t ih =>
    show (Jvm.Cond.and c (allAtoms t)).before a st = _
    rw [Jvm.Cond.before_and, ih, List.all_cons]
def words1 : List Jvm.Cond := Jvm.Cond.code x code maxLocals ret :: tables_1
/-- a 'code' word, met by the world's own term for the bytes: nothing is compared byte by byte -/
theorem code_word {y : MethodName} {bytes : ByteArray} {mx : Nat} {rt : Option FieldType} {a : Array Value} {s : State} {m : MethodId} {meth : Method} {c : Code} (h1 : s.methodNamed? y = some m) (h2 : s.vm.method? m = some meth) (h3 : meth.code = some c) (h4 : c.code = bytes)
    (h5 : (c.maxLocals == mx && c.exceptionTable.isEmpty && decide (c.maxStack ≤ mostOperands) && decide (meth.sig.returnType = rt) && !meth.locks && decide (parseMethodDescriptor y.desc = some meth.sig)) = true) : (Jvm.Cond.code y bytes mx rt).before a s = true := by
  simp only [Bool.and_eq_true, beq_iff_eq, Bool.not_eq_true', decide_eq_true_eq] at h5
  obtain ⟨⟨⟨⟨⟨g1, g2⟩, g3⟩, g4⟩, g5⟩, g6⟩ := h5
  simp [Cond.before, Cond.holds, Cond.value, h1, h2, h3, h4, g1, g2, g3, g4, g5, g6]
def isCode : Jvm.Cond → Bool
  | .code _ _ _ _ => true
  | _ => false
theorem all_split {L : List Jvm.Cond} {P : Jvm.Cond → Bool} (h1 : L.all (fun c => isCode c || P c) = true) (h2 : ∀ c ∈ L.filter isCode, P c = true) : L.all P = true := by
  refine List.all_eq_true.mpr fun c hc => ?_
  have h := List.all_eq_true.mp h1 c hc
  rcases Bool.eq_false_or_eq_true (isCode c) with hi | hi
  · exact h2 c (List.mem_filter.mpr ⟨hc, hi⟩)
  · simpa [hi] using h
set_option maxRecDepth 65536 in
theorem w_c0 : (Jvm.Cond.code x code maxLocals ret).before args0 about1 = true := code_word (m := ⟨1, 2⟩) (meth := k1m2) (c := k1c2) (by decide +kernel) rfl rfl rfl (by decide +kernel)
set_option maxRecDepth 65536 in
theorem w_c1 : (Jvm.Cond.code ({ cls := "com/example/limpet/limpet/OffsetAndMetadataEqualsPinLaw", name := "str", desc := "(III)Ljava/lang/String;" } : Jvm.MethodName) method_2_code (3 : Nat) (Option.some (Jvm.ClassFile.FieldType.object "java/lang/String"))).before args0 about1 = true := code_word (m := ⟨1, 1⟩) (meth := k1m1) (c := k1c1) (by decide +kernel) rfl rfl rfl (by decide +kernel)
set_option maxRecDepth 65536 in
theorem w_c2 : (Jvm.Cond.code ({ cls := "java/lang/String", name := "<init>", desc := "([C)V" } : Jvm.MethodName) jdk_42_method_3_code (2 : Nat) (Option.none : Option Jvm.ClassFile.FieldType)).before args0 about1 = true := code_word (m := ⟨8, 1⟩) (meth := k8m1) (c := k8c1) (by decide +kernel) rfl rfl rfl (by decide +kernel)
set_option maxRecDepth 65536 in
theorem w_c3 : (Jvm.Cond.code ({ cls := "java/lang/String", name := "<init>", desc := "([CIILjava/lang/Void;)V" } : Jvm.MethodName) jdk_42_method_149_code (6 : Nat) (Option.none : Option Jvm.ClassFile.FieldType)).before args0 about1 = true := code_word (m := ⟨8, 3⟩) (meth := k8m3) (c := k8c3) (by decide +kernel) rfl rfl rfl (by decide +kernel)
set_option maxRecDepth 65536 in
theorem w_c4 : (Jvm.Cond.code ({ cls := "java/lang/Object", name := "<init>", desc := "()V" } : Jvm.MethodName) object_method_1_code (1 : Nat) (Option.none : Option Jvm.ClassFile.FieldType)).before args0 about1 = true := code_word (m := ⟨0, 0⟩) (meth := k0m0) (c := k0c0) (by decide +kernel) rfl rfl rfl (by decide +kernel)
set_option maxRecDepth 65536 in
theorem w_c5 : (Jvm.Cond.code ({ cls := "com/example/limpet/limpet/OffsetAndMetadata", name := "<init>", desc := "(JLjava/lang/String;)V" } : Jvm.MethodName) prog_21_method_2_code (4 : Nat) (Option.none : Option Jvm.ClassFile.FieldType)).before args0 about1 = true := code_word (m := ⟨2, 0⟩) (meth := k2m0) (c := k2c0) (by decide +kernel) rfl rfl rfl (by decide +kernel)
set_option maxRecDepth 65536 in
theorem w_c6 : (Jvm.Cond.code ({ cls := "java/util/Objects", name := "requireNonNull", desc := "(Ljava/lang/Object;Ljava/lang/String;)Ljava/lang/Object;" } : Jvm.MethodName) jdk_31_method_11_code (2 : Nat) (Option.some (Jvm.ClassFile.FieldType.object "java/lang/Object"))).before args0 about1 = true := code_word (m := ⟨9, 1⟩) (meth := k9m1) (c := k9c1) (by decide +kernel) rfl rfl rfl (by decide +kernel)
set_option maxRecDepth 65536 in
theorem w_c7 : (Jvm.Cond.code ({ cls := "com/example/limpet/limpet/CommittedOffset", name := "requireOffset", desc := "(J)J" } : Jvm.MethodName) prog_5_method_2_code (2 : Nat) (Option.some Jvm.ClassFile.FieldType.long)).before args0 about1 = true := code_word (m := ⟨10, 0⟩) (meth := k10m0) (c := k10c0) (by decide +kernel) rfl rfl rfl (by decide +kernel)
set_option maxRecDepth 65536 in
theorem w_c8 : (Jvm.Cond.code ({ cls := "com/example/limpet/limpet/OffsetAndMetadata", name := "equals", desc := "(Ljava/lang/Object;)Z" } : Jvm.MethodName) prog_21_method_5_code (3 : Nat) (Option.some Jvm.ClassFile.FieldType.boolean)).before args0 about1 = true := code_word (m := ⟨2, 2⟩) (meth := k2m2) (c := k2c2) (by decide +kernel) rfl rfl rfl (by decide +kernel)
set_option maxRecDepth 65536 in
theorem w_c9 : (Jvm.Cond.code ({ cls := "java/lang/String", name := "equals", desc := "(Ljava/lang/Object;)Z" } : Jvm.MethodName) jdk_42_method_66_code (3 : Nat) (Option.some Jvm.ClassFile.FieldType.boolean)).before args0 about1 = true := code_word (m := ⟨8, 2⟩) (meth := k8m2) (c := k8c2) (by decide +kernel) rfl rfl rfl (by decide +kernel)
set_option maxRecDepth 65536 in
theorem w_c10 : (Jvm.Cond.code ({ cls := "java/lang/StringLatin1", name := "equals", desc := "([B[B)Z" } : Jvm.MethodName) jdk_43_method_13_code (3 : Nat) (Option.some Jvm.ClassFile.FieldType.boolean)).before args0 about1 = true := code_word (m := ⟨11, 1⟩) (meth := k11m1) (c := k11c1) (by decide +kernel) rfl rfl rfl (by decide +kernel)
set_option maxRecDepth 65536 in
theorem w_c11 : (Jvm.Cond.code ({ cls := "com/example/limpet/limpet/OffsetAndMetadata", name := "metadata", desc := "()Ljava/lang/String;" } : Jvm.MethodName) prog_21_method_4_code (1 : Nat) (Option.some (Jvm.ClassFile.FieldType.object "java/lang/String"))).before args0 about1 = true := code_word (m := ⟨2, 1⟩) (meth := k2m1) (c := k2c1) (by decide +kernel) rfl rfl rfl (by decide +kernel)
set_option maxRecDepth 65536 in
theorem w_c12 : (Jvm.Cond.code ({ cls := "java/lang/Long", name := "valueOf", desc := "(J)Ljava/lang/Long;" } : Jvm.MethodName) jdk_35_method_24_code (3 : Nat) (Option.some (Jvm.ClassFile.FieldType.object "java/lang/Long"))).before args0 about1 = true := code_word (m := ⟨13, 0⟩) (meth := k13m0) (c := k13c0) (by decide +kernel) rfl rfl rfl (by decide +kernel)
set_option maxRecDepth 65536 in
theorem w_c13 : (Jvm.Cond.code ({ cls := "java/lang/Long", name := "<init>", desc := "(J)V" } : Jvm.MethodName) jdk_35_method_26_code (3 : Nat) (Option.none : Option Jvm.ClassFile.FieldType)).before args0 about1 = true := code_word (m := ⟨13, 1⟩) (meth := k13m1) (c := k13c1) (by decide +kernel) rfl rfl rfl (by decide +kernel)
set_option maxRecDepth 65536 in
theorem w_c14 : (Jvm.Cond.code ({ cls := "java/lang/Number", name := "<init>", desc := "()V" } : Jvm.MethodName) jdk_18_method_1_code (1 : Nat) (Option.none : Option Jvm.ClassFile.FieldType)).before args0 about1 = true := code_word (m := ⟨12, 0⟩) (meth := k12m0) (c := k12c0) (by decide +kernel) rfl rfl rfl (by decide +kernel)
set_option maxRecDepth 65536 in
theorem w_c15 : (Jvm.Cond.code ({ cls := "java/lang/StringUTF16", name := "compress", desc := "([CII)[B" } : Jvm.MethodName) jdk_52_method_16_code (6 : Nat) (Option.some (Jvm.ClassFile.FieldType.array Jvm.ClassFile.FieldType.byte))).before args0 about1 = true := code_word (m := ⟨14, 2⟩) (meth := k14m2) (c := k14c2) (by decide +kernel) rfl rfl rfl (by decide +kernel)
set_option maxRecDepth 65536 in
theorem w_c16 : (Jvm.Cond.code ({ cls := "java/lang/StringUTF16", name := "compress", desc := "([CI[BII)I" } : Jvm.MethodName) jdk_52_method_21_code (7 : Nat) (Option.some Jvm.ClassFile.FieldType.int)).before args0 about1 = true := code_word (m := ⟨14, 3⟩) (meth := k14m3) (c := k14c3) (by decide +kernel) rfl rfl rfl (by decide +kernel)
set_option maxRecDepth 65536 in
theorem w_c17 : (Jvm.Cond.code ({ cls := "java/lang/StringUTF16", name := "coderFromArrayLen", desc := "([BI)B" } : Jvm.MethodName) jdk_52_method_15_code (2 : Nat) (Option.some Jvm.ClassFile.FieldType.byte)).before args0 about1 = true := code_word (m := ⟨14, 1⟩) (meth := k14m1) (c := k14c1) (by decide +kernel) rfl rfl rfl (by decide +kernel)
def codes1 : List Jvm.Cond := [Jvm.Cond.code x code maxLocals ret, Jvm.Cond.code ({ cls := "com/example/limpet/limpet/OffsetAndMetadataEqualsPinLaw", name := "str", desc := "(III)Ljava/lang/String;" } : Jvm.MethodName) method_2_code (3 : Nat) (Option.some (Jvm.ClassFile.FieldType.object "java/lang/String")), Jvm.Cond.code ({ cls := "java/lang/String", name := "<init>", desc := "([C)V" } : Jvm.MethodName) jdk_42_method_3_code (2 : Nat) (Option.none : Option Jvm.ClassFile.FieldType), Jvm.Cond.code ({ cls := "java/lang/String", name := "<init>", desc := "([CIILjava/lang/Void;)V" } : Jvm.MethodName) jdk_42_method_149_code (6 : Nat) (Option.none : Option Jvm.ClassFile.FieldType), Jvm.Cond.code ({ cls := "java/lang/Object", name := "<init>", desc := "()V" } : Jvm.MethodName) object_method_1_code (1 : Nat) (Option.none : Option Jvm.ClassFile.FieldType), Jvm.Cond.code ({ cls := "com/example/limpet/limpet/OffsetAndMetadata", name := "<init>", desc := "(JLjava/lang/String;)V" } : Jvm.MethodName) prog_21_method_2_code (4 : Nat) (Option.none : Option Jvm.ClassFile.FieldType), Jvm.Cond.code ({ cls := "java/util/Objects", name := "requireNonNull", desc := "(Ljava/lang/Object;Ljava/lang/String;)Ljava/lang/Object;" } : Jvm.MethodName) jdk_31_method_11_code (2 : Nat) (Option.some (Jvm.ClassFile.FieldType.object "java/lang/Object")), Jvm.Cond.code ({ cls := "com/example/limpet/limpet/CommittedOffset", name := "requireOffset", desc := "(J)J" } : Jvm.MethodName) prog_5_method_2_code (2 : Nat) (Option.some Jvm.ClassFile.FieldType.long), Jvm.Cond.code ({ cls := "com/example/limpet/limpet/OffsetAndMetadata", name := "equals", desc := "(Ljava/lang/Object;)Z" } : Jvm.MethodName) prog_21_method_5_code (3 : Nat) (Option.some Jvm.ClassFile.FieldType.boolean), Jvm.Cond.code ({ cls := "java/lang/String", name := "equals", desc := "(Ljava/lang/Object;)Z" } : Jvm.MethodName) jdk_42_method_66_code (3 : Nat) (Option.some Jvm.ClassFile.FieldType.boolean), Jvm.Cond.code ({ cls := "java/lang/StringLatin1", name := "equals", desc := "([B[B)Z" } : Jvm.MethodName) jdk_43_method_13_code (3 : Nat) (Option.some Jvm.ClassFile.FieldType.boolean), Jvm.Cond.code ({ cls := "com/example/limpet/limpet/OffsetAndMetadata", name := "metadata", desc := "()Ljava/lang/String;" } : Jvm.MethodName) prog_21_method_4_code (1 : Nat) (Option.some (Jvm.ClassFile.FieldType.object "java/lang/String")), Jvm.Cond.code ({ cls := "java/lang/Long", name := "valueOf", desc := "(J)Ljava/lang/Long;" } : Jvm.MethodName) jdk_35_method_24_code (3 : Nat) (Option.some (Jvm.ClassFile.FieldType.object "java/lang/Long")), Jvm.Cond.code ({ cls := "java/lang/Long", name := "<init>", desc := "(J)V" } : Jvm.MethodName) jdk_35_method_26_code (3 : Nat) (Option.none : Option Jvm.ClassFile.FieldType), Jvm.Cond.code ({ cls := "java/lang/Number", name := "<init>", desc := "()V" } : Jvm.MethodName) jdk_18_method_1_code (1 : Nat) (Option.none : Option Jvm.ClassFile.FieldType), Jvm.Cond.code ({ cls := "java/lang/StringUTF16", name := "compress", desc := "([CII)[B" } : Jvm.MethodName) jdk_52_method_16_code (6 : Nat) (Option.some (Jvm.ClassFile.FieldType.array Jvm.ClassFile.FieldType.byte)), Jvm.Cond.code ({ cls := "java/lang/StringUTF16", name := "compress", desc := "([CI[BII)I" } : Jvm.MethodName) jdk_52_method_21_code (7 : Nat) (Option.some Jvm.ClassFile.FieldType.int), Jvm.Cond.code ({ cls := "java/lang/StringUTF16", name := "coderFromArrayLen", desc := "([BI)B" } : Jvm.MethodName) jdk_52_method_15_code (2 : Nat) (Option.some Jvm.ClassFile.FieldType.byte)]
set_option maxRecDepth 65536 in
theorem codes_eq : words1.filter isCode = codes1 := rfl
theorem w_codes : ∀ c ∈ words1.filter isCode, c.before args0 about1 = true := by
  rw [codes_eq]
  intro c hc
  simp only [codes1, List.mem_cons, List.not_mem_nil, or_false] at hc
  rcases hc with rfl | rfl | rfl | rfl | rfl | rfl | rfl | rfl | rfl | rfl | rfl | rfl | rfl | rfl | rfl | rfl | rfl | rfl
  · exact w_c0
  · exact w_c1
  · exact w_c2
  · exact w_c3
  · exact w_c4
  · exact w_c5
  · exact w_c6
  · exact w_c7
  · exact w_c8
  · exact w_c9
  · exact w_c10
  · exact w_c11
  · exact w_c12
  · exact w_c13
  · exact w_c14
  · exact w_c15
  · exact w_c16
  · exact w_c17
set_option maxRecDepth 65536 in
theorem w_t1 : (words1.take 24).all (fun c => isCode c || c.before args0 about1) = true := by decide +kernel
set_option maxRecDepth 65536 in
theorem w_t2 : ((words1.drop 24).take 24).all (fun c => isCode c || c.before args0 about1) = true := by decide +kernel
set_option maxRecDepth 65536 in
theorem w_t3 : (((words1.drop 24).drop 24).take 24).all (fun c => isCode c || c.before args0 about1) = true := by decide +kernel
set_option maxRecDepth 65536 in
theorem w_t4 : ((((words1.drop 24).drop 24).drop 24).take 24).all (fun c => isCode c || c.before args0 about1) = true := by decide +kernel
set_option maxRecDepth 65536 in
theorem w_t5 : ((((words1.drop 24).drop 24).drop 24).drop 24).all (fun c => isCode c || c.before args0 about1) = true := by decide +kernel
theorem w_tables : (allAtoms (Jvm.Cond.code x code maxLocals ret :: tables_1)).before args0 about1 = true := by
  rw [allAtoms_all]
  show words1.all (fun c => c.before args0 about1) = true
  refine all_split ?_ w_codes
  rw [← List.take_append_drop 24 words1, List.all_append, w_t1, ← List.take_append_drop 24 (words1.drop 24), List.all_append, w_t2, ← List.take_append_drop 24 ((words1.drop 24).drop 24), List.all_append, w_t3, ← List.take_append_drop 24 (((words1.drop 24).drop 24).drop 24), List.all_append, w_t4, w_t5]
  rfl
set_option maxRecDepth 65536 in
theorem w_rest : rest_1_c.before args0 about1 = true := by decide +kernel
set_option maxRecDepth 65536 in
theorem w_case : (Jvm.Cond.and given_1 narrow_1).before args0 about1 = true := by decide +kernel
set_option maxRecDepth 65536 in
theorem w_consts : constsHeld consts_1 about1 := Jvm.Lit.constsHeldB_iff.mp (by decide +kernel)
theorem w_applies : (headSpec (Jvm.Cond.code x code maxLocals ret :: tables_1) room_1).applies x e0.platform about1 = true :=
  (Spec.applies_iff w_frames).mpr ⟨w_running, w_runnable, w_alone, w_named, w_hears, w_ripe, w_room, w_tables⟩
theorem atStart : AtStart classFile x code maxLocals ret World_1 tables_1 room_1 Calls_1 rest_1 Pre_1 launch0 p0 e0 about1 theMethod args0 below0 :=
  ⟨lists_1, trivial, launch0.admits_env _ _ _, launch0.least_env, fairChoices_fair.cas, fairChoices_fair.clock, w_frames, w_args, w_heap, w_applies, ⟨w_consts, trivial⟩, w_rest, w_case⟩
end start1
theorem witness_1 : WitnessClaimed_1 := ⟨start1.p0, start1.e0, start1.about1, start1.theMethod, start1.args0, start1.below0, start1.atStart⟩
end Jvm.Pilot.@@N@@
