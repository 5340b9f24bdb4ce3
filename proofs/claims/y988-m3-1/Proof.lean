import JvmDerived
import JvmDerived.Pilot.@@N@@Statement
import JvmDerived.Pilot.@@N@@Code
set_option linter.unusedVariables false
set_option linter.unusedSimpArgs false
namespace Jvm.Pilot.@@N@@
open Jvm Jvm.ClassFile Sem Op Lib Jvm.Free Jvm.Stand Jvm.LawKit Jvm.RoadKit Bundle Jvm.Pilot.@@N@@.Jvm.D
abbrev own_Go (tb : Tables) (e : Env) (below : List Frame) (P : State → Outcome → Prop) (st : State) : Prop := ∃ U o, Steps tb e below st U ∧ P U o
theorem own_go {tb : Tables} {e : Env} {below : List Frame} {P : State → Outcome → Prop} {st st' : State} (h : ∀ t, Steps tb e below st' t → Steps tb e below st t) (k : own_Go tb e below P st') : own_Go tb e below P st := by
  obtain ⟨U, o, h1, h2⟩ := k; exact ⟨U, o, h _ h1, h2⟩
theorem own_hw {a0 : Array Value} {Z : State} {d : Jvm.Cond} (hw : ∀ d ∈ tables_1, d.before a0 Z = true) (i : Nat) (h : tables_1[i]? = some d := by rfl) : d.before a0 Z = true := hw _ (List.mem_of_getElem? h)
theorem own_ne {a b : Nat} (h : a < b ∨ b < a) : a ≠ b := by omega
theorem own_cat {v : Value} (h : v.isRef = true) : v.category = 1 := by rcases ref_cases h with rfl | ⟨a, rfl⟩ <;> rfl
theorem own_nar_ref {t : FieldType} {v : Value} (h : v.isRef = true) : narrow t v = v := by rcases ref_cases h with rfl | ⟨a, rfl⟩ <;> cases t <;> rfl
theorem own_fit_ref {t : FieldType} {v : Value} (h : v.isRef = true) (ht : t.isReference = true := by rfl) : fits t v = true := by rcases ref_cases h with rfl | ⟨a, rfl⟩ <;> cases t <;> first | rfl | (cases ht)
theorem own_widen {p : Program} {l : Launch} {e : Env} {R : Room} {s : State} {m : MethodId} {args : Array Value} {below : List Frame} {meth : Method} {c : Code} {T : State} {locs : List Loc} {cells slots cells' slots' : Nat} (X : Stand p l e R s m args below meth c T locs cells slots) (h1 : cells ≤ cells') (h2 : slots ≤ slots') : Stand p l e R s m args below meth c T locs cells' slots' :=
  { X with same := X.same.mono h1 h2 }
theorem own_sel_priv {s : State} {args : Array Value} {y : MethodName} {n : Nat} (wi : (Jvm.Cond.instantiable y.cls n).before args s = true) (hp : s.PrivateAt y) (hinst : (Jvm.Cond.instanceMethod y).before args s = true) (hy : y.cls ≠ "java/lang/invoke/MethodHandle" ∧ y.cls ≠ "java/lang/invoke/VarHandle") : (Jvm.Cond.selects y.cls y y).before args s = true := by
  obtain ⟨c, k, h1, h2, -, h4, -⟩ := Cond.instantiable_spec wi
  exact selects_self_of_private h1 h2 (Bool.or_eq_false_iff.mp h4).1 hp hinst hy
theorem own_NS_root {Z : State} {a0 : Array Value} {O K : String} {n : Nat} (w : (Cond.noSuperclass O).before a0 Z = true) (wk : (Cond.instantiable K n).before a0 Z = true) (hn : O ≠ K) : NS Z O K := by
  obtain ⟨c, k, h1, h2, h3, -, -⟩ := Cond.noSuperclass_spec w
  obtain ⟨t, -, g1, -⟩ := Cond.instantiable_spec wk
  have ne := ids_ne h1 g1 hn
  refine ⟨c, t, h1, g1, fun fuel => ?_⟩
  cases fuel with
  | zero => rfl
  | succ f => simp [Vm.isSubclassAux, ne, h2, h3]
theorem own_NS_no {Z : State} {a0 : Array Value} {C S K : String} {n : Nat} (w : (Cond.superclass C S).before a0 Z = true) (wk : (Cond.instantiable K n).before a0 Z = true) (m : NS Z C K) (hn : C ≠ K) : ∃ c t, Z.vm.findClass C = some c ∧ Z.vm.findClass K = some t ∧ Z.vm.assignable c t = false := by
  obtain ⟨c, t, h0, g0, n3⟩ := m
  obtain ⟨p, k, kp, h1, h2, h3, h4, h5, -, h7⟩ := Cond.superclass_spec h0 w
  obtain ⟨t', k', q1, g2, g5, g6, -, -⟩ := Cond.instantiable_spec wk
  cases g0.symm.trans q1
  have g7 : k'.isInterface = false := (Bool.or_eq_false_iff.mp g6).1
  have ne := ids_ne h0 g0 hn
  refine ⟨c, t, h0, g0, ?_⟩
  show Z.vm.assignableAux (255 + 1) c t = false
  simp [Vm.assignableAux, ne, h2, g2, h5, g5, g7, Vm.isSubclass, n3]
theorem own_sta_keep {Z : State} {h h' : Heap} {ws : List Addr} {C n d : String} {v : Value} (F : Sta Z h C n d v) (K : Keep h h' ws) (q : ∀ x ∈ ws, ∀ c : Cell, h[x]? = some c → c.vm.isStatics = false) : Sta Z h' C n d v := by
  obtain ⟨cf, i, k, f, st, cell, h1, h2, h3, h4, h5, h6, h7⟩ := F
  exact ⟨cf, i, k, f, st, cell, h1, h2, h3, h4, K.2.1 st cell h5 (fun z => by rw [q st z cell h5] at h6; cases h6), h6, h7⟩
theorem own_pl_exa {Z : State} {h : Heap} {a : Addr} {C : String} (F : Exa Z h a C) : ∀ c : Cell, h[a]? = some c → c.vm.isStatics = false := fun c hc => by
  obtain ⟨c1, k, h1, -, -, h4, -⟩ := F; cases h1.symm.trans hc; exact h4
theorem own_pl_fld {Z : State} {h : Heap} {a : Addr} {C n d : String} {v : Value} (F : Fld Z h a C n d v) : ∀ c : Cell, h[a]? = some c → c.vm.isStatics = false := old_plain F
theorem own_pl_arv {Z : State} {h : Heap} {a : Addr} {k : ClassId} {ty : FieldType} {n : Int32} {vs : List Value} {d : Value} (F : Arv Z h a k ty n vs d) : ∀ c : Cell, h[a]? = some c → c.vm.isStatics = false := fun c hc => by
  obtain ⟨c1, A, -⟩ := F; cases A.1.symm.trans hc; exact A.plain
theorem own_fld {args : Array Value} {s : State} {t : Term} {C n d : String} {a : Addr} {k : Int32} (ev : t.eval args s none [] s = some (.ref a)) (h : (Jvm.Cond.eq (.field t C n d) (.int k)).value args s none s [] = some true) : Fld s s.heap a C n d (.int k) := by
  obtain ⟨x, y, e1, e2, -, k2⟩ := cmp_v (Or.inl h)
  obtain rfl : Value.int k = y := Option.some.inj e2
  obtain ⟨z, rfl⟩ := k2
  have q : z = k := by
    simp only [Cond.value] at h
    rw [e1, e2] at h
    simpa using h
  subst q
  rw [fld_at ev] at e1
  exact Fld.start e1
theorem own_len {args : Array Value} {s : State} {t : Term} {a : Addr} {cl : Cell} {n : Int32} (ev : t.eval args s none [] s = some (.ref a)) (hc : s.heap[a]? = some cl) (h : (Jvm.Cond.eq (.length t) (.int n)).value args s none s [] = some true) : cl.slots.size < 2 ^ 31 ∧ cl.slots.size.toInt32 = n := by
  obtain ⟨x, y, e1, e2, -, -⟩ := cmp_v (Or.inl h)
  obtain rfl : Value.int n = y := Option.some.inj e2
  obtain ⟨b, cell, g1, g2, rfl⟩ := Term.length_spec e1
  cases ev.symm.trans g1
  have g3 : cell.slots.size < 2 ^ 31 := by
    apply Decidable.byContradiction
    intro q
    simp [Term.eval, ev, g2, q] at e1
  have g4 : cell = cl := by
    simp only [State.arrayAt?, Option.bind_eq_bind, Option.bind_eq_some_iff] at g2
    obtain ⟨c2, q1, k2, q2, q3⟩ := g2
    split at q3
    · cases q3
    · split at q3
      · cases q3; exact Option.some.inj (q1.symm.trans hc)
      · cases q3
  rw [← g4]
  refine ⟨g3, ?_⟩
  simp only [Cond.value] at h
  rw [e1, e2] at h
  simpa using h
theorem own_elem {args : Array Value} {s : State} {t u : Term} {a b : Addr} {cl : Cell} {k : Int32} (ev : t.eval args s none [] s = some (.ref a)) (hc : s.heap[a]? = some cl) (eu : u.eval args s none [] s = some (.ref b)) (h : (Jvm.Cond.eq (.elem t (.int k)) u).value args s none s [] = some true) : cl.slots[k.toNatClampNeg]? = some (.ref b) := by
  obtain ⟨x, y, e1, e2, -, -⟩ := cmp_v (Or.inl h)
  cases eu.symm.trans e2
  have q := (elem_in e1 ev rfl hc).2
  have : x = .ref b := by
    simp only [Cond.value] at h
    rw [e1, e2] at h
    cases x <;> simp at h ⊢
    exact h
  rw [q, this]
def own_Cache (Z : State) (h : Heap) (a : Addr) : Prop := ∃ cl : Cell, Arr Z h a cl (.object "java/lang/Integer") ∧ cl.slots.size = 256 ∧ ∀ j : Nat, j < 256 → ∃ r : Addr, cl.slots[j]? = some (.ref r) ∧ Exa Z h r "java/lang/Integer"
theorem own_Cache_ext {Z : State} {h h' : Heap} {a : Addr} (F : own_Cache Z h a) (E : Ext h h') : own_Cache Z h' a := by
  obtain ⟨cl, A, S, H⟩ := F
  exact ⟨cl, A.ext E, S, fun j hj => by obtain ⟨r, q1, q2⟩ := H j hj; exact ⟨r, q1, q2.ext E⟩⟩
theorem own_Cache_keep {Z : State} {h h' : Heap} {a : Addr} {ws : List Addr} (F : own_Cache Z h a) (K : Keep h h' ws) (q : a ∉ ws) : own_Cache Z h' a := by
  obtain ⟨cl, A, S, H⟩ := F
  exact ⟨cl, ⟨K.2.1 a cl A.1 q, A.2⟩, S, fun j hj => by obtain ⟨r, q1, q2⟩ := H j hj; exact ⟨r, q1, q2.keep K⟩⟩
theorem own_Cache_wr {Z : State} {h h' : Heap} {a b : Addr} {sl : Nat} {v : Value} (F : own_Cache Z h a) (W : Wr h h' b sl v) (q : a ≠ b) : own_Cache Z h' a := by
  obtain ⟨cl, A, S, H⟩ := F
  exact ⟨cl, A.other W q, S, fun j hj => by obtain ⟨r, q1, q2⟩ := H j hj; exact ⟨r, q1, q2.wr W⟩⟩
theorem own_Cache_lt {Z : State} {h : Heap} {a : Addr} (F : own_Cache Z h a) : @LT.lt Nat _ a h.size := by obtain ⟨cl, A, -⟩ := F; exact A.lt
theorem own_stI {args : Array Value} {s : State} {t : Term} {k : Int32} (h : (Jvm.Cond.eq t (.int k)).value args s none s [] = some true) : t.eval args s none [] s = some (.int k) := by
  obtain ⟨x, y, e1, e2, -, k2⟩ := cmp_v (Or.inl h)
  obtain rfl : Value.int k = y := Option.some.inj e2
  obtain ⟨z, rfl⟩ := k2
  have q : z = k := by
    simp only [Cond.value] at h
    rw [e1, e2] at h
    simpa using h
  rw [e1, q]
theorem own_cache_of {args : Array Value} {s : State} {C n d : String} {a : Addr} {cl : Cell} {c2 : Jvm.Cond} (ev : (Term.static C n d).eval args s none [] s = some (.ref a)) (A : Arr s s.heap a cl (.object "java/lang/Integer")) (hl : cl.slots.size < 2 ^ 31 ∧ cl.slots.size.toInt32 = 256)
    (h : (Jvm.Cond.all (Term.static C n d) (Jvm.Cond.and (Jvm.Cond.exactly (Term.elem (Term.static C n d) (Term.index 0)) "java/lang/Integer") c2)).value args s none s [] = some true) : own_Cache s s.heap a := by
  have sz : cl.slots.size = 256 := by
    have q := len_toInt hl.1
    rw [hl.2] at q
    have : (256 : Int32).toInt = 256 := rfl
    omega
  refine ⟨cl, A, sz, fun j hj => ?_⟩
  have q := Cond.all_elim ev (A.fin (Vm.Alike.refl _)) h j (by omega)
  obtain ⟨q1, -⟩ := and_e q
  obtain ⟨a', c', cell, k, e1, e2, e3, e4, e5, e6, e7⟩ := Cond.exactly_spec (beq_iff_eq.mpr q1 : (Jvm.Cond.exactly (Term.elem (Term.static C n d) (Term.index 0)) "java/lang/Integer").holds args s none s [j] = true)
  have ei : (Term.index 0).eval args s none [j] s = some (.int (Nat.toInt32 j)) := by first | rfl | simp [Term.eval]
  have r := (elem_in e1 (show (Term.static C n d).eval args s none [j] s = some (.ref a) from ev) ei A.1).2
  have hj2 : (Nat.toInt32 j).toNatClampNeg = j := by simp only [Int32.toNatClampNeg, len_toInt (show j < 2 ^ 31 by omega)]; rfl
  rw [hj2] at r
  subst e6
  exact ⟨a', r, cell, k, e3, e2, e4, e5, e7⟩
theorem own_idx (p : Int32) (h1 : ¬ p < (-128 : Int32)) (h2 : ¬ (127 : Int32) < p) : ¬ (p + (128 : Int32)) < 0 ∧ (p + (128 : Int32)).toNatClampNeg < 256 := by
  have h := c_iadd p 128
  have hr := rng32 (p + 128)
  rw [Int32.lt_iff_toInt_lt] at h1 h2 ⊢
  have e1 : (-128 : Int32).toInt = -128 := rfl
  have e2 : (127 : Int32).toInt = 127 := rfl
  have e3 : (128 : Int32).toInt = 128 := rfl
  have e0 : (0 : Int32).toInt = 0 := rfl
  rw [e3] at h
  simp only [Int32.toNatClampNeg]
  omega
def own_lat (c : Int32) : Prop := ∃ k : Fin 256, c = Int32.ofNat k.1
def own_by (c : Int32) : Int32 := nar .byte c.toInt8.toInt32
theorem own_lat_le {c : Int32} (h : own_lat c) : ¬ (255 : Int32) < c := by obtain ⟨k, rfl⟩ := h; revert k; decide +kernel
theorem own_lat_ch {c : Int32} (h : own_lat c) : nar .char c = c := by obtain ⟨k, rfl⟩ := h; revert k; decide +kernel
theorem own_by_back {c : Int32} (h : own_lat c) : own_by c &&& 255 = c := by obtain ⟨k, rfl⟩ := h; revert k; decide +kernel
theorem own_by_iff {c d : Int32} (h : own_lat c) (g : own_lat d) : own_by c = own_by d ↔ c = d := ⟨fun q => by rw [← own_by_back h, q, own_by_back g], fun q => by rw [q]⟩
theorem own_lat_and (x : Int32) : own_lat (x &&& (255 : Int32)).toUInt32.toUInt16.toUInt32.toInt32 := by
  obtain ⟨h1, h2⟩ := c_and x 255 (by decide)
  have e : (255 : Int32).toInt = 255 := rfl
  rw [e] at h2
  have h3 : x &&& 255 = Int32.ofNat (x &&& 255).toInt.toNat := by
    apply Int32.toInt_inj.mp
    rw [Int32.toInt_ofNat_of_lt (by omega)]; omega
  have h4 : ∀ k : Fin 256, (Int32.ofNat k.1).toUInt32.toUInt16.toUInt32.toInt32 = Int32.ofNat k.1 := by decide +kernel
  rw [h3, h4 ⟨(x &&& 255).toInt.toNat, by omega⟩]
  exact ⟨⟨(x &&& 255).toInt.toNat, by omega⟩, rfl⟩
def own_eq1 (w0 z0 : Int32) : Int32 := (if w0 = z0 then 1 else 0)
theorem own_eq1_one {w0 z0 : Int32} (h : ¬ own_eq1 w0 z0 = (0 : Int32)) : own_eq1 w0 z0 = 1 := by unfold own_eq1 at h ⊢; by_cases q0 : w0 = z0 <;> simp_all
def own_eq2 (w0 w1 z0 z1 : Int32) : Int32 := (if w0 = z0 then (if w1 = z1 then 1 else 0) else 0)
theorem own_eq2_one {w0 w1 z0 z1 : Int32} (h : ¬ own_eq2 w0 w1 z0 z1 = (0 : Int32)) : own_eq2 w0 w1 z0 z1 = 1 := by unfold own_eq2 at h ⊢; by_cases q0 : w0 = z0 <;> by_cases q1 : w1 = z1 <;> simp_all
theorem own_pos (x : Int32) : ¬ (x &&& 2147483647) < 0 := by
  have := (c_and x 2147483647 (by decide)).1
  rw [Int32.lt_iff_toInt_lt]; have e : (0 : Int32).toInt = 0 := rfl; omega
theorem own_and3 (f : Int32) : f &&& 3 = 0 ∨ f &&& 3 = 1 ∨ f &&& 3 = 2 ∨ f &&& 3 = 3 := by
  have h := c_mask f 3 2 (by decide) (by decide)
  have h2 : (f &&& 3).toInt = 0 ∨ (f &&& 3).toInt = 1 ∨ (f &&& 3).toInt = 2 ∨ (f &&& 3).toInt = 3 := by
    have : ((2 ^ 2 : Nat) : Int) = 4 := rfl
    rw [this] at h; omega
  rcases h2 with h | h | h | h
  · exact Or.inl (Int32.toInt_inj.mp h)
  · exact Or.inr (Or.inl (Int32.toInt_inj.mp h))
  · exact Or.inr (Or.inr (Or.inl (Int32.toInt_inj.mp h)))
  · exact Or.inr (Or.inr (Or.inr (Int32.toInt_inj.mp h)))
theorem own_ne' {a b : Nat} (h : @Ne Nat a b) : ¬ a = b := h
def own_tp (x y : Int32) (f : Int32) : Int32 := if x = y then f else 0
theorem own_n12 (x : Int32) : (1 : Int32) + (x &&& (1 : Int32)) = 1 ∨ (1 : Int32) + (x &&& (1 : Int32)) = 2 := by
  obtain ⟨h1, h2⟩ := c_and x 1 (by decide)
  have e : (1 : Int32).toInt = 1 := rfl
  rw [e] at h2
  have h3 : (x &&& 1).toInt = 0 ∨ (x &&& 1).toInt = 1 := by omega
  rcases h3 with h | h
  · left; rw [show x &&& 1 = 0 from Int32.toInt_inj.mp h]; rfl
  · right; rw [show x &&& 1 = 1 from Int32.toInt_inj.mp h]; rfl
abbrev oi (x : Int32) : Slot := .val (.int x)
abbrev oj (x : Int64) : Slot := .val (.long x)
abbrev oR (x : Addr) : Slot := .val (.ref x)
abbrev oM0 : MethodName := ⟨"com/example/limpet/limpet/TopicPartition", "equals", "(Ljava/lang/Object;)Z"⟩
abbrev oM1 : MethodName := ⟨"java/lang/String", "equals", "(Ljava/lang/Object;)Z"⟩
abbrev oM2 : MethodName := ⟨"java/lang/StringLatin1", "equals", "([B[B)Z"⟩
abbrev oM3 : MethodName := ⟨"com/example/limpet/limpet/TopicPartitionEqualsPinLaw", "make", "(ICC)Ljava/lang/String;"⟩
abbrev oM4 : MethodName := ⟨"com/example/limpet/limpet/TopicPartition", "<init>", "(Ljava/lang/String;I)V"⟩
abbrev oM5 : MethodName := ⟨"java/lang/String", "isEmpty", "()Z"⟩
abbrev oM6 : MethodName := ⟨"java/lang/Integer", "valueOf", "(I)Ljava/lang/Integer;"⟩
abbrev oM7 : MethodName := ⟨"java/lang/StringUTF16", "compress", "([CI[BII)I"⟩
abbrev oM8 : MethodName := ⟨"java/lang/StringUTF16", "compress", "([CII)[B"⟩
abbrev oM9 : MethodName := ⟨"java/lang/StringUTF16", "coderFromArrayLen", "([BI)B"⟩
abbrev oM10 : MethodName := ⟨"java/lang/String", "<init>", "([CIILjava/lang/Void;)V"⟩
abbrev oM11 : MethodName := ⟨"java/lang/String", "<init>", "([C)V"⟩
abbrev oM12 : MethodName := ⟨"com/example/limpet/limpet/TopicPartition", "requireTopicName", "(Ljava/lang/String;)Ljava/lang/String;"⟩
abbrev oM13 : MethodName := ⟨"java/lang/Integer", "<init>", "(I)V"⟩
abbrev oM14 : MethodName := ⟨"java/util/Objects", "requireNonNull", "(Ljava/lang/Object;Ljava/lang/String;)Ljava/lang/Object;"⟩
abbrev oM15 : MethodName := ⟨"java/lang/Number", "<init>", "()V"⟩
abbrev oS0 : String := "java/lang/String"
abbrev oS1 : String := "com/example/limpet/limpet/TopicPartition"
abbrev oS2 : String := "Ljava/lang/String;"
abbrev oS3 : String := "com/example/limpet/limpet/TopicPartitionEqualsPinLaw"
abbrev oS4 : String := "COMPACT_STRINGS"
abbrev oS5 : String := "java/lang/Integer$IntegerCache"
abbrev oS6 : String := "java/lang/Integer"
abbrev oS7 : String := "java/lang/StringUTF16"
abbrev oS8 : String := "[Ljava/lang/Integer;"
theorem d16_0 : decode jdk_18_method_1_code 0 = .ok (.aload_n 0, 1) := by decide +kernel
theorem d16_1 : decode jdk_18_method_1_code 1 = .ok (.invokespecial 1, 3) := by decide +kernel
theorem d16_4 : decode jdk_18_method_1_code 4 = .ok (.return_, 1) := by decide +kernel
theorem pn_16 : plainName "java/lang/Number" = true := by first | (simp [plainName, overriddenIn]; done) | decide +kernel
theorem ef_rm16 (m : MethodId) (x0 : Addr) : entryFrame m #[(.ref x0)] 1 = mkF m 0 #[.val (.ref x0)] [] := by first | (simp [entryFrame, mkF, argsToLocals, Value.category]; done) | rfl
def Qrm16 (Z : State) (a1 : Addr) (h0 : Heap) (n0 : Nat) (v : Option Value) (h : Heap) (L : List Loc) : Prop := (v = none) ∧ (Fr n0 L) ∧ (h = h0)
set_option maxRecDepth 65536 in
set_option maxHeartbeats 40000000 in
theorem rm16 (l : Launch) (Z : State) (a0 : Array Value) (hw : ∀ d ∈ tables_1, d.before a0 Z = true) (ws : List Jvm.Cond) (a1 : Addr) (h0 : Heap) (n0 : Nat) (Z0 : n0 ≤ h0.size)  :
    MetFree l oM15 (head1 (Jvm.Cond.code oM15 jdk_18_method_1_code 1 none :: ws) ({ frames := 1, cells := 0, slots := 0, locals := 12 } : Room)) (fun a U => a = #[(.ref a1)] ∧ Z.Warmed39 U.vm ∧ U.heap = h0) (fun _ _ _ _ _ => True) (fun _ U o U' => ∃ v L, o = .returned v ∧ Qrm16 Z a1 h0 n0 v U'.heap L ∧ FrameEnd U o U' L ({ frames := 1, cells := 0, slots := 0, locals := 12 } : Room).cells ({ frames := 1, cells := 0, slots := 0, locals := 12 } : Room).slots) := by
  refine MetFree.of_bodySF (plainFor_of_name pn_16) hisR ?_
  intro p e s m args below meth c s₁ Bd hml0 hP0 hK
  obtain ⟨rfl, hZ, hh⟩ := hP0
  have hx := Bd.exec
  have hby := Bd.bytes
  have hml : c.maxLocals = 1 := hml0
  have hown : s.vm.findClass "java/lang/Number" = some m.cls := findClass_of_methodNamed Bd.named
  have hnm := (name_of_methodNamed Bd.named Bd.method).1
  have X0 : Stand p l e ({ frames := 1, cells := 0, slots := 0, locals := 12 } : Room) s m #[(.ref a1)] below meth c s₁ [] 0 0 := Stand.of_body Bd
  have e0 : s₁.heap = h0 := by rw [← hh, Bd.state]; rfl
  have N0 := Fr.nil n0
  suffices own_H : ∀ (P : State → Outcome → Prop), (∀ U o, U.status = .running → Ended U below o → (∃ v L, o = .returned v ∧ Qrm16 Z a1 h0 n0 v U.heap L ∧ FrameEnd s o U L ({ frames := 1, cells := 0, slots := 0, locals := 12 } : Room).cells ({ frames := 1, cells := 0, slots := 0, locals := 12 } : Room).slots) → P U o) → own_Go p.tables e below P (s₁.setTop (mkF m 0 #[oR a1] [])) from own_go (fun _ k => castTop (ef_rm16 m a1) k) (own_H _ (fun U o h1 h2 h3 => ⟨h1, h2, h3⟩))
  intro P hP
  refine own_go (st' := s₁.setTop (mkF m 1 #[oR a1] [(.ref a1)])) (fun _ k => XS.aloadN X0.here hx rfl (hb hby d16_0) rfl rfl k) ?_
  obtain ⟨T1, X1, e1, st1⟩ := initO X0 hx hZ hown (own_hw hw 96) (own_hw hw 17) (own_hw hw 18) e0 (g := (mkF m 1 #[oR a1] [(.ref a1)])) rfl (by rw [hml]; rfl) rfl (hb hby d16_1) (by decide) (W := 0) (by show 2 * 0 + _ ≤ _; exact Nat.le_of_eq rfl) (by decide)
  refine own_go (st' := T1.setTop (mkF m 4 #[oR a1] [])) (st1) ?_
  obtain ⟨fs, hr, hrun, hended, hW, hsame⟩ := X1.leave (v := none) (fun _ => rfl)
  refine ⟨_, _, ?_, hP _ _ hrun hended ⟨_, _, rfl, ?_, ⟨_, rfl⟩, hW, hsame.mono (by decide) (by decide)⟩⟩
  · exact X1.returnOut hx Bd.returns (hb hby d16_4) hr
  · show Qrm16 Z a1 h0 n0 _ T1.heap _
    rw [e1]
    exact ⟨rfl, N0, rfl⟩
theorem pd_0 : parseMethodDescriptor "()V" = some ⟨[], none⟩ := by decide +kernel
theorem d15_0 : decode jdk_33_method_23_code 0 = .ok (.aload_n 0, 1) := by decide +kernel
theorem d15_1 : decode jdk_33_method_23_code 1 = .ok (.invokespecial 202, 3) := by decide +kernel
theorem d15_4 : decode jdk_33_method_23_code 4 = .ok (.aload_n 0, 1) := by decide +kernel
theorem d15_5 : decode jdk_33_method_23_code 5 = .ok (.iload_n 1, 1) := by decide +kernel
theorem d15_6 : decode jdk_33_method_23_code 6 = .ok (.putfield 205, 3) := by decide +kernel
theorem d15_9 : decode jdk_33_method_23_code 9 = .ok (.return_, 1) := by decide +kernel
theorem pn_15 : plainName "java/lang/Integer" = true := by first | (simp [plainName, overriddenIn]; done) | decide +kernel
theorem ef_rm15 (m : MethodId) (x0 : Addr) (x1 : Int32) : entryFrame m #[(.ref x0), (.int x1)] 2 = mkF m 0 #[.val (.ref x0), .val (.int x1)] [] := by first | (simp [entryFrame, mkF, argsToLocals, Value.category]; done) | rfl
def Qrm15 (Z : State) (a1 : Addr) (p2 : Int32) (u3 : Int32) (h0 : Heap) (n0 : Nat) (v : Option Value) (h : Heap) (L : List Loc) : Prop := (v = none) ∧ (Fr n0 L) ∧ (Keep h0 h [a1]) ∧ (Exa Z h a1 "java/lang/Integer") ∧ (Fld Z h a1 "java/lang/Integer" "value" "I" (.int p2))
set_option maxRecDepth 65536 in
set_option maxHeartbeats 40000000 in
theorem rm15 (l : Launch) (Z : State) (a0 : Array Value) (hw : ∀ d ∈ tables_1, d.before a0 Z = true) (ws : List Jvm.Cond) (a1 : Addr) (p2 : Int32) (u3 : Int32) (h0 : Heap) (n0 : Nat) (Z0 : n0 ≤ h0.size) (pr1 : Exa Z h0 a1 "java/lang/Integer") (pr2 : Fld Z h0 a1 "java/lang/Integer" "value" "I" (.int u3)) (pr3 : n0 ≤ a1) :
    MetFree l oM13 (head1 (Jvm.Cond.code oM13 jdk_33_method_23_code 2 none :: ws) ({ frames := 2, cells := 0, slots := 0, locals := 24 } : Room)) (fun a U => a = #[(.ref a1), (.int p2)] ∧ Z.Warmed39 U.vm ∧ U.heap = h0) (fun _ _ _ _ _ => True) (fun _ U o U' => ∃ v L, o = .returned v ∧ Qrm15 Z a1 p2 u3 h0 n0 v U'.heap L ∧ FrameEnd U o U' L ({ frames := 2, cells := 0, slots := 0, locals := 24 } : Room).cells ({ frames := 2, cells := 0, slots := 0, locals := 24 } : Room).slots) := by
  refine MetFree.of_bodySF (plainFor_of_name pn_15) hisR ?_
  intro p e s m args below meth c s₁ Bd hml0 hP0 hK
  obtain ⟨rfl, hZ, hh⟩ := hP0
  have hx := Bd.exec
  have hby := Bd.bytes
  have hml : c.maxLocals = 2 := hml0
  have hown : s.vm.findClass oS6 = some m.cls := findClass_of_methodNamed Bd.named
  have hnm := (name_of_methodNamed Bd.named Bd.method).1
  have X0 : Stand p l e ({ frames := 2, cells := 0, slots := 0, locals := 24 } : Room) s m #[(.ref a1), (.int p2)] below meth c s₁ [] 0 0 := Stand.of_body Bd
  have e0 : s₁.heap = h0 := by rw [← hh, Bd.state]; rfl
  have N0 := Fr.nil n0
  suffices own_H : ∀ (P : State → Outcome → Prop), (∀ U o, U.status = .running → Ended U below o → (∃ v L, o = .returned v ∧ Qrm15 Z a1 p2 u3 h0 n0 v U.heap L ∧ FrameEnd s o U L ({ frames := 2, cells := 0, slots := 0, locals := 24 } : Room).cells ({ frames := 2, cells := 0, slots := 0, locals := 24 } : Room).slots) → P U o) → own_Go p.tables e below P (s₁.setTop (mkF m 0 #[oR a1, oi p2] [])) from own_go (fun _ k => castTop (ef_rm15 m a1 p2) k) (own_H _ (fun U o h1 h2 h3 => ⟨h1, h2, h3⟩))
  intro P hP
  have lt_a1 : @LT.lt Nat _ a1 h0.size := pr1.lt
  refine own_go (st' := s₁.setTop (mkF m 1 #[oR a1, oi p2] [(.ref a1)])) (fun _ k => XS.aloadN X0.here hx rfl (hb hby d15_0) rfl rfl k) ?_
  obtain ⟨_, _, ⟨T1, LC1, kC1, nC1⟩, -, X1, ⟨Lc1, hQ1, lq1, yq1, zq1⟩, st1⟩ := X0.specialBack hx (y := oM15) rfl hown (mvT hZ (own_hw hw 90)) (mvT hZ (own_hw hw 91)) (mvT hZ (own_hw hw 95)) (by decide) (backOf (W := 0) (rm16 l Z a0 hw [] a1 h0 n0 (by omega) ) hZ (own_hw hw 95) (own_hw hw 94) (by decide) (by decide)) (g := (mkF m 1 #[oR a1, oi p2] [(.ref a1)])) rfl (by rw [hml]; rfl) (Steps.refl _) (a := a1) (argsL := []) (rest := []) (lenOf pd_0 rfl) rfl (by show 2 * 0 + _ ≤ _; exact Nat.le_of_eq rfl) (hb hby d15_1) (fun _ _ => ⟨rfl, e0, (by decide : 0 + 0 ≤ _), (by decide : 0 + 0 ≤ _)⟩)
  dsimp only [Pt.U, Pt.locs, Pt.cells, Pt.slots] at X1 lq1 yq1 zq1 st1 hQ1
  subst lq1 yq1 zq1
  obtain ⟨rfl, Nq1, eq1⟩ := hQ1
  have N1 := Fr.app N0 Nq1
  refine own_go (st' := T1.setTop (mkF m 4 #[oR a1, oi p2] [])) (fun _ k => st1.trans k) ?_
  refine own_go (st' := T1.setTop (mkF m 5 #[oR a1, oi p2] [(.ref a1)])) (fun _ k => XS.aloadN X1.here hx rfl (hb hby d15_4) rfl rfl k) ?_
  refine own_go (st' := T1.setTop (mkF m 6 #[oR a1, oi p2] [(.int p2), (.ref a1)])) (fun _ k => XS.iloadN X1.here hx rfl (hb hby d15_5) rfl k) ?_
  obtain ⟨T2, h2, X2, e2, W2, st2⟩ := putF X1 hx hZ hown (host := "") (Or.inl (own_hw hw 97)) Via.refl eq1 pr2 pr1 (Or.inr ⟨(own_hw hw 98), rfl, hnm⟩) (own_hw hw 85) (ty := .int) (by decide) rfl rfl (g := (mkF m 6 #[oR a1, oi p2] [(.int p2), (.ref a1)])) rfl rfl (hb hby d15_6)
  have sz2 : h2.size = h0.size := W2.size
  have N2 := Fr.snoc X2 N1 (by omega)
  have f2 : Fld Z h2 a1 oS6 "value" "I" (.int p2) := pr2.same W2
  refine own_go (st' := T2.setTop (mkF m 9 #[oR a1, oi p2] [])) (st2) ?_
  obtain ⟨fs, hr, hrun, hended, hW, hsame⟩ := X2.leave (v := none) (fun _ => rfl)
  refine ⟨_, _, ?_, hP _ _ hrun hended ⟨_, _, rfl, ?_, ⟨_, rfl⟩, hW, hsame.mono (by decide) (by decide)⟩⟩
  · exact X2.returnOut hx Bd.returns (hb hby d15_9) hr
  · show Qrm15 Z a1 p2 u3 h0 n0 _ T2.heap _
    have c4 : Exa Z h2 a1 oS6 := (pr1.wr W2)
    rw [e2]
    exact ⟨rfl, N2, ((Keep.refl h0 [a1]).wr W2 (Or.inl (List.mem_of_getElem? (i := 0) rfl))), c4, f2⟩
theorem pd_1 : parseMethodDescriptor "(I)V" = some ⟨[.int], none⟩ := by decide +kernel
theorem d14_0 : decode jdk_33_method_22_code 0 = .ok (.iload_n 0, 1) := by decide +kernel
theorem d14_1 : decode jdk_33_method_22_code 1 = .ok (.bipush (-128), 2) := by decide +kernel
theorem d14_3 : decode jdk_33_method_22_code 3 = .ok (.if_icmp .lt 20, 3) := by decide +kernel
theorem d14_6 : decode jdk_33_method_22_code 6 = .ok (.iload_n 0, 1) := by decide +kernel
theorem d14_7 : decode jdk_33_method_22_code 7 = .ok (.getstatic 191, 3) := by decide +kernel
theorem d14_10 : decode jdk_33_method_22_code 10 = .ok (.if_icmp .gt 13, 3) := by decide +kernel
theorem d14_13 : decode jdk_33_method_22_code 13 = .ok (.getstatic 195, 3) := by decide +kernel
theorem d14_16 : decode jdk_33_method_22_code 16 = .ok (.iload_n 0, 1) := by decide +kernel
theorem d14_17 : decode jdk_33_method_22_code 17 = .ok (.sipush 128, 3) := by decide +kernel
theorem d14_20 : decode jdk_33_method_22_code 20 = .ok (.iadd, 1) := by decide +kernel
theorem d14_21 : decode jdk_33_method_22_code 21 = .ok (.aaload, 1) := by decide +kernel
theorem d14_22 : decode jdk_33_method_22_code 22 = .ok (.areturn, 1) := by decide +kernel
theorem d14_23 : decode jdk_33_method_22_code 23 = .ok (.new 1, 3) := by decide +kernel
theorem d14_26 : decode jdk_33_method_22_code 26 = .ok (.dup, 1) := by decide +kernel
theorem d14_27 : decode jdk_33_method_22_code 27 = .ok (.iload_n 0, 1) := by decide +kernel
theorem d14_28 : decode jdk_33_method_22_code 28 = .ok (.invokespecial 199, 3) := by decide +kernel
theorem d14_31 : decode jdk_33_method_22_code 31 = .ok (.areturn, 1) := by decide +kernel
theorem pn_14 : plainName "java/lang/Integer" = true := by first | (simp [plainName, overriddenIn]; done) | decide +kernel
theorem ef_rm14 (m : MethodId) (x0 : Int32) : entryFrame m #[(.int x0)] 1 = mkF m 0 #[.val (.int x0)] [] := by first | (simp [entryFrame, mkF, argsToLocals, Value.category]; done) | rfl
def Qrm14 (Z : State) (p1 : Int32) (ca : Addr) (h0 : Heap) (n0 : Nat) (v : Option Value) (h : Heap) (L : List Loc) : Prop := ∃ (r : Addr), (v = some (.ref r)) ∧ (Fr n0 L) ∧ (Keep h0 h []) ∧ (Exa Z h r "java/lang/Integer")
set_option maxRecDepth 65536 in
set_option maxHeartbeats 40000000 in
theorem rm14 (l : Launch) (Z : State) (a0 : Array Value) (hw : ∀ d ∈ tables_1, d.before a0 Z = true) (ws : List Jvm.Cond) (p1 : Int32) (ca : Addr) (h0 : Heap) (n0 : Nat) (Z0 : n0 ≤ h0.size) (pr1 : Sta Z h0 "java/lang/Integer$IntegerCache" "high" "I" (.int (127 : Int32))) (pr2 : Sta Z h0 "java/lang/Integer$IntegerCache" "cache" "[Ljava/lang/Integer;" (.ref ca)) (pr3 : own_Cache Z h0 ca) :
    MetFree l oM6 (head1 (Jvm.Cond.code oM6 jdk_33_method_22_code 1 (some (.object oS6)) :: ws) ({ frames := 3, cells := 1, slots := 1, locals := 38 } : Room)) (fun a U => a = #[(.int p1)] ∧ Z.Warmed39 U.vm ∧ U.heap = h0) (fun _ _ _ _ _ => True) (fun _ U o U' => ∃ v L, o = .returned v ∧ Qrm14 Z p1 ca h0 n0 v U'.heap L ∧ FrameEnd U o U' L ({ frames := 3, cells := 1, slots := 1, locals := 38 } : Room).cells ({ frames := 3, cells := 1, slots := 1, locals := 38 } : Room).slots) := by
  refine MetFree.of_bodySF (plainFor_of_name pn_14) hisR ?_
  intro p e s m args below meth c s₁ Bd hml0 hP0 hK
  obtain ⟨rfl, hZ, hh⟩ := hP0
  have hx := Bd.exec
  have hby := Bd.bytes
  have hml : c.maxLocals = 1 := hml0
  have hown : s.vm.findClass oS6 = some m.cls := findClass_of_methodNamed Bd.named
  have hnm := (name_of_methodNamed Bd.named Bd.method).1
  have X0 : Stand p l e ({ frames := 3, cells := 1, slots := 1, locals := 38 } : Room) s m #[(.int p1)] below meth c s₁ [] 0 0 := Stand.of_body Bd
  have e0 : s₁.heap = h0 := by rw [← hh, Bd.state]; rfl
  have N0 := Fr.nil n0
  suffices own_H : ∀ (P : State → Outcome → Prop), (∀ U o, U.status = .running → Ended U below o → (∃ v L, o = .returned v ∧ Qrm14 Z p1 ca h0 n0 v U.heap L ∧ FrameEnd s o U L ({ frames := 3, cells := 1, slots := 1, locals := 38 } : Room).cells ({ frames := 3, cells := 1, slots := 1, locals := 38 } : Room).slots) → P U o) → own_Go p.tables e below P (s₁.setTop (mkF m 0 #[oi p1] [])) from own_go (fun _ k => castTop (ef_rm14 m p1) k) (own_H _ (fun U o h1 h2 h3 => ⟨h1, h2, h3⟩))
  intro P hP
  have lt_ca : @LT.lt Nat _ ca h0.size := own_Cache_lt pr3
  refine own_go (st' := s₁.setTop (mkF m 1 #[oi p1] [(.int p1)])) (fun _ k => XS.iloadN X0.here hx rfl (hb hby d14_0) rfl k) ?_
  refine own_go (st' := s₁.setTop (mkF m 3 #[oi p1] [(.int (-128 : Int32)), (.int p1)])) (fun _ k => XS.bipush X0.here hx rfl (hb hby d14_1) k) ?_
  by_cases hc1 : p1 < (-128 : Int32)
  · --
    refine own_go (st' := s₁.setTop (mkF m 23 #[oi p1] [])) (fun _ k => XS.icmpYes X0.here hx rfl (pc0 := 3) (pc' := 23) rfl (hb hby d14_3) rfl (tlt hc1).1 (by decide) (by decide) k) ?_
    obtain ⟨T2, h2, X2, e2, E2, A2, D2, -, st2⟩ := newO X0 hx hZ hown (own_hw hw 84) (own_hw hw 85) (own_hw hw 77) e0 (g := (mkF m 23 #[oi p1] [])) rfl (hb hby d14_23) (by decide) (by decide)
    obtain ⟨b2, g2⟩ : ∃ z, z = h0.size := ⟨_, rfl⟩
    rw [← g2] at A2 D2 st2
    have sz2 : h0.size ≤ h2.size := E2.1
    have lt2 : @LT.lt Nat _ b2 h2.size := A2.lt
    have f3 : Fld Z h2 b2 oS6 "value" "I" (.int (0 : Int32)) := D2 (Or.inr (own_hw hw 98)) (ty := .int) (by decide)
    refine own_go (st' := T2.setTop (mkF m 26 #[oi p1] [(.ref b2)])) (st2) ?_
    refine own_go (st' := T2.setTop (mkF m 27 #[oi p1] [(.ref b2), (.ref b2)])) (fun _ k => XS.dup X2.here hx rfl (hb hby d14_26) rfl rfl k) ?_
    refine own_go (st' := T2.setTop (mkF m 28 #[oi p1] [(.int p1), (.ref b2), (.ref b2)])) (fun _ k => XS.iloadN X2.here hx rfl (hb hby d14_27) rfl k) ?_
    obtain ⟨_, _, ⟨T4, LC4, kC4, nC4⟩, -, X4, ⟨Lc4, hQ4, lq4, yq4, zq4⟩, st4⟩ := X2.specialBack hx (y := oM13) rfl hown (mvT hZ (own_hw hw 86)) (mvT hZ (own_hw hw 87)) (mvT hZ (own_hw hw 89)) (by decide) (backOf (W := 1) (rm15 l Z a0 hw [] b2 p1 (0 : Int32) h2 n0 (by omega) A2 f3 (by omega)) hZ (own_hw hw 89) (own_hw hw 77) (by decide) (by decide)) (g := (mkF m 28 #[oi p1] [(.int p1), (.ref b2), (.ref b2)])) rfl (by rw [hml]; rfl) (Steps.refl _) (a := b2) (argsL := [(.int p1)]) (rest := [(.ref b2)]) (lenOf pd_1 rfl) rfl (by show 2 * 0 + _ ≤ _; exact Nat.le_of_eq rfl) (hb hby d14_28) (fun _ _ => ⟨rfl, e2, (by decide : 1 + 0 ≤ _), (by decide : 1 + 0 ≤ _)⟩)
    dsimp only [Pt.U, Pt.locs, Pt.cells, Pt.slots] at X4 lq4 yq4 zq4 st4 hQ4
    subst lq4 yq4 zq4
    obtain ⟨h4, e4⟩ : ∃ z, T4.heap = z := ⟨_, rfl⟩
    rw [e4] at hQ4
    obtain ⟨rfl, Nq4, K4, g4_0, g4_1⟩ := hQ4
    have sz4 : h2.size ≤ h4.size := K4.1
    have N4 := Fr.app N0 Nq4
    have lt4_1 : @LT.lt Nat _ b2 h4.size := g4_0.lt
    refine own_go (st' := T4.setTop (mkF m 31 #[oi p1] [(.ref b2)])) (fun _ k => st4.trans k) ?_
    obtain ⟨fs, hr, hrun, hended, hW, hsame⟩ := X4.leave (v := some (.ref b2)) (fun h => by rw [Bd.returns] at h; cases h)
    refine ⟨_, _, ?_, hP _ _ hrun hended ⟨_, _, rfl, ?_, ⟨_, rfl⟩, hW, hsame.mono (by decide) (by decide)⟩⟩
    · exact retOut X4 hx Bd.returns rfl (Or.inr (Or.inr (Or.inr (Or.inr ⟨rfl, rfl, rfl⟩)))) (hb hby d14_31) hr
    · show Qrm14 Z p1 ca h0 n0 _ T4.heap _
      rw [e4]
      exact ⟨b2, rfl, N4, (((Keep.refl h0 []).ext E2).trans K4 (allS (P := fun x => x ∈ [] ∨ h0.size ≤ x) (Or.inr (by omega)) all0)), g4_0⟩
  · --
    refine own_go (st' := s₁.setTop (mkF m 6 #[oi p1] [])) (fun _ k => XS.icmpNo X0.here hx rfl (hb hby d14_3) rfl (flt hc1).1 k) ?_
    refine own_go (st' := s₁.setTop (mkF m 7 #[oi p1] [(.int p1)])) (fun _ k => XS.iloadN X0.here hx rfl (hb hby d14_6) rfl k) ?_
    obtain ⟨T6, X6, e6, st6⟩ := getS2 X0 hx hZ hown (host := "") (Or.inl (own_hw hw 79)) Via.refl e0 pr1 (g := (mkF m 7 #[oi p1] [(.int p1)])) rfl (hb hby d14_7)
    refine own_go (st' := T6.setTop (mkF m 10 #[oi p1] [(.int (127 : Int32)), (.int p1)])) (st6) ?_
    by_cases hc7 : (127 : Int32) < p1
    · --
      refine own_go (st' := T6.setTop (mkF m 23 #[oi p1] [])) (fun _ k => XS.icmpYes X6.here hx rfl (pc0 := 10) (pc' := 23) rfl (hb hby d14_10) rfl (tlt hc7).2.2.1 (by decide) (by decide) k) ?_
      obtain ⟨T8, h8, X8, e8, E8, A8, D8, -, st8⟩ := newO X6 hx hZ hown (own_hw hw 84) (own_hw hw 85) (own_hw hw 77) e6 (g := (mkF m 23 #[oi p1] [])) rfl (hb hby d14_23) (by decide) (by decide)
      obtain ⟨b8, g8⟩ : ∃ z, z = h0.size := ⟨_, rfl⟩
      rw [← g8] at A8 D8 st8
      have sz8 : h0.size ≤ h8.size := E8.1
      have lt8 : @LT.lt Nat _ b8 h8.size := A8.lt
      have f9 : Fld Z h8 b8 oS6 "value" "I" (.int (0 : Int32)) := D8 (Or.inr (own_hw hw 98)) (ty := .int) (by decide)
      refine own_go (st' := T8.setTop (mkF m 26 #[oi p1] [(.ref b8)])) (st8) ?_
      refine own_go (st' := T8.setTop (mkF m 27 #[oi p1] [(.ref b8), (.ref b8)])) (fun _ k => XS.dup X8.here hx rfl (hb hby d14_26) rfl rfl k) ?_
      refine own_go (st' := T8.setTop (mkF m 28 #[oi p1] [(.int p1), (.ref b8), (.ref b8)])) (fun _ k => XS.iloadN X8.here hx rfl (hb hby d14_27) rfl k) ?_
      obtain ⟨_, _, ⟨T10, LC10, kC10, nC10⟩, -, X10, ⟨Lc10, hQ10, lq10, yq10, zq10⟩, st10⟩ := X8.specialBack hx (y := oM13) rfl hown (mvT hZ (own_hw hw 86)) (mvT hZ (own_hw hw 87)) (mvT hZ (own_hw hw 89)) (by decide) (backOf (W := 1) (rm15 l Z a0 hw [] b8 p1 (0 : Int32) h8 n0 (by omega) A8 f9 (by omega)) hZ (own_hw hw 89) (own_hw hw 77) (by decide) (by decide)) (g := (mkF m 28 #[oi p1] [(.int p1), (.ref b8), (.ref b8)])) rfl (by rw [hml]; rfl) (Steps.refl _) (a := b8) (argsL := [(.int p1)]) (rest := [(.ref b8)]) (lenOf pd_1 rfl) rfl (by show 2 * 0 + _ ≤ _; exact Nat.le_of_eq rfl) (hb hby d14_28) (fun _ _ => ⟨rfl, e8, (by decide : 1 + 0 ≤ _), (by decide : 1 + 0 ≤ _)⟩)
      dsimp only [Pt.U, Pt.locs, Pt.cells, Pt.slots] at X10 lq10 yq10 zq10 st10 hQ10
      subst lq10 yq10 zq10
      obtain ⟨h10, e10⟩ : ∃ z, T10.heap = z := ⟨_, rfl⟩
      rw [e10] at hQ10
      obtain ⟨rfl, Nq10, K10, g10_0, g10_1⟩ := hQ10
      have sz10 : h8.size ≤ h10.size := K10.1
      have N10 := Fr.app N0 Nq10
      have lt10_1 : @LT.lt Nat _ b8 h10.size := g10_0.lt
      refine own_go (st' := T10.setTop (mkF m 31 #[oi p1] [(.ref b8)])) (fun _ k => st10.trans k) ?_
      obtain ⟨fs, hr, hrun, hended, hW, hsame⟩ := X10.leave (v := some (.ref b8)) (fun h => by rw [Bd.returns] at h; cases h)
      refine ⟨_, _, ?_, hP _ _ hrun hended ⟨_, _, rfl, ?_, ⟨_, rfl⟩, hW, hsame.mono (by decide) (by decide)⟩⟩
      · exact retOut X10 hx Bd.returns rfl (Or.inr (Or.inr (Or.inr (Or.inr ⟨rfl, rfl, rfl⟩)))) (hb hby d14_31) hr
      · show Qrm14 Z p1 ca h0 n0 _ T10.heap _
        rw [e10]
        exact ⟨b8, rfl, N10, (((Keep.refl h0 []).ext E8).trans K10 (allS (P := fun x => x ∈ [] ∨ h0.size ≤ x) (Or.inr (by omega)) all0)), g10_0⟩
    · --
      refine own_go (st' := T6.setTop (mkF m 13 #[oi p1] [])) (fun _ k => XS.icmpNo X6.here hx rfl (hb hby d14_10) rfl (flt hc7).2.2.1 k) ?_
      obtain ⟨T12, X12, e12, st12⟩ := getS2 X6 hx hZ hown (host := "") (Or.inl (own_hw hw 81)) Via.refl e6 pr2 (g := (mkF m 13 #[oi p1] [])) rfl (hb hby d14_13)
      refine own_go (st' := T12.setTop (mkF m 16 #[oi p1] [(.ref ca)])) (st12) ?_
      refine own_go (st' := T12.setTop (mkF m 17 #[oi p1] [(.int p1), (.ref ca)])) (fun _ k => XS.iloadN X12.here hx rfl (hb hby d14_16) rfl k) ?_
      refine own_go (st' := T12.setTop (mkF m 20 #[oi p1] [(.int (128 : Int32)), (.int p1), (.ref ca)])) (fun _ k => XS.sipush X12.here hx rfl (hb hby d14_17) k) ?_
      refine own_go (st' := T12.setTop (mkF m 21 #[oi p1] [(.int (p1 + (128 : Int32))), (.ref ca)])) (fun _ k => XS.iadd X12.here hx rfl (hb hby d14_20) rfl k) ?_
      obtain ⟨cl13, Ar13, S13, H13⟩ := id pr3
      have hi13 := own_idx p1 hc1 hc7
      have hin13 : ¬ ((p1 + (128 : Int32)) < 0 ∨ cl13.slots.size ≤ ((p1 + (128 : Int32))).toNatClampNeg) := by rw [S13]; intro q; rcases q with q | q; exact hi13.1 q; exact absurd hi13.2 (Nat.not_lt.mpr q)
      obtain ⟨r13, hat13, Er13⟩ := H13 _ hi13.2
      have ltr13 : @LT.lt Nat _ r13 h0.size := Er13.lt
      refine own_go (st' := T12.setTop (mkF m 22 #[oi p1] [(.ref r13)])) (X12.aaload hx (j := (p1 + (128 : Int32))) (v := .ref r13) (by rw [e12]; exact Ar13.1) (State.isArrayOf_alike hZ.alike Ar13.2.1) rfl Ar13.2.2 hin13 hat13 (g := (mkF m 21 #[oi p1] [(.int (p1 + (128 : Int32))), (.ref ca)])) rfl rfl (hb hby d14_21)) ?_
      obtain ⟨fs, hr, hrun, hended, hW, hsame⟩ := X12.leave (v := some (.ref r13)) (fun h => by rw [Bd.returns] at h; cases h)
      refine ⟨_, _, ?_, hP _ _ hrun hended ⟨_, _, rfl, ?_, ⟨_, rfl⟩, hW, hsame.mono (by decide) (by decide)⟩⟩
      · exact retOut X12 hx Bd.returns rfl (Or.inr (Or.inr (Or.inr (Or.inr ⟨rfl, rfl, rfl⟩)))) (hb hby d14_22) hr
      · show Qrm14 Z p1 ca h0 n0 _ T12.heap _
        rw [e12]
        exact ⟨r13, rfl, N0, (Keep.refl h0 []), Er13⟩
theorem d6_0 : decode jdk_52_method_21_code 0 = .ok (.iconst 0, 1) := by decide +kernel
theorem d6_1 : decode jdk_52_method_21_code 1 = .ok (.istore 5, 2) := by decide +kernel
theorem d6_3 : decode jdk_52_method_21_code 3 = .ok (.iload 5, 2) := by decide +kernel
theorem d6_5 : decode jdk_52_method_21_code 5 = .ok (.iload 4, 2) := by decide +kernel
theorem d6_7 : decode jdk_52_method_21_code 7 = .ok (.if_icmp .ge 37, 3) := by decide +kernel
theorem d6_10 : decode jdk_52_method_21_code 10 = .ok (.aload_n 0, 1) := by decide +kernel
theorem d6_11 : decode jdk_52_method_21_code 11 = .ok (.iload_n 1, 1) := by decide +kernel
theorem d6_12 : decode jdk_52_method_21_code 12 = .ok (.caload, 1) := by decide +kernel
theorem d6_13 : decode jdk_52_method_21_code 13 = .ok (.istore 6, 2) := by decide +kernel
theorem d6_15 : decode jdk_52_method_21_code 15 = .ok (.iload 6, 2) := by decide +kernel
theorem d6_17 : decode jdk_52_method_21_code 17 = .ok (.sipush 255, 3) := by decide +kernel
theorem d6_20 : decode jdk_52_method_21_code 20 = .ok (.if_icmp .le 6, 3) := by decide +kernel
theorem d6_26 : decode jdk_52_method_21_code 26 = .ok (.aload_n 2, 1) := by decide +kernel
theorem d6_27 : decode jdk_52_method_21_code 27 = .ok (.iload_n 3, 1) := by decide +kernel
theorem d6_28 : decode jdk_52_method_21_code 28 = .ok (.iload 6, 2) := by decide +kernel
theorem d6_30 : decode jdk_52_method_21_code 30 = .ok (.i2b, 1) := by decide +kernel
theorem d6_31 : decode jdk_52_method_21_code 31 = .ok (.bastore, 1) := by decide +kernel
theorem d6_32 : decode jdk_52_method_21_code 32 = .ok (.iinc 1 1, 3) := by decide +kernel
theorem d6_35 : decode jdk_52_method_21_code 35 = .ok (.iinc 3 1, 3) := by decide +kernel
theorem d6_38 : decode jdk_52_method_21_code 38 = .ok (.iinc 5 1, 3) := by decide +kernel
theorem d6_41 : decode jdk_52_method_21_code 41 = .ok (.goto (-38), 3) := by decide +kernel
theorem d6_44 : decode jdk_52_method_21_code 44 = .ok (.iload 4, 2) := by decide +kernel
theorem d6_46 : decode jdk_52_method_21_code 46 = .ok (.ireturn, 1) := by decide +kernel
theorem pn_6 : plainName "java/lang/StringUTF16" = true := by first | (simp [plainName, overriddenIn]; done) | decide +kernel
theorem ef_rcp_1 (m : MethodId) (x0 : Addr) (x1 : Int32) (x2 : Addr) (x3 : Int32) (x4 : Int32) : entryFrame m #[(.ref x0), (.int x1), (.ref x2), (.int x3), (.int x4)] 7 = mkF m 0 #[.val (.ref x0), .val (.int x1), .val (.ref x2), .val (.int x3), .val (.int x4), .unset, .unset] [] := by first | (simp [entryFrame, mkF, argsToLocals, Value.category]; done) | rfl
def Qrcp_1 (Z : State) (ax : Addr) (ka : ClassId) (ay : Addr) (kb : ClassId) (u0 : Int32) (h0 : Heap) (n0 : Nat) (v : Option Value) (h : Heap) (L : List Loc) : Prop := (v = some (.int (1 : Int32))) ∧ (Fr n0 L) ∧ (Keep h0 h [ay]) ∧ (Arv Z h ay kb .byte (1 : Int32) [(.int (own_by u0))] (.int (0 : Int32)))
set_option maxRecDepth 65536 in
set_option maxHeartbeats 40000000 in
theorem rcp_1 (l : Launch) (Z : State) (a0 : Array Value) (hw : ∀ d ∈ tables_1, d.before a0 Z = true) (ws : List Jvm.Cond) (ax : Addr) (ka : ClassId) (ay : Addr) (kb : ClassId) (u0 : Int32) (h0 : Heap) (n0 : Nat) (Z0 : n0 ≤ h0.size) (pr1 : Arv Z h0 ax ka .char (1 : Int32) [(.int u0)] (.int (0 : Int32))) (pr2 : Arv Z h0 ay kb .byte (1 : Int32) [(.int (0 : Int32))] (.int (0 : Int32))) (pr3 : n0 ≤ ay) (pr4 : @Ne Nat ax ay) (hl_u0 : own_lat u0) :
    MetFree l oM7 (head1 (Jvm.Cond.code oM7 jdk_52_method_21_code 7 (some .int) :: ws) ({ frames := 0, cells := 0, slots := 0, locals := 0 } : Room)) (fun a U => a = #[(.ref ax), (.int (0 : Int32)), (.ref ay), (.int (0 : Int32)), (.int (1 : Int32))] ∧ Z.Warmed39 U.vm ∧ U.heap = h0) (fun _ _ _ _ _ => True) (fun _ U o U' => ∃ v L, o = .returned v ∧ Qrcp_1 Z ax ka ay kb u0 h0 n0 v U'.heap L ∧ FrameEnd U o U' L ({ frames := 0, cells := 0, slots := 0, locals := 0 } : Room).cells ({ frames := 0, cells := 0, slots := 0, locals := 0 } : Room).slots) := by
  refine MetFree.of_bodySF (plainFor_of_name pn_6) hisR ?_
  intro p e s m args below meth c s₁ Bd hml0 hP0 hK
  obtain ⟨rfl, hZ, hh⟩ := hP0
  have hx := Bd.exec
  have hby := Bd.bytes
  have hml : c.maxLocals = 7 := hml0
  have hown : s.vm.findClass oS7 = some m.cls := findClass_of_methodNamed Bd.named
  have hnm := (name_of_methodNamed Bd.named Bd.method).1
  have X0 : Stand p l e ({ frames := 0, cells := 0, slots := 0, locals := 0 } : Room) s m #[(.ref ax), (.int (0 : Int32)), (.ref ay), (.int (0 : Int32)), (.int (1 : Int32))] below meth c s₁ [] 0 0 := Stand.of_body Bd
  have e0 : s₁.heap = h0 := by rw [← hh, Bd.state]; rfl
  have N0 := Fr.nil n0
  suffices own_H : ∀ (P : State → Outcome → Prop), (∀ U o, U.status = .running → Ended U below o → (∃ v L, o = .returned v ∧ Qrcp_1 Z ax ka ay kb u0 h0 n0 v U.heap L ∧ FrameEnd s o U L ({ frames := 0, cells := 0, slots := 0, locals := 0 } : Room).cells ({ frames := 0, cells := 0, slots := 0, locals := 0 } : Room).slots) → P U o) → own_Go p.tables e below P (s₁.setTop (mkF m 0 #[oR ax, oi 0, oR ay, oi 0, oi 1, .unset, .unset] [])) from own_go (fun _ k => castTop (ef_rcp_1 m ax (0 : Int32) ay (0 : Int32) (1 : Int32)) k) (own_H _ (fun U o h1 h2 h3 => ⟨h1, h2, h3⟩))
  intro P hP
  have lt_ax : @LT.lt Nat _ ax h0.size := pr1.lt
  have lt_ay : @LT.lt Nat _ ay h0.size := pr2.lt
  refine own_go (st' := s₁.setTop (mkF m 1 #[oR ax, oi 0, oR ay, oi 0, oi 1, .unset, .unset] [(.int (0 : Int32))])) (fun _ k => XS.iconst X0.here hx rfl (hb hby d6_0) k) ?_
  refine own_go (st' := s₁.setTop (mkF m 3 #[oR ax, oi 0, oR ay, oi 0, oi 1, oi 0, .unset] [])) (fun _ k => XS.istore X0.here hx rfl (hb hby d6_1) rfl (l' := #[oR ax, oi 0, oR ay, oi 0, oi 1, oi 0, .unset]) rfl k) ?_
  refine own_go (st' := s₁.setTop (mkF m 5 #[oR ax, oi 0, oR ay, oi 0, oi 1, oi 0, .unset] [(.int (0 : Int32))])) (fun _ k => XS.iload X0.here hx rfl (hb hby d6_3) rfl k) ?_
  refine own_go (st' := s₁.setTop (mkF m 7 #[oR ax, oi 0, oR ay, oi 0, oi 1, oi 0, .unset] [(.int (1 : Int32)), (.int (0 : Int32))])) (fun _ k => XS.iload X0.here hx rfl (hb hby d6_5) rfl k) ?_
  have hc1 : (0 : Int32) < (1 : Int32) := by decide
  refine own_go (st' := s₁.setTop (mkF m 10 #[oR ax, oi 0, oR ay, oi 0, oi 1, oi 0, .unset] [])) (fun _ k => XS.icmpNo X0.here hx rfl (hb hby d6_7) rfl (tlt hc1).2.1 k) ?_
  refine own_go (st' := s₁.setTop (mkF m 11 #[oR ax, oi 0, oR ay, oi 0, oi 1, oi 0, .unset] [(.ref ax)])) (fun _ k => XS.aloadN X0.here hx rfl (hb hby d6_10) rfl rfl k) ?_
  refine own_go (st' := s₁.setTop (mkF m 12 #[oR ax, oi 0, oR ay, oi 0, oi 1, oi 0, .unset] [(.int (0 : Int32)), (.ref ax)])) (fun _ k => XS.iloadN X0.here hx rfl (hb hby d6_11) rfl k) ?_
  obtain ⟨cl2, Ar2, -, S2, M2, H2, -⟩ := id pr1
  have hin2 : ¬ ((0 : Int32) < 0 ∨ cl2.slots.size ≤ ((0 : Int32)).toNatClampNeg) := (inb_of S2 ⟨by decide, by decide⟩)
  have hat2 : cl2.slots[((0 : Int32)).toNatClampNeg]? = some (.int u0) := (H2.at hin2 rfl)
  refine own_go (st' := s₁.setTop (mkF m 13 #[oR ax, oi 0, oR ay, oi 0, oi 1, oi 0, .unset] [(.int u0)])) (X0.caload hx (j := (0 : Int32)) (v := (.int u0)) (by rw [e0]; exact Ar2.1) (State.isArrayOf_alike hZ.alike Ar2.2.1) Ar2.2.2 hin2 hat2 (g := (mkF m 12 #[oR ax, oi 0, oR ay, oi 0, oi 1, oi 0, .unset] [(.int (0 : Int32)), (.ref ax)])) rfl rfl (hb hby d6_12)) ?_
  refine own_go (st' := s₁.setTop (mkF m 15 #[oR ax, oi 0, oR ay, oi 0, oi 1, oi 0, oi u0] [])) (fun _ k => XS.istore X0.here hx rfl (hb hby d6_13) rfl (l' := #[oR ax, oi 0, oR ay, oi 0, oi 1, oi 0, oi u0]) rfl k) ?_
  refine own_go (st' := s₁.setTop (mkF m 17 #[oR ax, oi 0, oR ay, oi 0, oi 1, oi 0, oi u0] [(.int u0)])) (fun _ k => XS.iload X0.here hx rfl (hb hby d6_15) rfl k) ?_
  refine own_go (st' := s₁.setTop (mkF m 20 #[oR ax, oi 0, oR ay, oi 0, oi 1, oi 0, oi u0] [(.int (255 : Int32)), (.int u0)])) (fun _ k => XS.sipush X0.here hx rfl (hb hby d6_17) k) ?_
  have hc3 : ¬ ((255 : Int32) < u0) := (own_lat_le hl_u0)
  refine own_go (st' := s₁.setTop (mkF m 26 #[oR ax, oi 0, oR ay, oi 0, oi 1, oi 0, oi u0] [])) (fun _ k => XS.icmpYes X0.here hx rfl (pc0 := 20) (pc' := 26) rfl (hb hby d6_20) rfl (flt hc3).2.2.2 (by decide) (by decide) k) ?_
  refine own_go (st' := s₁.setTop (mkF m 27 #[oR ax, oi 0, oR ay, oi 0, oi 1, oi 0, oi u0] [(.ref ay)])) (fun _ k => XS.aloadN X0.here hx rfl (hb hby d6_26) rfl rfl k) ?_
  refine own_go (st' := s₁.setTop (mkF m 28 #[oR ax, oi 0, oR ay, oi 0, oi 1, oi 0, oi u0] [(.int (0 : Int32)), (.ref ay)])) (fun _ k => XS.iloadN X0.here hx rfl (hb hby d6_27) rfl k) ?_
  refine own_go (st' := s₁.setTop (mkF m 30 #[oR ax, oi 0, oR ay, oi 0, oi 1, oi 0, oi u0] [(.int u0), (.int (0 : Int32)), (.ref ay)])) (fun _ k => XS.iload X0.here hx rfl (hb hby d6_28) rfl k) ?_
  refine own_go (st' := s₁.setTop (mkF m 31 #[oR ax, oi 0, oR ay, oi 0, oi 1, oi 0, oi u0] [(.int u0.toInt8.toInt32), (.int (0 : Int32)), (.ref ay)])) (fun _ k => XS.i2b X0.here hx rfl (hb hby d6_30) rfl k) ?_
  obtain ⟨cl4, Ar4, qc4, S4, M4, H4, G4⟩ := id pr2
  have hin4 : ¬ ((0 : Int32) < 0 ∨ cl4.slots.size ≤ ((0 : Int32)).toNatClampNeg) := (inb_of S4 ⟨by decide, by decide⟩)
  obtain ⟨T4, h4, X4, e4, W4, st4⟩ := stB X0 hx hZ e0 Ar4 (j := (0 : Int32)) hin4 (g := (mkF m 31 #[oR ax, oi 0, oR ay, oi 0, oi 1, oi 0, oi u0] [(.int u0.toInt8.toInt32), (.int (0 : Int32)), (.ref ay)])) rfl rfl (hb hby d6_31)
  have sz4 : h4.size = h0.size := W4.size
  have N4 := Fr.snoc X4 N0 (by omega)
  have v4 : Arv Z h4 ay kb .byte (1 : Int32) [(.int (nar .byte u0.toInt8.toInt32))] (.int (0 : Int32)) := Arv.set Ar4 qc4 S4 M4 H4 G4 (fits_nar_byte _) W4 0 rfl (Nat.le_of_ble_eq_true rfl)
  refine own_go (st' := T4.setTop (mkF m 32 #[oR ax, oi 0, oR ay, oi 0, oi 1, oi 0, oi u0] [])) (st4) ?_
  refine own_go (st' := T4.setTop (mkF m 35 #[oR ax, oi 1, oR ay, oi 0, oi 1, oi 0, oi u0] [])) (fun _ k => XS.iinc X4.here hx rfl (hb hby d6_32) rfl (l' := #[oR ax, oi 1, oR ay, oi 0, oi 1, oi 0, oi u0]) (by rw [show ((0 : Int32) + Int32.ofInt 1) = (1 : Int32) by decide]; rfl) k) ?_
  refine own_go (st' := T4.setTop (mkF m 38 #[oR ax, oi 1, oR ay, oi 1, oi 1, oi 0, oi u0] [])) (fun _ k => XS.iinc X4.here hx rfl (hb hby d6_35) rfl (l' := #[oR ax, oi 1, oR ay, oi 1, oi 1, oi 0, oi u0]) (by rw [show ((0 : Int32) + Int32.ofInt 1) = (1 : Int32) by decide]; rfl) k) ?_
  refine own_go (st' := T4.setTop (mkF m 41 #[oR ax, oi 1, oR ay, oi 1, oi 1, oi 1, oi u0] [])) (fun _ k => XS.iinc X4.here hx rfl (hb hby d6_38) rfl (l' := #[oR ax, oi 1, oR ay, oi 1, oi 1, oi 1, oi u0]) (by rw [show ((0 : Int32) + Int32.ofInt 1) = (1 : Int32) by decide]; rfl) k) ?_
  refine own_go (st' := T4.setTop (mkF m 3 #[oR ax, oi 1, oR ay, oi 1, oi 1, oi 1, oi u0] [])) (fun _ k => XS.goto X4.here hx rfl (pc0 := 41) (pc' := 3) rfl (hb hby d6_41) (by decide) (by decide) k) ?_
  refine own_go (st' := T4.setTop (mkF m 5 #[oR ax, oi 1, oR ay, oi 1, oi 1, oi 1, oi u0] [(.int (1 : Int32))])) (fun _ k => XS.iload X4.here hx rfl (hb hby d6_3) rfl k) ?_
  refine own_go (st' := T4.setTop (mkF m 7 #[oR ax, oi 1, oR ay, oi 1, oi 1, oi 1, oi u0] [(.int (1 : Int32)), (.int (1 : Int32))])) (fun _ k => XS.iload X4.here hx rfl (hb hby d6_5) rfl k) ?_
  have hc5 : ¬ ((1 : Int32) < (1 : Int32)) := by decide
  refine own_go (st' := T4.setTop (mkF m 44 #[oR ax, oi 1, oR ay, oi 1, oi 1, oi 1, oi u0] [])) (fun _ k => XS.icmpYes X4.here hx rfl (pc0 := 7) (pc' := 44) rfl (hb hby d6_7) rfl (flt hc5).2.1 (by decide) (by decide) k) ?_
  refine own_go (st' := T4.setTop (mkF m 46 #[oR ax, oi 1, oR ay, oi 1, oi 1, oi 1, oi u0] [(.int (1 : Int32))])) (fun _ k => XS.iload X4.here hx rfl (hb hby d6_44) rfl k) ?_
  obtain ⟨fs, hr, hrun, hended, hW, hsame⟩ := X4.leave (v := some (.int (1 : Int32))) (fun h => by rw [Bd.returns] at h; cases h)
  refine ⟨_, _, ?_, hP _ _ hrun hended ⟨_, _, rfl, ?_, ⟨_, rfl⟩, hW, hsame.mono (by decide) (by decide)⟩⟩
  · exact retOut X4 hx Bd.returns rfl (Or.inl ⟨rfl, Or.inl rfl, _, rfl⟩) (hb hby d6_46) hr
  · show Qrcp_1 Z ax ka ay kb u0 h0 n0 _ T4.heap _
    rw [e4]
    exact ⟨rfl, N4, ((Keep.refl h0 [ay]).wr W4 (Or.inl (List.mem_of_getElem? (i := 0) rfl))), v4⟩
theorem pd_2 : parseMethodDescriptor "([CI[BII)I" = some ⟨[(.array .char), .int, (.array .byte), .int, .int], some .int⟩ := by decide +kernel
theorem d5_0 : decode jdk_52_method_16_code 0 = .ok (.iload_n 2, 1) := by decide +kernel
theorem d5_1 : decode jdk_52_method_16_code 1 = .ok (.newarray .byte, 2) := by decide +kernel
theorem d5_3 : decode jdk_52_method_16_code 3 = .ok (.astore_n 3, 1) := by decide +kernel
theorem d5_4 : decode jdk_52_method_16_code 4 = .ok (.aload_n 0, 1) := by decide +kernel
theorem d5_5 : decode jdk_52_method_16_code 5 = .ok (.iload_n 1, 1) := by decide +kernel
theorem d5_6 : decode jdk_52_method_16_code 6 = .ok (.aload_n 3, 1) := by decide +kernel
theorem d5_7 : decode jdk_52_method_16_code 7 = .ok (.iconst 0, 1) := by decide +kernel
theorem d5_8 : decode jdk_52_method_16_code 8 = .ok (.iload_n 2, 1) := by decide +kernel
theorem d5_9 : decode jdk_52_method_16_code 9 = .ok (.invokestatic 115, 3) := by decide +kernel
theorem d5_12 : decode jdk_52_method_16_code 12 = .ok (.istore 4, 2) := by decide +kernel
theorem d5_14 : decode jdk_52_method_16_code 14 = .ok (.iload 4, 2) := by decide +kernel
theorem d5_16 : decode jdk_52_method_16_code 16 = .ok (.iload_n 2, 1) := by decide +kernel
theorem d5_17 : decode jdk_52_method_16_code 17 = .ok (.if_icmp .eq 40, 3) := by decide +kernel
theorem d5_57 : decode jdk_52_method_16_code 57 = .ok (.aload_n 3, 1) := by decide +kernel
theorem d5_58 : decode jdk_52_method_16_code 58 = .ok (.areturn, 1) := by decide +kernel
theorem pn_5 : plainName "java/lang/StringUTF16" = true := by first | (simp [plainName, overriddenIn]; done) | decide +kernel
theorem ef_rcq_1 (m : MethodId) (x0 : Addr) (x1 : Int32) (x2 : Int32) : entryFrame m #[(.ref x0), (.int x1), (.int x2)] 6 = mkF m 0 #[.val (.ref x0), .val (.int x1), .val (.int x2), .unset, .unset, .unset] [] := by first | (simp [entryFrame, mkF, argsToLocals, Value.category]; done) | rfl
def Qrcq_1 (Z : State) (ax : Addr) (ka : ClassId) (u0 : Int32) (h0 : Heap) (n0 : Nat) (v : Option Value) (h : Heap) (L : List Loc) : Prop := ∃ (r : Addr) (kr : ClassId), (v = some (.ref r)) ∧ (Fr n0 L) ∧ (Keep h0 h []) ∧ (Arv Z h r kr .byte (1 : Int32) [(.int (own_by u0))] (.int (0 : Int32))) ∧ (h0.size ≤ r)
set_option maxRecDepth 65536 in
set_option maxHeartbeats 40000000 in
theorem rcq_1 (l : Launch) (Z : State) (a0 : Array Value) (hw : ∀ d ∈ tables_1, d.before a0 Z = true) (ws : List Jvm.Cond) (ax : Addr) (ka : ClassId) (u0 : Int32) (h0 : Heap) (n0 : Nat) (Z0 : n0 ≤ h0.size) (pr1 : Arv Z h0 ax ka .char (1 : Int32) [(.int u0)] (.int (0 : Int32))) (hl_u0 : own_lat u0) :
    MetFree l oM8 (head1 (Jvm.Cond.code oM8 jdk_52_method_16_code 6 (some (.array .byte)) :: ws) ({ frames := 1, cells := 1, slots := 1, locals := 18 } : Room)) (fun a U => a = #[(.ref ax), (.int (0 : Int32)), (.int (1 : Int32))] ∧ Z.Warmed39 U.vm ∧ U.heap = h0) (fun _ _ _ _ _ => True) (fun _ U o U' => ∃ v L, o = .returned v ∧ Qrcq_1 Z ax ka u0 h0 n0 v U'.heap L ∧ FrameEnd U o U' L ({ frames := 1, cells := 1, slots := 1, locals := 18 } : Room).cells ({ frames := 1, cells := 1, slots := 1, locals := 18 } : Room).slots) := by
  refine MetFree.of_bodySF (plainFor_of_name pn_5) hisR ?_
  intro p e s m args below meth c s₁ Bd hml0 hP0 hK
  obtain ⟨rfl, hZ, hh⟩ := hP0
  have hx := Bd.exec
  have hby := Bd.bytes
  have hml : c.maxLocals = 6 := hml0
  have hown : s.vm.findClass oS7 = some m.cls := findClass_of_methodNamed Bd.named
  have hnm := (name_of_methodNamed Bd.named Bd.method).1
  have X0 : Stand p l e ({ frames := 1, cells := 1, slots := 1, locals := 18 } : Room) s m #[(.ref ax), (.int (0 : Int32)), (.int (1 : Int32))] below meth c s₁ [] 0 0 := Stand.of_body Bd
  have e0 : s₁.heap = h0 := by rw [← hh, Bd.state]; rfl
  have N0 := Fr.nil n0
  suffices own_H : ∀ (P : State → Outcome → Prop), (∀ U o, U.status = .running → Ended U below o → (∃ v L, o = .returned v ∧ Qrcq_1 Z ax ka u0 h0 n0 v U.heap L ∧ FrameEnd s o U L ({ frames := 1, cells := 1, slots := 1, locals := 18 } : Room).cells ({ frames := 1, cells := 1, slots := 1, locals := 18 } : Room).slots) → P U o) → own_Go p.tables e below P (s₁.setTop (mkF m 0 #[oR ax, oi 0, oi 1, .unset, .unset, .unset] [])) from own_go (fun _ k => castTop (ef_rcq_1 m ax (0 : Int32) (1 : Int32)) k) (own_H _ (fun U o h1 h2 h3 => ⟨h1, h2, h3⟩))
  intro P hP
  have lt_ax : @LT.lt Nat _ ax h0.size := pr1.lt
  refine own_go (st' := s₁.setTop (mkF m 1 #[oR ax, oi 0, oi 1, .unset, .unset, .unset] [(.int (1 : Int32))])) (fun _ k => XS.iloadN X0.here hx rfl (hb hby d5_0) rfl k) ?_
  obtain ⟨T1, h1, k1, X1, e1, E1, A1, st1⟩ := newP X0 hx hZ (own_hw hw 24) e0 (g := (mkF m 1 #[oR ax, oi 0, oi 1, .unset, .unset, .unset] [(.int (1 : Int32))])) rfl (hb hby d5_1) rfl (by decide) (cap := 1) (by decide) (by decide) (by decide) (by decide)
  obtain ⟨b1, g1⟩ : ∃ z, z = h0.size := ⟨_, rfl⟩
  rw [← g1] at A1 st1
  have sz1 : h0.size ≤ h1.size := E1.1
  have lt1 : @LT.lt Nat _ b1 h1.size := A1.lt
  have v1 : Arv Z h1 b1 k1 .byte (1 : Int32) [(.int (0 : Int32))] (.int (0 : Int32)) := (Arv.new A1 (by decide)).pad (pad_rep [] (.int (0 : Int32)) 1)
  refine own_go (st' := T1.setTop (mkF m 3 #[oR ax, oi 0, oi 1, .unset, .unset, .unset] [(.ref b1)])) (st1) ?_
  refine own_go (st' := T1.setTop (mkF m 4 #[oR ax, oi 0, oi 1, oR b1, .unset, .unset] [])) (fun _ k => XS.astoreN X1.here hx rfl (hb hby d5_3) rfl rfl (l' := #[oR ax, oi 0, oi 1, oR b1, .unset, .unset]) rfl k) ?_
  refine own_go (st' := T1.setTop (mkF m 5 #[oR ax, oi 0, oi 1, oR b1, .unset, .unset] [(.ref ax)])) (fun _ k => XS.aloadN X1.here hx rfl (hb hby d5_4) rfl rfl k) ?_
  refine own_go (st' := T1.setTop (mkF m 6 #[oR ax, oi 0, oi 1, oR b1, .unset, .unset] [(.int (0 : Int32)), (.ref ax)])) (fun _ k => XS.iloadN X1.here hx rfl (hb hby d5_5) rfl k) ?_
  refine own_go (st' := T1.setTop (mkF m 7 #[oR ax, oi 0, oi 1, oR b1, .unset, .unset] [(.ref b1), (.int (0 : Int32)), (.ref ax)])) (fun _ k => XS.aloadN X1.here hx rfl (hb hby d5_6) rfl rfl k) ?_
  refine own_go (st' := T1.setTop (mkF m 8 #[oR ax, oi 0, oi 1, oR b1, .unset, .unset] [(.int (0 : Int32)), (.ref b1), (.int (0 : Int32)), (.ref ax)])) (fun _ k => XS.iconst X1.here hx rfl (hb hby d5_7) k) ?_
  refine own_go (st' := T1.setTop (mkF m 9 #[oR ax, oi 0, oi 1, oR b1, .unset, .unset] [(.int (1 : Int32)), (.int (0 : Int32)), (.ref b1), (.int (0 : Int32)), (.ref ax)])) (fun _ k => XS.iloadN X1.here hx rfl (hb hby d5_8) rfl k) ?_
  have c3 : Arv Z h1 ax ka .char (1 : Int32) [(.int u0)] (.int (0 : Int32)) := (pr1.ext E1)
  obtain ⟨_, _, ⟨T2, LC2, kC2, nC2⟩, -, X2, ⟨Lc2, hQ2, lq2, yq2, zq2⟩, st2⟩ := Jvm.LawKit.callS X1 hx (y := oM7) hown (mvT hZ (own_hw hw 25)) (mvT hZ (own_hw hw 26)) (mvT hZ (own_hw hw 22)) (mvT hZ (own_hw hw 27)) (by decide) (backOf (W := 0) (rcp_1 l Z a0 hw [] ax ka b1 k1 u0 h1 n0 (by omega) c3 v1 (by omega) (own_ne (by omega)) hl_u0) hZ (own_hw hw 27) (own_hw hw 22) (by decide) (by decide)) (g := (mkF m 9 #[oR ax, oi 0, oi 1, oR b1, .unset, .unset] [(.int (1 : Int32)), (.int (0 : Int32)), (.ref b1), (.int (0 : Int32)), (.ref ax)])) rfl (by rw [hml]; rfl) (argsL := [(.ref ax), (.int (0 : Int32)), (.ref b1), (.int (0 : Int32)), (.int (1 : Int32))]) (rest := []) (lenOf pd_2 rfl) rfl (by show 2 * 0 + _ ≤ _; exact Nat.le_of_eq rfl) (hb hby d5_9) (fun _ _ => ⟨rfl, e1, (by decide : 1 + 0 ≤ _), (by decide : 1 + 0 ≤ _)⟩)
  dsimp only [Pt.U, Pt.locs, Pt.cells, Pt.slots] at X2 lq2 yq2 zq2 st2 hQ2
  subst lq2 yq2 zq2
  obtain ⟨h2, e2⟩ : ∃ z, T2.heap = z := ⟨_, rfl⟩
  rw [e2] at hQ2
  obtain ⟨rfl, Nq2, K2, g2_0⟩ := hQ2
  have sz2 : h1.size ≤ h2.size := K2.1
  have N2 := Fr.app N0 Nq2
  have lt2_1 : @LT.lt Nat _ b1 h2.size := g2_0.lt
  refine own_go (st' := T2.setTop (mkF m 12 #[oR ax, oi 0, oi 1, oR b1, .unset, .unset] [(.int (1 : Int32))])) (fun t k => st2 t k) ?_
  refine own_go (st' := T2.setTop (mkF m 14 #[oR ax, oi 0, oi 1, oR b1, oi 1, .unset] [])) (fun _ k => XS.istore X2.here hx rfl (hb hby d5_12) rfl (l' := #[oR ax, oi 0, oi 1, oR b1, oi 1, .unset]) rfl k) ?_
  refine own_go (st' := T2.setTop (mkF m 16 #[oR ax, oi 0, oi 1, oR b1, oi 1, .unset] [(.int (1 : Int32))])) (fun _ k => XS.iload X2.here hx rfl (hb hby d5_14) rfl k) ?_
  refine own_go (st' := T2.setTop (mkF m 17 #[oR ax, oi 0, oi 1, oR b1, oi 1, .unset] [(.int (1 : Int32)), (.int (1 : Int32))])) (fun _ k => XS.iloadN X2.here hx rfl (hb hby d5_16) rfl k) ?_
  have hc4 : (1 : Int32) = (1 : Int32) := by decide
  refine own_go (st' := T2.setTop (mkF m 57 #[oR ax, oi 0, oi 1, oR b1, oi 1, .unset] [])) (fun _ k => XS.icmpYes X2.here hx rfl (pc0 := 17) (pc' := 57) rfl (hb hby d5_17) rfl (teq hc4).1 (by decide) (by decide) k) ?_
  refine own_go (st' := T2.setTop (mkF m 58 #[oR ax, oi 0, oi 1, oR b1, oi 1, .unset] [(.ref b1)])) (fun _ k => XS.aloadN X2.here hx rfl (hb hby d5_57) rfl rfl k) ?_
  obtain ⟨fs, hr, hrun, hended, hW, hsame⟩ := X2.leave (v := some (.ref b1)) (fun h => by rw [Bd.returns] at h; cases h)
  refine ⟨_, _, ?_, hP _ _ hrun hended ⟨_, _, rfl, ?_, ⟨_, rfl⟩, hW, hsame.mono (by decide) (by decide)⟩⟩
  · exact retOut X2 hx Bd.returns rfl (Or.inr (Or.inr (Or.inr (Or.inr ⟨rfl, rfl, rfl⟩)))) (hb hby d5_58) hr
  · show Qrcq_1 Z ax ka u0 h0 n0 _ T2.heap _
    rw [e2]
    exact ⟨b1, k1, rfl, N2, (((Keep.refl h0 []).ext E1).trans K2 (allS (P := fun x => x ∈ [] ∨ h0.size ≤ x) (Or.inr (by omega)) all0)), g2_0, (by omega)⟩
theorem d7_0 : decode jdk_52_method_15_code 0 = .ok (.iload_n 1, 1) := by decide +kernel
theorem d7_1 : decode jdk_52_method_15_code 1 = .ok (.aload_n 0, 1) := by decide +kernel
theorem d7_2 : decode jdk_52_method_15_code 2 = .ok (.arraylength, 1) := by decide +kernel
theorem d7_3 : decode jdk_52_method_15_code 3 = .ok (.isub, 1) := by decide +kernel
theorem d7_4 : decode jdk_52_method_15_code 4 = .ok (.bipush 31, 2) := by decide +kernel
theorem d7_6 : decode jdk_52_method_15_code 6 = .ok (.iushr, 1) := by decide +kernel
theorem d7_7 : decode jdk_52_method_15_code 7 = .ok (.i2b, 1) := by decide +kernel
theorem d7_8 : decode jdk_52_method_15_code 8 = .ok (.ireturn, 1) := by decide +kernel
theorem pn_7 : plainName "java/lang/StringUTF16" = true := by first | (simp [plainName, overriddenIn]; done) | decide +kernel
theorem ef_rcd_1 (m : MethodId) (x0 : Addr) (x1 : Int32) : entryFrame m #[(.ref x0), (.int x1)] 2 = mkF m 0 #[.val (.ref x0), .val (.int x1)] [] := by first | (simp [entryFrame, mkF, argsToLocals, Value.category]; done) | rfl
def Qrcd_1 (Z : State) (ax : Addr) (ka : ClassId) (vs : List Value) (h0 : Heap) (n0 : Nat) (v : Option Value) (h : Heap) (L : List Loc) : Prop := (v = some (.int (0 : Int32))) ∧ (Fr n0 L) ∧ (h = h0)
set_option maxRecDepth 65536 in
set_option maxHeartbeats 40000000 in
theorem rcd_1 (l : Launch) (Z : State) (a0 : Array Value) (hw : ∀ d ∈ tables_1, d.before a0 Z = true) (ws : List Jvm.Cond) (ax : Addr) (ka : ClassId) (vs : List Value) (h0 : Heap) (n0 : Nat) (Z0 : n0 ≤ h0.size) (pr1 : Arv Z h0 ax ka .byte (1 : Int32) vs (.int (0 : Int32))) :
    MetFree l oM9 (head1 (Jvm.Cond.code oM9 jdk_52_method_15_code 2 (some .byte) :: ws) ({ frames := 0, cells := 0, slots := 0, locals := 0 } : Room)) (fun a U => a = #[(.ref ax), (.int (1 : Int32))] ∧ Z.Warmed39 U.vm ∧ U.heap = h0) (fun _ _ _ _ _ => True) (fun _ U o U' => ∃ v L, o = .returned v ∧ Qrcd_1 Z ax ka vs h0 n0 v U'.heap L ∧ FrameEnd U o U' L ({ frames := 0, cells := 0, slots := 0, locals := 0 } : Room).cells ({ frames := 0, cells := 0, slots := 0, locals := 0 } : Room).slots) := by
  refine MetFree.of_bodySF (plainFor_of_name pn_7) hisR ?_
  intro p e s m args below meth c s₁ Bd hml0 hP0 hK
  obtain ⟨rfl, hZ, hh⟩ := hP0
  have hx := Bd.exec
  have hby := Bd.bytes
  have hml : c.maxLocals = 2 := hml0
  have hown : s.vm.findClass oS7 = some m.cls := findClass_of_methodNamed Bd.named
  have hnm := (name_of_methodNamed Bd.named Bd.method).1
  have X0 : Stand p l e ({ frames := 0, cells := 0, slots := 0, locals := 0 } : Room) s m #[(.ref ax), (.int (1 : Int32))] below meth c s₁ [] 0 0 := Stand.of_body Bd
  have e0 : s₁.heap = h0 := by rw [← hh, Bd.state]; rfl
  have N0 := Fr.nil n0
  suffices own_H : ∀ (P : State → Outcome → Prop), (∀ U o, U.status = .running → Ended U below o → (∃ v L, o = .returned v ∧ Qrcd_1 Z ax ka vs h0 n0 v U.heap L ∧ FrameEnd s o U L ({ frames := 0, cells := 0, slots := 0, locals := 0 } : Room).cells ({ frames := 0, cells := 0, slots := 0, locals := 0 } : Room).slots) → P U o) → own_Go p.tables e below P (s₁.setTop (mkF m 0 #[oR ax, oi 1] [])) from own_go (fun _ k => castTop (ef_rcd_1 m ax (1 : Int32)) k) (own_H _ (fun U o h1 h2 h3 => ⟨h1, h2, h3⟩))
  intro P hP
  have lt_ax : @LT.lt Nat _ ax h0.size := pr1.lt
  refine own_go (st' := s₁.setTop (mkF m 1 #[oR ax, oi 1] [(.int (1 : Int32))])) (fun _ k => XS.iloadN X0.here hx rfl (hb hby d7_0) rfl k) ?_
  refine own_go (st' := s₁.setTop (mkF m 2 #[oR ax, oi 1] [(.ref ax), (.int (1 : Int32))])) (fun _ k => XS.aloadN X0.here hx rfl (hb hby d7_1) rfl rfl k) ?_
  obtain ⟨cl1, Ar1, -, S1, M1, -, -⟩ := id pr1
  refine own_go (st' := s₁.setTop (mkF m 3 #[oR ax, oi 1] [(.int (1 : Int32)), (.int (1 : Int32))])) (fun t k => X0.arraylength hx (by rw [e0]; exact Ar1.1) (State.isArrayOf_alike hZ.alike Ar1.2.1) (g := (mkF m 2 #[oR ax, oi 1] [(.ref ax), (.int (1 : Int32))])) rfl rfl (hb hby d7_2) t (by rw [len_of S1 M1]; exact k)) ?_
  refine own_go (st' := s₁.setTop (mkF m 4 #[oR ax, oi 1] [(.int (0 : Int32))])) (fun _ k => XS.isub X0.here hx rfl (hb hby d7_3) rfl (by rw [show ((1 : Int32) - (1 : Int32)) = (0 : Int32) by decide]; exact k)) ?_
  refine own_go (st' := s₁.setTop (mkF m 6 #[oR ax, oi 1] [(.int (31 : Int32)), (.int (0 : Int32))])) (fun _ k => XS.bipush X0.here hx rfl (hb hby d7_4) k) ?_
  refine own_go (st' := s₁.setTop (mkF m 7 #[oR ax, oi 1] [(.int (((0 : Int32).toUInt32 >>> ((31 : Int32) &&& 31).toUInt32).toInt32))])) (fun _ k => XS.iushr X0.here hx rfl (hb hby d7_6) rfl k) ?_
  refine own_go (st' := s₁.setTop (mkF m 8 #[oR ax, oi 1] [(.int (((0 : Int32).toUInt32 >>> ((31 : Int32) &&& 31).toUInt32).toInt32).toInt8.toInt32)])) (fun _ k => XS.i2b X0.here hx rfl (hb hby d7_7) rfl k) ?_
  obtain ⟨fs, hr, hrun, hended, hW, hsame⟩ := X0.leave (v := some (.int (nar .byte (((0 : Int32).toUInt32 >>> ((31 : Int32) &&& 31).toUInt32).toInt32).toInt8.toInt32))) (fun h => by rw [Bd.returns] at h; cases h)
  refine ⟨_, _, ?_, hP _ _ hrun hended ⟨_, _, rfl, ?_, ⟨_, rfl⟩, hW, hsame.mono (by decide) (by decide)⟩⟩
  · exact retN X0 hx (t := .byte) Bd.returns (by simp) (hb hby d7_8) hr
  · show Qrcd_1 Z ax ka vs h0 n0 _ s₁.heap _
    rw [e0]
    exact ⟨(congrArg (fun z => some (Value.int z)) (by decide +kernel)), N0, rfl⟩
theorem pd_3 : parseMethodDescriptor "([CII)[B" = some ⟨[(.array .char), .int, .int], some (.array .byte)⟩ := by decide +kernel
theorem pd_4 : parseMethodDescriptor "([BI)B" = some ⟨[(.array .byte), .int], some .byte⟩ := by decide +kernel
theorem d3_0 : decode jdk_42_method_149_code 0 = .ok (.aload_n 0, 1) := by decide +kernel
theorem d3_1 : decode jdk_42_method_149_code 1 = .ok (.invokespecial 1, 3) := by decide +kernel
theorem d3_4 : decode jdk_42_method_149_code 4 = .ok (.iload_n 3, 1) := by decide +kernel
theorem d3_5 : decode jdk_42_method_149_code 5 = .ok (.ifCond .ne 22, 3) := by decide +kernel
theorem d3_27 : decode jdk_42_method_149_code 27 = .ok (.getstatic 38, 3) := by decide +kernel
theorem d3_30 : decode jdk_42_method_149_code 30 = .ok (.ifCond .eq 28, 3) := by decide +kernel
theorem d3_33 : decode jdk_42_method_149_code 33 = .ok (.aload_n 1, 1) := by decide +kernel
theorem d3_34 : decode jdk_42_method_149_code 34 = .ok (.iload_n 2, 1) := by decide +kernel
theorem d3_35 : decode jdk_42_method_149_code 35 = .ok (.iload_n 3, 1) := by decide +kernel
theorem d3_36 : decode jdk_42_method_149_code 36 = .ok (.invokestatic 177, 3) := by decide +kernel
theorem d3_39 : decode jdk_42_method_149_code 39 = .ok (.astore 5, 2) := by decide +kernel
theorem d3_41 : decode jdk_42_method_149_code 41 = .ok (.aload_n 0, 1) := by decide +kernel
theorem d3_42 : decode jdk_42_method_149_code 42 = .ok (.aload 5, 2) := by decide +kernel
theorem d3_44 : decode jdk_42_method_149_code 44 = .ok (.iload_n 3, 1) := by decide +kernel
theorem d3_45 : decode jdk_42_method_149_code 45 = .ok (.invokestatic 47, 3) := by decide +kernel
theorem d3_48 : decode jdk_42_method_149_code 48 = .ok (.putfield 15, 3) := by decide +kernel
theorem d3_51 : decode jdk_42_method_149_code 51 = .ok (.aload_n 0, 1) := by decide +kernel
theorem d3_52 : decode jdk_42_method_149_code 52 = .ok (.aload 5, 2) := by decide +kernel
theorem d3_54 : decode jdk_42_method_149_code 54 = .ok (.putfield 9, 3) := by decide +kernel
theorem d3_57 : decode jdk_42_method_149_code 57 = .ok (.return_, 1) := by decide +kernel
theorem pn_3 : plainName "java/lang/String" = true := by first | (simp [plainName, overriddenIn]; done) | decide +kernel
theorem ef_rsi_1 (m : MethodId) (x0 : Addr) (x1 : Addr) (x2 : Int32) (x3 : Int32) : entryFrame m #[(.ref x0), (.ref x1), (.int x2), (.int x3), .null] 6 = mkF m 0 #[.val (.ref x0), .val (.ref x1), .val (.int x2), .val (.int x3), .val .null, .unset] [] := by first | (simp [entryFrame, mkF, argsToLocals, Value.category]; done) | rfl
def Qrsi_1 (Z : State) (a1 : Addr) (ax : Addr) (ka : ClassId) (zc : Int32) (u0 : Int32) (h0 : Heap) (n0 : Nat) (v : Option Value) (h : Heap) (L : List Loc) : Prop := ∃ (r : Addr) (kr : ClassId), (v = none) ∧ (Fr n0 L) ∧ (Keep h0 h [a1]) ∧ (Exa Z h a1 "java/lang/String") ∧ (Fld Z h a1 "java/lang/String" "value" "[B" (.ref r)) ∧ (Fld Z h a1 "java/lang/String" "coder" "B" (.int (0 : Int32))) ∧ (Arv Z h r kr .byte (1 : Int32) [(.int (own_by u0))] (.int (0 : Int32))) ∧ (h0.size ≤ r)
set_option maxRecDepth 65536 in
set_option maxHeartbeats 40000000 in
theorem rsi_1 (l : Launch) (Z : State) (a0 : Array Value) (hw : ∀ d ∈ tables_1, d.before a0 Z = true) (ws : List Jvm.Cond) (a1 : Addr) (ax : Addr) (ka : ClassId) (zc : Int32) (u0 : Int32) (h0 : Heap) (n0 : Nat) (Z0 : n0 ≤ h0.size) (pr1 : Exa Z h0 a1 "java/lang/String") (pr2 : Fld Z h0 a1 "java/lang/String" "value" "[B" .null) (pr3 : Fld Z h0 a1 "java/lang/String" "coder" "B" (.int (0 : Int32))) (pr4 : Arv Z h0 ax ka .char (1 : Int32) [(.int u0)] (.int (0 : Int32))) (pr5 : Sta Z h0 "java/lang/String" "COMPACT_STRINGS" "Z" (.int zc)) (hzc : ¬ zc = (0 : Int32)) (hl_u0 : own_lat u0) (pr6 : n0 ≤ a1) (pr7 : @Ne Nat a1 ax) :
    MetFree l oM10 (head1 (Jvm.Cond.code oM10 jdk_42_method_149_code 6 none :: ws) ({ frames := 2, cells := 1, slots := 1, locals := 35 } : Room)) (fun a U => a = #[(.ref a1), (.ref ax), (.int (0 : Int32)), (.int (1 : Int32)), .null] ∧ Z.Warmed39 U.vm ∧ U.heap = h0) (fun _ _ _ _ _ => True) (fun _ U o U' => ∃ v L, o = .returned v ∧ Qrsi_1 Z a1 ax ka zc u0 h0 n0 v U'.heap L ∧ FrameEnd U o U' L ({ frames := 2, cells := 1, slots := 1, locals := 35 } : Room).cells ({ frames := 2, cells := 1, slots := 1, locals := 35 } : Room).slots) := by
  refine MetFree.of_bodySF (plainFor_of_name pn_3) hisR ?_
  intro p e s m args below meth c s₁ Bd hml0 hP0 hK
  obtain ⟨rfl, hZ, hh⟩ := hP0
  have hx := Bd.exec
  have hby := Bd.bytes
  have hml : c.maxLocals = 6 := hml0
  have hown : s.vm.findClass oS0 = some m.cls := findClass_of_methodNamed Bd.named
  have hnm := (name_of_methodNamed Bd.named Bd.method).1
  have X0 : Stand p l e ({ frames := 2, cells := 1, slots := 1, locals := 35 } : Room) s m #[(.ref a1), (.ref ax), (.int (0 : Int32)), (.int (1 : Int32)), .null] below meth c s₁ [] 0 0 := Stand.of_body Bd
  have e0 : s₁.heap = h0 := by rw [← hh, Bd.state]; rfl
  have N0 := Fr.nil n0
  suffices own_H : ∀ (P : State → Outcome → Prop), (∀ U o, U.status = .running → Ended U below o → (∃ v L, o = .returned v ∧ Qrsi_1 Z a1 ax ka zc u0 h0 n0 v U.heap L ∧ FrameEnd s o U L ({ frames := 2, cells := 1, slots := 1, locals := 35 } : Room).cells ({ frames := 2, cells := 1, slots := 1, locals := 35 } : Room).slots) → P U o) → own_Go p.tables e below P (s₁.setTop (mkF m 0 #[oR a1, oR ax, oi 0, oi 1, .val .null, .unset] [])) from own_go (fun _ k => castTop (ef_rsi_1 m a1 ax (0 : Int32) (1 : Int32)) k) (own_H _ (fun U o h1 h2 h3 => ⟨h1, h2, h3⟩))
  intro P hP
  have lt_a1 : @LT.lt Nat _ a1 h0.size := pr1.lt
  have lt_ax : @LT.lt Nat _ ax h0.size := pr4.lt
  refine own_go (st' := s₁.setTop (mkF m 1 #[oR a1, oR ax, oi 0, oi 1, .val .null, .unset] [(.ref a1)])) (fun _ k => XS.aloadN X0.here hx rfl (hb hby d3_0) rfl rfl k) ?_
  obtain ⟨T1, X1, e1, st1⟩ := initO X0 hx hZ hown (own_hw hw 16) (own_hw hw 17) (own_hw hw 18) e0 (g := (mkF m 1 #[oR a1, oR ax, oi 0, oi 1, .val .null, .unset] [(.ref a1)])) rfl (by rw [hml]; rfl) rfl (hb hby d3_1) (by decide) (W := 0) (by show 2 * 0 + _ ≤ _; exact Nat.le_of_eq rfl) (by decide)
  refine own_go (st' := T1.setTop (mkF m 4 #[oR a1, oR ax, oi 0, oi 1, .val .null, .unset] [])) (st1) ?_
  refine own_go (st' := T1.setTop (mkF m 5 #[oR a1, oR ax, oi 0, oi 1, .val .null, .unset] [(.int (1 : Int32))])) (fun _ k => XS.iloadN X1.here hx rfl (hb hby d3_4) rfl k) ?_
  have hc2 : ¬ ((1 : Int32) = (0 : Int32)) := by decide
  refine own_go (st' := T1.setTop (mkF m 27 #[oR a1, oR ax, oi 0, oi 1, .val .null, .unset] [])) (fun _ k => XS.ifYes X1.here hx rfl (pc0 := 5) (pc' := 27) rfl (hb hby d3_5) rfl ((if0 _ _).trans (feq hc2).2) (by decide) (by decide) k) ?_
  obtain ⟨T3, X3, e3, st3⟩ := getS2 X1 hx hZ hown (host := "") (Or.inl (own_hw hw 19)) Via.refl e1 pr5 (g := (mkF m 27 #[oR a1, oR ax, oi 0, oi 1, .val .null, .unset] [])) rfl (hb hby d3_27)
  refine own_go (st' := T3.setTop (mkF m 30 #[oR a1, oR ax, oi 0, oi 1, .val .null, .unset] [(.int zc)])) (st3) ?_
  have hc4 : ¬ (zc = (0 : Int32)) := hzc
  refine own_go (st' := T3.setTop (mkF m 33 #[oR a1, oR ax, oi 0, oi 1, .val .null, .unset] [])) (fun _ k => XS.ifNo X3.here hx rfl (hb hby d3_30) rfl ((if0 _ _).trans (feq hc4).1) k) ?_
  refine own_go (st' := T3.setTop (mkF m 34 #[oR a1, oR ax, oi 0, oi 1, .val .null, .unset] [(.ref ax)])) (fun _ k => XS.aloadN X3.here hx rfl (hb hby d3_33) rfl rfl k) ?_
  refine own_go (st' := T3.setTop (mkF m 35 #[oR a1, oR ax, oi 0, oi 1, .val .null, .unset] [(.int (0 : Int32)), (.ref ax)])) (fun _ k => XS.iloadN X3.here hx rfl (hb hby d3_34) rfl k) ?_
  refine own_go (st' := T3.setTop (mkF m 36 #[oR a1, oR ax, oi 0, oi 1, .val .null, .unset] [(.int (1 : Int32)), (.int (0 : Int32)), (.ref ax)])) (fun _ k => XS.iloadN X3.here hx rfl (hb hby d3_35) rfl k) ?_
  obtain ⟨_, _, ⟨T5, LC5, kC5, nC5⟩, -, X5, ⟨Lc5, hQ5, lq5, yq5, zq5⟩, st5⟩ := Jvm.LawKit.callS X3 hx (y := oM8) hown (mvT hZ (own_hw hw 20)) (mvT hZ (own_hw hw 21)) (mvT hZ (own_hw hw 22)) (mvT hZ (own_hw hw 23)) (by decide) (backOf (W := 0) (rcq_1 l Z a0 hw [] ax ka u0 h0 n0 (by omega) pr4 hl_u0) hZ (own_hw hw 23) (own_hw hw 22) (by decide) (by decide)) (g := (mkF m 36 #[oR a1, oR ax, oi 0, oi 1, .val .null, .unset] [(.int (1 : Int32)), (.int (0 : Int32)), (.ref ax)])) rfl (by rw [hml]; rfl) (argsL := [(.ref ax), (.int (0 : Int32)), (.int (1 : Int32))]) (rest := []) (lenOf pd_3 rfl) rfl (by show 2 * 0 + _ ≤ _; exact Nat.le_of_eq rfl) (hb hby d3_36) (fun _ _ => ⟨rfl, e3, (by decide : 0 + 1 ≤ _), (by decide : 0 + 1 ≤ _)⟩)
  dsimp only [Pt.U, Pt.locs, Pt.cells, Pt.slots] at X5 lq5 yq5 zq5 st5 hQ5
  subst lq5 yq5 zq5
  obtain ⟨h5, e5⟩ : ∃ z, T5.heap = z := ⟨_, rfl⟩
  rw [e5] at hQ5
  obtain ⟨r_5, kr_5, rfl, Nq5, K5, g5_0, g5_1⟩ := hQ5
  have sz5 : h0.size ≤ h5.size := K5.1
  have N5 := Fr.app N0 Nq5
  have lt5_1 : @LT.lt Nat _ r_5 h5.size := g5_0.lt
  refine own_go (st' := T5.setTop (mkF m 39 #[oR a1, oR ax, oi 0, oi 1, .val .null, .unset] [(.ref r_5)])) (fun t k => st5 t k) ?_
  refine own_go (st' := T5.setTop (mkF m 41 #[oR a1, oR ax, oi 0, oi 1, .val .null, oR r_5] [])) (fun _ k => XS.astore X5.here hx rfl (hb hby d3_39) rfl rfl (l' := #[oR a1, oR ax, oi 0, oi 1, .val .null, oR r_5]) rfl k) ?_
  refine own_go (st' := T5.setTop (mkF m 42 #[oR a1, oR ax, oi 0, oi 1, .val .null, oR r_5] [(.ref a1)])) (fun _ k => XS.aloadN X5.here hx rfl (hb hby d3_41) rfl rfl k) ?_
  refine own_go (st' := T5.setTop (mkF m 44 #[oR a1, oR ax, oi 0, oi 1, .val .null, oR r_5] [(.ref r_5), (.ref a1)])) (fun _ k => XS.aload X5.here hx rfl (hb hby d3_42) rfl rfl k) ?_
  refine own_go (st' := T5.setTop (mkF m 45 #[oR a1, oR ax, oi 0, oi 1, .val .null, oR r_5] [(.int (1 : Int32)), (.ref r_5), (.ref a1)])) (fun _ k => XS.iloadN X5.here hx rfl (hb hby d3_44) rfl k) ?_
  obtain ⟨_, _, ⟨T6, LC6, kC6, nC6⟩, -, X6, ⟨Lc6, hQ6, lq6, yq6, zq6⟩, st6⟩ := Jvm.LawKit.callS X5 hx (y := oM9) hown (mvT hZ (own_hw hw 28)) (mvT hZ (own_hw hw 29)) (mvT hZ (own_hw hw 22)) (mvT hZ (own_hw hw 30)) (by decide) (backOf (W := 1) (rcd_1 l Z a0 hw [] r_5 kr_5 [(.int (own_by u0))] h5 n0 (by omega) g5_0) hZ (own_hw hw 30) (own_hw hw 22) (by decide) (by decide)) (g := (mkF m 45 #[oR a1, oR ax, oi 0, oi 1, .val .null, oR r_5] [(.int (1 : Int32)), (.ref r_5), (.ref a1)])) rfl (by rw [hml]; rfl) (argsL := [(.ref r_5), (.int (1 : Int32))]) (rest := [(.ref a1)]) (lenOf pd_4 rfl) rfl (by show 2 * 0 + _ ≤ _; exact Nat.le_of_eq rfl) (hb hby d3_45) (fun _ _ => ⟨rfl, e5, (by decide : 1 + 0 ≤ _), (by decide : 1 + 0 ≤ _)⟩)
  dsimp only [Pt.U, Pt.locs, Pt.cells, Pt.slots] at X6 lq6 yq6 zq6 st6 hQ6
  subst lq6 yq6 zq6
  obtain ⟨rfl, Nq6, eq6⟩ := hQ6
  have N6 := Fr.app N5 Nq6
  refine own_go (st' := T6.setTop (mkF m 48 #[oR a1, oR ax, oi 0, oi 1, .val .null, oR r_5] [(.int (0 : Int32)), (.ref a1)])) (fun t k => st6 t k) ?_
  have c7 : Fld Z h5 a1 oS0 "coder" "B" (.int (0 : Int32)) := (pr3.keep K5 nin0)
  have c8 : Exa Z h5 a1 oS0 := (pr1.keep K5)
  obtain ⟨T9, h9, X9, e9, W9, st9⟩ := putFN X6 hx hZ hown (own_hw hw 31) Via.refl eq6 c7 c8 (Or.inr ⟨(own_hw hw 32), rfl, hnm⟩) (own_hw hw 6) (ty := .byte) (v' := (.int (0 : Int32))) (by decide) rfl rfl (g := (mkF m 48 #[oR a1, oR ax, oi 0, oi 1, .val .null, oR r_5] [(.int (0 : Int32)), (.ref a1)])) rfl rfl (hb hby d3_48)
  have sz9 : h9.size = h5.size := W9.size
  have N9 := Fr.snoc X9 N6 (by omega)
  have f9 : Fld Z h9 a1 oS0 "coder" "B" (.int (0 : Int32)) := c7.same W9
  refine own_go (st' := T9.setTop (mkF m 51 #[oR a1, oR ax, oi 0, oi 1, .val .null, oR r_5] [])) (st9) ?_
  refine own_go (st' := T9.setTop (mkF m 52 #[oR a1, oR ax, oi 0, oi 1, .val .null, oR r_5] [(.ref a1)])) (fun _ k => XS.aloadN X9.here hx rfl (hb hby d3_51) rfl rfl k) ?_
  refine own_go (st' := T9.setTop (mkF m 54 #[oR a1, oR ax, oi 0, oi 1, .val .null, oR r_5] [(.ref r_5), (.ref a1)])) (fun _ k => XS.aload X9.here hx rfl (hb hby d3_52) rfl rfl k) ?_
  have c10 : Fld Z h9 a1 oS0 "value" "[B" .null := ((pr2.keep K5 nin0).other W9 (Or.inr (slot_ne (Or.inr (own_hw hw 34)) (Or.inr (own_hw hw 32)) (by decide) (t := (.array .byte)) (t' := .byte) (by decide) (by decide))))
  have c11 : Exa Z h9 a1 oS0 := (c8.wr W9)
  obtain ⟨T12, h12, X12, e12, W12, st12⟩ := putF X9 hx hZ hown (host := "") (Or.inl (own_hw hw 33)) Via.refl e9 c10 c11 (Or.inr ⟨(own_hw hw 34), rfl, hnm⟩) (own_hw hw 6) (ty := (.array .byte)) (by decide) rfl rfl (g := (mkF m 54 #[oR a1, oR ax, oi 0, oi 1, .val .null, oR r_5] [(.ref r_5), (.ref a1)])) rfl rfl (hb hby d3_54)
  have sz12 : h12.size = h9.size := W12.size
  have N12 := Fr.snoc X12 N9 (by omega)
  have f12 : Fld Z h12 a1 oS0 "value" "[B" (.ref r_5) := c10.same W12
  refine own_go (st' := T12.setTop (mkF m 57 #[oR a1, oR ax, oi 0, oi 1, .val .null, oR r_5] [])) (st12) ?_
  obtain ⟨fs, hr, hrun, hended, hW, hsame⟩ := X12.leave (v := none) (fun _ => rfl)
  refine ⟨_, _, ?_, hP _ _ hrun hended ⟨_, _, rfl, ?_, ⟨_, rfl⟩, hW, hsame.mono (by decide) (by decide)⟩⟩
  · exact X12.returnOut hx Bd.returns (hb hby d3_57) hr
  · show Qrsi_1 Z a1 ax ka zc u0 h0 n0 _ T12.heap _
    have c14 : Exa Z h12 a1 oS0 := (c11.wr W12)
    have c15 : Fld Z h12 a1 oS0 "coder" "B" (.int (0 : Int32)) := (f9.other W12 (Or.inr (slot_ne (Or.inr (own_hw hw 32)) (Or.inr (own_hw hw 34)) (by decide) (t := .byte) (t' := (.array .byte)) (by decide) (by decide))))
    have c16 : Arv Z h12 r_5 kr_5 .byte (1 : Int32) [(.int (own_by u0))] (.int (0 : Int32)) := ((g5_0.other W9 (own_ne (by omega))).other W12 (own_ne (by omega)))
    rw [e12]
    exact ⟨r_5, kr_5, rfl, N12, ((((Keep.refl h0 [a1]).trans K5 all0).wr W9 (Or.inl (List.mem_of_getElem? (i := 0) rfl))).wr W12 (Or.inl (List.mem_of_getElem? (i := 0) rfl))), c14, f12, c15, c16, (by omega)⟩
theorem pd_5 : parseMethodDescriptor "([CIILjava/lang/Void;)V" = some ⟨[(.array .char), .int, .int, (.object "java/lang/Void")], none⟩ := by decide +kernel
theorem d2_0 : decode jdk_42_method_3_code 0 = .ok (.aload_n 0, 1) := by decide +kernel
theorem d2_1 : decode jdk_42_method_3_code 1 = .ok (.aload_n 1, 1) := by decide +kernel
theorem d2_2 : decode jdk_42_method_3_code 2 = .ok (.iconst 0, 1) := by decide +kernel
theorem d2_3 : decode jdk_42_method_3_code 3 = .ok (.aload_n 1, 1) := by decide +kernel
theorem d2_4 : decode jdk_42_method_3_code 4 = .ok (.arraylength, 1) := by decide +kernel
theorem d2_5 : decode jdk_42_method_3_code 5 = .ok (.aconst_null, 1) := by decide +kernel
theorem d2_6 : decode jdk_42_method_3_code 6 = .ok (.invokespecial 27, 3) := by decide +kernel
theorem d2_9 : decode jdk_42_method_3_code 9 = .ok (.return_, 1) := by decide +kernel
theorem pn_2 : plainName "java/lang/String" = true := by first | (simp [plainName, overriddenIn]; done) | decide +kernel
theorem ef_rsc_1 (m : MethodId) (x0 : Addr) (x1 : Addr) : entryFrame m #[(.ref x0), (.ref x1)] 2 = mkF m 0 #[.val (.ref x0), .val (.ref x1)] [] := by first | (simp [entryFrame, mkF, argsToLocals, Value.category]; done) | rfl
def Qrsc_1 (Z : State) (a1 : Addr) (ax : Addr) (ka : ClassId) (zc : Int32) (u0 : Int32) (h0 : Heap) (n0 : Nat) (v : Option Value) (h : Heap) (L : List Loc) : Prop := ∃ (r : Addr) (kr : ClassId), (v = none) ∧ (Fr n0 L) ∧ (Keep h0 h [a1]) ∧ (Exa Z h a1 "java/lang/String") ∧ (Fld Z h a1 "java/lang/String" "value" "[B" (.ref r)) ∧ (Fld Z h a1 "java/lang/String" "coder" "B" (.int (0 : Int32))) ∧ (Arv Z h r kr .byte (1 : Int32) [(.int (own_by u0))] (.int (0 : Int32))) ∧ (h0.size ≤ r)
set_option maxRecDepth 65536 in
set_option maxHeartbeats 40000000 in
theorem rsc_1 (l : Launch) (Z : State) (a0 : Array Value) (hw : ∀ d ∈ tables_1, d.before a0 Z = true) (ws : List Jvm.Cond) (a1 : Addr) (ax : Addr) (ka : ClassId) (zc : Int32) (u0 : Int32) (h0 : Heap) (n0 : Nat) (Z0 : n0 ≤ h0.size) (pr1 : Exa Z h0 a1 "java/lang/String") (pr2 : Fld Z h0 a1 "java/lang/String" "value" "[B" .null) (pr3 : Fld Z h0 a1 "java/lang/String" "coder" "B" (.int (0 : Int32))) (pr4 : Arv Z h0 ax ka .char (1 : Int32) [(.int u0)] (.int (0 : Int32))) (pr5 : Sta Z h0 "java/lang/String" "COMPACT_STRINGS" "Z" (.int zc)) (hzc : ¬ zc = (0 : Int32)) (hl_u0 : own_lat u0) (pr6 : n0 ≤ a1) (pr7 : @Ne Nat a1 ax) :
    MetFree l oM11 (head1 (Jvm.Cond.code oM11 jdk_42_method_3_code 2 none :: ws) ({ frames := 3, cells := 1, slots := 1, locals := 52 } : Room)) (fun a U => a = #[(.ref a1), (.ref ax)] ∧ Z.Warmed39 U.vm ∧ U.heap = h0) (fun _ _ _ _ _ => True) (fun _ U o U' => ∃ v L, o = .returned v ∧ Qrsc_1 Z a1 ax ka zc u0 h0 n0 v U'.heap L ∧ FrameEnd U o U' L ({ frames := 3, cells := 1, slots := 1, locals := 52 } : Room).cells ({ frames := 3, cells := 1, slots := 1, locals := 52 } : Room).slots) := by
  refine MetFree.of_bodySF (plainFor_of_name pn_2) hisR ?_
  intro p e s m args below meth c s₁ Bd hml0 hP0 hK
  obtain ⟨rfl, hZ, hh⟩ := hP0
  have hx := Bd.exec
  have hby := Bd.bytes
  have hml : c.maxLocals = 2 := hml0
  have hown : s.vm.findClass oS0 = some m.cls := findClass_of_methodNamed Bd.named
  have hnm := (name_of_methodNamed Bd.named Bd.method).1
  have X0 : Stand p l e ({ frames := 3, cells := 1, slots := 1, locals := 52 } : Room) s m #[(.ref a1), (.ref ax)] below meth c s₁ [] 0 0 := Stand.of_body Bd
  have e0 : s₁.heap = h0 := by rw [← hh, Bd.state]; rfl
  have N0 := Fr.nil n0
  suffices own_H : ∀ (P : State → Outcome → Prop), (∀ U o, U.status = .running → Ended U below o → (∃ v L, o = .returned v ∧ Qrsc_1 Z a1 ax ka zc u0 h0 n0 v U.heap L ∧ FrameEnd s o U L ({ frames := 3, cells := 1, slots := 1, locals := 52 } : Room).cells ({ frames := 3, cells := 1, slots := 1, locals := 52 } : Room).slots) → P U o) → own_Go p.tables e below P (s₁.setTop (mkF m 0 #[oR a1, oR ax] [])) from own_go (fun _ k => castTop (ef_rsc_1 m a1 ax) k) (own_H _ (fun U o h1 h2 h3 => ⟨h1, h2, h3⟩))
  intro P hP
  have lt_a1 : @LT.lt Nat _ a1 h0.size := pr1.lt
  have lt_ax : @LT.lt Nat _ ax h0.size := pr4.lt
  refine own_go (st' := s₁.setTop (mkF m 1 #[oR a1, oR ax] [(.ref a1)])) (fun _ k => XS.aloadN X0.here hx rfl (hb hby d2_0) rfl rfl k) ?_
  refine own_go (st' := s₁.setTop (mkF m 2 #[oR a1, oR ax] [(.ref ax), (.ref a1)])) (fun _ k => XS.aloadN X0.here hx rfl (hb hby d2_1) rfl rfl k) ?_
  refine own_go (st' := s₁.setTop (mkF m 3 #[oR a1, oR ax] [(.int (0 : Int32)), (.ref ax), (.ref a1)])) (fun _ k => XS.iconst X0.here hx rfl (hb hby d2_2) k) ?_
  refine own_go (st' := s₁.setTop (mkF m 4 #[oR a1, oR ax] [(.ref ax), (.int (0 : Int32)), (.ref ax), (.ref a1)])) (fun _ k => XS.aloadN X0.here hx rfl (hb hby d2_3) rfl rfl k) ?_
  obtain ⟨cl1, Ar1, -, S1, M1, -, -⟩ := id pr4
  refine own_go (st' := s₁.setTop (mkF m 5 #[oR a1, oR ax] [(.int (1 : Int32)), (.int (0 : Int32)), (.ref ax), (.ref a1)])) (fun t k => X0.arraylength hx (by rw [e0]; exact Ar1.1) (State.isArrayOf_alike hZ.alike Ar1.2.1) (g := (mkF m 4 #[oR a1, oR ax] [(.ref ax), (.int (0 : Int32)), (.ref ax), (.ref a1)])) rfl rfl (hb hby d2_4) t (by rw [len_of S1 M1]; exact k)) ?_
  refine own_go (st' := s₁.setTop (mkF m 6 #[oR a1, oR ax] [.null, (.int (1 : Int32)), (.int (0 : Int32)), (.ref ax), (.ref a1)])) (fun _ k => XS.aconstNull X0.here hx rfl (hb hby d2_5) k) ?_
  obtain ⟨_, _, ⟨T2, LC2, kC2, nC2⟩, -, X2, ⟨Lc2, hQ2, lq2, yq2, zq2⟩, st2⟩ := X0.specialBack hx (y := oM10) rfl hown (mvT hZ (own_hw hw 12)) (mvT hZ (own_hw hw 13)) (mvT hZ (own_hw hw 15)) (by decide) (backOf (W := 0) (rsi_1 l Z a0 hw [] a1 ax ka zc u0 h0 n0 (by omega) pr1 pr2 pr3 pr4 pr5 (by assumption) hl_u0 (by omega) (own_ne (by omega))) hZ (own_hw hw 15) (own_hw hw 7) (by decide) (by decide)) (g := (mkF m 6 #[oR a1, oR ax] [.null, (.int (1 : Int32)), (.int (0 : Int32)), (.ref ax), (.ref a1)])) rfl (by rw [hml]; rfl) (Steps.refl _) (a := a1) (argsL := [(.ref ax), (.int (0 : Int32)), (.int (1 : Int32)), .null]) (rest := []) (lenOf pd_5 rfl) rfl (by show 2 * 0 + _ ≤ _; exact Nat.le_of_eq rfl) (hb hby d2_6) (fun _ _ => ⟨rfl, e0, (by decide : 0 + 1 ≤ _), (by decide : 0 + 1 ≤ _)⟩)
  dsimp only [Pt.U, Pt.locs, Pt.cells, Pt.slots] at X2 lq2 yq2 zq2 st2 hQ2
  subst lq2 yq2 zq2
  obtain ⟨h2, e2⟩ : ∃ z, T2.heap = z := ⟨_, rfl⟩
  rw [e2] at hQ2
  obtain ⟨r_2, kr_2, rfl, Nq2, K2, g2_0, g2_1, g2_2, g2_3, g2_4⟩ := hQ2
  have sz2 : h0.size ≤ h2.size := K2.1
  have N2 := Fr.app N0 Nq2
  have lt2_1 : @LT.lt Nat _ a1 h2.size := g2_0.lt
  have lt2_2 : @LT.lt Nat _ r_2 h2.size := g2_3.lt
  refine own_go (st' := T2.setTop (mkF m 9 #[oR a1, oR ax] [])) (fun _ k => st2.trans k) ?_
  obtain ⟨fs, hr, hrun, hended, hW, hsame⟩ := X2.leave (v := none) (fun _ => rfl)
  refine ⟨_, _, ?_, hP _ _ hrun hended ⟨_, _, rfl, ?_, ⟨_, rfl⟩, hW, hsame.mono (by decide) (by decide)⟩⟩
  · exact X2.returnOut hx Bd.returns (hb hby d2_9) hr
  · show Qrsc_1 Z a1 ax ka zc u0 h0 n0 _ T2.heap _
    rw [e2]
    exact ⟨r_2, kr_2, rfl, N2, ((Keep.refl h0 [a1]).trans K2 (allS (P := fun x => x ∈ [a1] ∨ h0.size ≤ x) (Or.inl (List.mem_of_getElem? (i := 0) rfl)) all0)), g2_0, g2_1, g2_2, g2_3, (by omega)⟩
theorem ef_rcp_2 (m : MethodId) (x0 : Addr) (x1 : Int32) (x2 : Addr) (x3 : Int32) (x4 : Int32) : entryFrame m #[(.ref x0), (.int x1), (.ref x2), (.int x3), (.int x4)] 7 = mkF m 0 #[.val (.ref x0), .val (.int x1), .val (.ref x2), .val (.int x3), .val (.int x4), .unset, .unset] [] := by first | (simp [entryFrame, mkF, argsToLocals, Value.category]; done) | rfl
def Qrcp_2 (Z : State) (ax : Addr) (ka : ClassId) (ay : Addr) (kb : ClassId) (u0 : Int32) (u1 : Int32) (h0 : Heap) (n0 : Nat) (v : Option Value) (h : Heap) (L : List Loc) : Prop := (v = some (.int (2 : Int32))) ∧ (Fr n0 L) ∧ (Keep h0 h [ay]) ∧ (Arv Z h ay kb .byte (2 : Int32) [(.int (own_by u0)), (.int (own_by u1))] (.int (0 : Int32)))
set_option maxRecDepth 65536 in
set_option maxHeartbeats 40000000 in
theorem rcp_2 (l : Launch) (Z : State) (a0 : Array Value) (hw : ∀ d ∈ tables_1, d.before a0 Z = true) (ws : List Jvm.Cond) (ax : Addr) (ka : ClassId) (ay : Addr) (kb : ClassId) (u0 : Int32) (u1 : Int32) (h0 : Heap) (n0 : Nat) (Z0 : n0 ≤ h0.size) (pr1 : Arv Z h0 ax ka .char (2 : Int32) [(.int u0), (.int u1)] (.int (0 : Int32))) (pr2 : Arv Z h0 ay kb .byte (2 : Int32) [(.int (0 : Int32)), (.int (0 : Int32))] (.int (0 : Int32))) (pr3 : n0 ≤ ay) (pr4 : @Ne Nat ax ay) (hl_u0 : own_lat u0) (hl_u1 : own_lat u1) :
    MetFree l oM7 (head1 (Jvm.Cond.code oM7 jdk_52_method_21_code 7 (some .int) :: ws) ({ frames := 0, cells := 0, slots := 0, locals := 0 } : Room)) (fun a U => a = #[(.ref ax), (.int (0 : Int32)), (.ref ay), (.int (0 : Int32)), (.int (2 : Int32))] ∧ Z.Warmed39 U.vm ∧ U.heap = h0) (fun _ _ _ _ _ => True) (fun _ U o U' => ∃ v L, o = .returned v ∧ Qrcp_2 Z ax ka ay kb u0 u1 h0 n0 v U'.heap L ∧ FrameEnd U o U' L ({ frames := 0, cells := 0, slots := 0, locals := 0 } : Room).cells ({ frames := 0, cells := 0, slots := 0, locals := 0 } : Room).slots) := by
  refine MetFree.of_bodySF (plainFor_of_name pn_6) hisR ?_
  intro p e s m args below meth c s₁ Bd hml0 hP0 hK
  obtain ⟨rfl, hZ, hh⟩ := hP0
  have hx := Bd.exec
  have hby := Bd.bytes
  have hml : c.maxLocals = 7 := hml0
  have hown : s.vm.findClass oS7 = some m.cls := findClass_of_methodNamed Bd.named
  have hnm := (name_of_methodNamed Bd.named Bd.method).1
  have X0 : Stand p l e ({ frames := 0, cells := 0, slots := 0, locals := 0 } : Room) s m #[(.ref ax), (.int (0 : Int32)), (.ref ay), (.int (0 : Int32)), (.int (2 : Int32))] below meth c s₁ [] 0 0 := Stand.of_body Bd
  have e0 : s₁.heap = h0 := by rw [← hh, Bd.state]; rfl
  have N0 := Fr.nil n0
  suffices own_H : ∀ (P : State → Outcome → Prop), (∀ U o, U.status = .running → Ended U below o → (∃ v L, o = .returned v ∧ Qrcp_2 Z ax ka ay kb u0 u1 h0 n0 v U.heap L ∧ FrameEnd s o U L ({ frames := 0, cells := 0, slots := 0, locals := 0 } : Room).cells ({ frames := 0, cells := 0, slots := 0, locals := 0 } : Room).slots) → P U o) → own_Go p.tables e below P (s₁.setTop (mkF m 0 #[oR ax, oi 0, oR ay, oi 0, oi 2, .unset, .unset] [])) from own_go (fun _ k => castTop (ef_rcp_2 m ax (0 : Int32) ay (0 : Int32) (2 : Int32)) k) (own_H _ (fun U o h1 h2 h3 => ⟨h1, h2, h3⟩))
  intro P hP
  have lt_ax : @LT.lt Nat _ ax h0.size := pr1.lt
  have lt_ay : @LT.lt Nat _ ay h0.size := pr2.lt
  refine own_go (st' := s₁.setTop (mkF m 1 #[oR ax, oi 0, oR ay, oi 0, oi 2, .unset, .unset] [(.int (0 : Int32))])) (fun _ k => XS.iconst X0.here hx rfl (hb hby d6_0) k) ?_
  refine own_go (st' := s₁.setTop (mkF m 3 #[oR ax, oi 0, oR ay, oi 0, oi 2, oi 0, .unset] [])) (fun _ k => XS.istore X0.here hx rfl (hb hby d6_1) rfl (l' := #[oR ax, oi 0, oR ay, oi 0, oi 2, oi 0, .unset]) rfl k) ?_
  refine own_go (st' := s₁.setTop (mkF m 5 #[oR ax, oi 0, oR ay, oi 0, oi 2, oi 0, .unset] [(.int (0 : Int32))])) (fun _ k => XS.iload X0.here hx rfl (hb hby d6_3) rfl k) ?_
  refine own_go (st' := s₁.setTop (mkF m 7 #[oR ax, oi 0, oR ay, oi 0, oi 2, oi 0, .unset] [(.int (2 : Int32)), (.int (0 : Int32))])) (fun _ k => XS.iload X0.here hx rfl (hb hby d6_5) rfl k) ?_
  have hc1 : (0 : Int32) < (2 : Int32) := by decide
  refine own_go (st' := s₁.setTop (mkF m 10 #[oR ax, oi 0, oR ay, oi 0, oi 2, oi 0, .unset] [])) (fun _ k => XS.icmpNo X0.here hx rfl (hb hby d6_7) rfl (tlt hc1).2.1 k) ?_
  refine own_go (st' := s₁.setTop (mkF m 11 #[oR ax, oi 0, oR ay, oi 0, oi 2, oi 0, .unset] [(.ref ax)])) (fun _ k => XS.aloadN X0.here hx rfl (hb hby d6_10) rfl rfl k) ?_
  refine own_go (st' := s₁.setTop (mkF m 12 #[oR ax, oi 0, oR ay, oi 0, oi 2, oi 0, .unset] [(.int (0 : Int32)), (.ref ax)])) (fun _ k => XS.iloadN X0.here hx rfl (hb hby d6_11) rfl k) ?_
  obtain ⟨cl2, Ar2, -, S2, M2, H2, -⟩ := id pr1
  have hin2 : ¬ ((0 : Int32) < 0 ∨ cl2.slots.size ≤ ((0 : Int32)).toNatClampNeg) := (inb_of S2 ⟨by decide, by decide⟩)
  have hat2 : cl2.slots[((0 : Int32)).toNatClampNeg]? = some (.int u0) := (H2.at hin2 rfl)
  refine own_go (st' := s₁.setTop (mkF m 13 #[oR ax, oi 0, oR ay, oi 0, oi 2, oi 0, .unset] [(.int u0)])) (X0.caload hx (j := (0 : Int32)) (v := (.int u0)) (by rw [e0]; exact Ar2.1) (State.isArrayOf_alike hZ.alike Ar2.2.1) Ar2.2.2 hin2 hat2 (g := (mkF m 12 #[oR ax, oi 0, oR ay, oi 0, oi 2, oi 0, .unset] [(.int (0 : Int32)), (.ref ax)])) rfl rfl (hb hby d6_12)) ?_
  refine own_go (st' := s₁.setTop (mkF m 15 #[oR ax, oi 0, oR ay, oi 0, oi 2, oi 0, oi u0] [])) (fun _ k => XS.istore X0.here hx rfl (hb hby d6_13) rfl (l' := #[oR ax, oi 0, oR ay, oi 0, oi 2, oi 0, oi u0]) rfl k) ?_
  refine own_go (st' := s₁.setTop (mkF m 17 #[oR ax, oi 0, oR ay, oi 0, oi 2, oi 0, oi u0] [(.int u0)])) (fun _ k => XS.iload X0.here hx rfl (hb hby d6_15) rfl k) ?_
  refine own_go (st' := s₁.setTop (mkF m 20 #[oR ax, oi 0, oR ay, oi 0, oi 2, oi 0, oi u0] [(.int (255 : Int32)), (.int u0)])) (fun _ k => XS.sipush X0.here hx rfl (hb hby d6_17) k) ?_
  have hc3 : ¬ ((255 : Int32) < u0) := (own_lat_le hl_u0)
  refine own_go (st' := s₁.setTop (mkF m 26 #[oR ax, oi 0, oR ay, oi 0, oi 2, oi 0, oi u0] [])) (fun _ k => XS.icmpYes X0.here hx rfl (pc0 := 20) (pc' := 26) rfl (hb hby d6_20) rfl (flt hc3).2.2.2 (by decide) (by decide) k) ?_
  refine own_go (st' := s₁.setTop (mkF m 27 #[oR ax, oi 0, oR ay, oi 0, oi 2, oi 0, oi u0] [(.ref ay)])) (fun _ k => XS.aloadN X0.here hx rfl (hb hby d6_26) rfl rfl k) ?_
  refine own_go (st' := s₁.setTop (mkF m 28 #[oR ax, oi 0, oR ay, oi 0, oi 2, oi 0, oi u0] [(.int (0 : Int32)), (.ref ay)])) (fun _ k => XS.iloadN X0.here hx rfl (hb hby d6_27) rfl k) ?_
  refine own_go (st' := s₁.setTop (mkF m 30 #[oR ax, oi 0, oR ay, oi 0, oi 2, oi 0, oi u0] [(.int u0), (.int (0 : Int32)), (.ref ay)])) (fun _ k => XS.iload X0.here hx rfl (hb hby d6_28) rfl k) ?_
  refine own_go (st' := s₁.setTop (mkF m 31 #[oR ax, oi 0, oR ay, oi 0, oi 2, oi 0, oi u0] [(.int u0.toInt8.toInt32), (.int (0 : Int32)), (.ref ay)])) (fun _ k => XS.i2b X0.here hx rfl (hb hby d6_30) rfl k) ?_
  obtain ⟨cl4, Ar4, qc4, S4, M4, H4, G4⟩ := id pr2
  have hin4 : ¬ ((0 : Int32) < 0 ∨ cl4.slots.size ≤ ((0 : Int32)).toNatClampNeg) := (inb_of S4 ⟨by decide, by decide⟩)
  obtain ⟨T4, h4, X4, e4, W4, st4⟩ := stB X0 hx hZ e0 Ar4 (j := (0 : Int32)) hin4 (g := (mkF m 31 #[oR ax, oi 0, oR ay, oi 0, oi 2, oi 0, oi u0] [(.int u0.toInt8.toInt32), (.int (0 : Int32)), (.ref ay)])) rfl rfl (hb hby d6_31)
  have sz4 : h4.size = h0.size := W4.size
  have N4 := Fr.snoc X4 N0 (by omega)
  have v4 : Arv Z h4 ay kb .byte (2 : Int32) [(.int (nar .byte u0.toInt8.toInt32)), (.int (0 : Int32))] (.int (0 : Int32)) := Arv.set Ar4 qc4 S4 M4 H4 G4 (fits_nar_byte _) W4 0 rfl (Nat.le_of_ble_eq_true rfl)
  refine own_go (st' := T4.setTop (mkF m 32 #[oR ax, oi 0, oR ay, oi 0, oi 2, oi 0, oi u0] [])) (st4) ?_
  refine own_go (st' := T4.setTop (mkF m 35 #[oR ax, oi 1, oR ay, oi 0, oi 2, oi 0, oi u0] [])) (fun _ k => XS.iinc X4.here hx rfl (hb hby d6_32) rfl (l' := #[oR ax, oi 1, oR ay, oi 0, oi 2, oi 0, oi u0]) (by rw [show ((0 : Int32) + Int32.ofInt 1) = (1 : Int32) by decide]; rfl) k) ?_
  refine own_go (st' := T4.setTop (mkF m 38 #[oR ax, oi 1, oR ay, oi 1, oi 2, oi 0, oi u0] [])) (fun _ k => XS.iinc X4.here hx rfl (hb hby d6_35) rfl (l' := #[oR ax, oi 1, oR ay, oi 1, oi 2, oi 0, oi u0]) (by rw [show ((0 : Int32) + Int32.ofInt 1) = (1 : Int32) by decide]; rfl) k) ?_
  refine own_go (st' := T4.setTop (mkF m 41 #[oR ax, oi 1, oR ay, oi 1, oi 2, oi 1, oi u0] [])) (fun _ k => XS.iinc X4.here hx rfl (hb hby d6_38) rfl (l' := #[oR ax, oi 1, oR ay, oi 1, oi 2, oi 1, oi u0]) (by rw [show ((0 : Int32) + Int32.ofInt 1) = (1 : Int32) by decide]; rfl) k) ?_
  refine own_go (st' := T4.setTop (mkF m 3 #[oR ax, oi 1, oR ay, oi 1, oi 2, oi 1, oi u0] [])) (fun _ k => XS.goto X4.here hx rfl (pc0 := 41) (pc' := 3) rfl (hb hby d6_41) (by decide) (by decide) k) ?_
  refine own_go (st' := T4.setTop (mkF m 5 #[oR ax, oi 1, oR ay, oi 1, oi 2, oi 1, oi u0] [(.int (1 : Int32))])) (fun _ k => XS.iload X4.here hx rfl (hb hby d6_3) rfl k) ?_
  refine own_go (st' := T4.setTop (mkF m 7 #[oR ax, oi 1, oR ay, oi 1, oi 2, oi 1, oi u0] [(.int (2 : Int32)), (.int (1 : Int32))])) (fun _ k => XS.iload X4.here hx rfl (hb hby d6_5) rfl k) ?_
  have hc5 : (1 : Int32) < (2 : Int32) := by decide
  refine own_go (st' := T4.setTop (mkF m 10 #[oR ax, oi 1, oR ay, oi 1, oi 2, oi 1, oi u0] [])) (fun _ k => XS.icmpNo X4.here hx rfl (hb hby d6_7) rfl (tlt hc5).2.1 k) ?_
  refine own_go (st' := T4.setTop (mkF m 11 #[oR ax, oi 1, oR ay, oi 1, oi 2, oi 1, oi u0] [(.ref ax)])) (fun _ k => XS.aloadN X4.here hx rfl (hb hby d6_10) rfl rfl k) ?_
  refine own_go (st' := T4.setTop (mkF m 12 #[oR ax, oi 1, oR ay, oi 1, oi 2, oi 1, oi u0] [(.int (1 : Int32)), (.ref ax)])) (fun _ k => XS.iloadN X4.here hx rfl (hb hby d6_11) rfl k) ?_
  have c6 : Arv Z h4 ax ka .char (2 : Int32) [(.int u0), (.int u1)] (.int (0 : Int32)) := (pr1.other W4 (own_ne (by omega)))
  obtain ⟨cl7, Ar7, -, S7, M7, H7, -⟩ := id c6
  have hin7 : ¬ ((1 : Int32) < 0 ∨ cl7.slots.size ≤ ((1 : Int32)).toNatClampNeg) := (inb_of S7 ⟨by decide, by decide⟩)
  have hat7 : cl7.slots[((1 : Int32)).toNatClampNeg]? = some (.int u1) := (H7.at hin7 rfl)
  refine own_go (st' := T4.setTop (mkF m 13 #[oR ax, oi 1, oR ay, oi 1, oi 2, oi 1, oi u0] [(.int u1)])) (X4.caload hx (j := (1 : Int32)) (v := (.int u1)) (by rw [e4]; exact Ar7.1) (State.isArrayOf_alike hZ.alike Ar7.2.1) Ar7.2.2 hin7 hat7 (g := (mkF m 12 #[oR ax, oi 1, oR ay, oi 1, oi 2, oi 1, oi u0] [(.int (1 : Int32)), (.ref ax)])) rfl rfl (hb hby d6_12)) ?_
  refine own_go (st' := T4.setTop (mkF m 15 #[oR ax, oi 1, oR ay, oi 1, oi 2, oi 1, oi u1] [])) (fun _ k => XS.istore X4.here hx rfl (hb hby d6_13) rfl (l' := #[oR ax, oi 1, oR ay, oi 1, oi 2, oi 1, oi u1]) rfl k) ?_
  refine own_go (st' := T4.setTop (mkF m 17 #[oR ax, oi 1, oR ay, oi 1, oi 2, oi 1, oi u1] [(.int u1)])) (fun _ k => XS.iload X4.here hx rfl (hb hby d6_15) rfl k) ?_
  refine own_go (st' := T4.setTop (mkF m 20 #[oR ax, oi 1, oR ay, oi 1, oi 2, oi 1, oi u1] [(.int (255 : Int32)), (.int u1)])) (fun _ k => XS.sipush X4.here hx rfl (hb hby d6_17) k) ?_
  have hc8 : ¬ ((255 : Int32) < u1) := (own_lat_le hl_u1)
  refine own_go (st' := T4.setTop (mkF m 26 #[oR ax, oi 1, oR ay, oi 1, oi 2, oi 1, oi u1] [])) (fun _ k => XS.icmpYes X4.here hx rfl (pc0 := 20) (pc' := 26) rfl (hb hby d6_20) rfl (flt hc8).2.2.2 (by decide) (by decide) k) ?_
  refine own_go (st' := T4.setTop (mkF m 27 #[oR ax, oi 1, oR ay, oi 1, oi 2, oi 1, oi u1] [(.ref ay)])) (fun _ k => XS.aloadN X4.here hx rfl (hb hby d6_26) rfl rfl k) ?_
  refine own_go (st' := T4.setTop (mkF m 28 #[oR ax, oi 1, oR ay, oi 1, oi 2, oi 1, oi u1] [(.int (1 : Int32)), (.ref ay)])) (fun _ k => XS.iloadN X4.here hx rfl (hb hby d6_27) rfl k) ?_
  refine own_go (st' := T4.setTop (mkF m 30 #[oR ax, oi 1, oR ay, oi 1, oi 2, oi 1, oi u1] [(.int u1), (.int (1 : Int32)), (.ref ay)])) (fun _ k => XS.iload X4.here hx rfl (hb hby d6_28) rfl k) ?_
  refine own_go (st' := T4.setTop (mkF m 31 #[oR ax, oi 1, oR ay, oi 1, oi 2, oi 1, oi u1] [(.int u1.toInt8.toInt32), (.int (1 : Int32)), (.ref ay)])) (fun _ k => XS.i2b X4.here hx rfl (hb hby d6_30) rfl k) ?_
  obtain ⟨cl9, Ar9, qc9, S9, M9, H9, G9⟩ := id v4
  have hin9 : ¬ ((1 : Int32) < 0 ∨ cl9.slots.size ≤ ((1 : Int32)).toNatClampNeg) := (inb_of S9 ⟨by decide, by decide⟩)
  obtain ⟨T9, h9, X9, e9, W9, st9⟩ := stB X4 hx hZ e4 Ar9 (j := (1 : Int32)) hin9 (g := (mkF m 31 #[oR ax, oi 1, oR ay, oi 1, oi 2, oi 1, oi u1] [(.int u1.toInt8.toInt32), (.int (1 : Int32)), (.ref ay)])) rfl rfl (hb hby d6_31)
  have sz9 : h9.size = h4.size := W9.size
  have N9 := Fr.snoc X9 N4 (by omega)
  have v9 : Arv Z h9 ay kb .byte (2 : Int32) [(.int (nar .byte u0.toInt8.toInt32)), (.int (nar .byte u1.toInt8.toInt32))] (.int (0 : Int32)) := Arv.set Ar9 qc9 S9 M9 H9 G9 (fits_nar_byte _) W9 1 rfl (Nat.le_of_ble_eq_true rfl)
  refine own_go (st' := T9.setTop (mkF m 32 #[oR ax, oi 1, oR ay, oi 1, oi 2, oi 1, oi u1] [])) (st9) ?_
  refine own_go (st' := T9.setTop (mkF m 35 #[oR ax, oi 2, oR ay, oi 1, oi 2, oi 1, oi u1] [])) (fun _ k => XS.iinc X9.here hx rfl (hb hby d6_32) rfl (l' := #[oR ax, oi 2, oR ay, oi 1, oi 2, oi 1, oi u1]) (by rw [show ((1 : Int32) + Int32.ofInt 1) = (2 : Int32) by decide]; rfl) k) ?_
  refine own_go (st' := T9.setTop (mkF m 38 #[oR ax, oi 2, oR ay, oi 2, oi 2, oi 1, oi u1] [])) (fun _ k => XS.iinc X9.here hx rfl (hb hby d6_35) rfl (l' := #[oR ax, oi 2, oR ay, oi 2, oi 2, oi 1, oi u1]) (by rw [show ((1 : Int32) + Int32.ofInt 1) = (2 : Int32) by decide]; rfl) k) ?_
  refine own_go (st' := T9.setTop (mkF m 41 #[oR ax, oi 2, oR ay, oi 2, oi 2, oi 2, oi u1] [])) (fun _ k => XS.iinc X9.here hx rfl (hb hby d6_38) rfl (l' := #[oR ax, oi 2, oR ay, oi 2, oi 2, oi 2, oi u1]) (by rw [show ((1 : Int32) + Int32.ofInt 1) = (2 : Int32) by decide]; rfl) k) ?_
  refine own_go (st' := T9.setTop (mkF m 3 #[oR ax, oi 2, oR ay, oi 2, oi 2, oi 2, oi u1] [])) (fun _ k => XS.goto X9.here hx rfl (pc0 := 41) (pc' := 3) rfl (hb hby d6_41) (by decide) (by decide) k) ?_
  refine own_go (st' := T9.setTop (mkF m 5 #[oR ax, oi 2, oR ay, oi 2, oi 2, oi 2, oi u1] [(.int (2 : Int32))])) (fun _ k => XS.iload X9.here hx rfl (hb hby d6_3) rfl k) ?_
  refine own_go (st' := T9.setTop (mkF m 7 #[oR ax, oi 2, oR ay, oi 2, oi 2, oi 2, oi u1] [(.int (2 : Int32)), (.int (2 : Int32))])) (fun _ k => XS.iload X9.here hx rfl (hb hby d6_5) rfl k) ?_
  have hc10 : ¬ ((2 : Int32) < (2 : Int32)) := by decide
  refine own_go (st' := T9.setTop (mkF m 44 #[oR ax, oi 2, oR ay, oi 2, oi 2, oi 2, oi u1] [])) (fun _ k => XS.icmpYes X9.here hx rfl (pc0 := 7) (pc' := 44) rfl (hb hby d6_7) rfl (flt hc10).2.1 (by decide) (by decide) k) ?_
  refine own_go (st' := T9.setTop (mkF m 46 #[oR ax, oi 2, oR ay, oi 2, oi 2, oi 2, oi u1] [(.int (2 : Int32))])) (fun _ k => XS.iload X9.here hx rfl (hb hby d6_44) rfl k) ?_
  obtain ⟨fs, hr, hrun, hended, hW, hsame⟩ := X9.leave (v := some (.int (2 : Int32))) (fun h => by rw [Bd.returns] at h; cases h)
  refine ⟨_, _, ?_, hP _ _ hrun hended ⟨_, _, rfl, ?_, ⟨_, rfl⟩, hW, hsame.mono (by decide) (by decide)⟩⟩
  · exact retOut X9 hx Bd.returns rfl (Or.inl ⟨rfl, Or.inl rfl, _, rfl⟩) (hb hby d6_46) hr
  · show Qrcp_2 Z ax ka ay kb u0 u1 h0 n0 _ T9.heap _
    rw [e9]
    exact ⟨rfl, N9, (((Keep.refl h0 [ay]).wr W4 (Or.inl (List.mem_of_getElem? (i := 0) rfl))).wr W9 (Or.inl (List.mem_of_getElem? (i := 0) rfl))), v9⟩
theorem ef_rcq_2 (m : MethodId) (x0 : Addr) (x1 : Int32) (x2 : Int32) : entryFrame m #[(.ref x0), (.int x1), (.int x2)] 6 = mkF m 0 #[.val (.ref x0), .val (.int x1), .val (.int x2), .unset, .unset, .unset] [] := by first | (simp [entryFrame, mkF, argsToLocals, Value.category]; done) | rfl
def Qrcq_2 (Z : State) (ax : Addr) (ka : ClassId) (u0 : Int32) (u1 : Int32) (h0 : Heap) (n0 : Nat) (v : Option Value) (h : Heap) (L : List Loc) : Prop := ∃ (r : Addr) (kr : ClassId), (v = some (.ref r)) ∧ (Fr n0 L) ∧ (Keep h0 h []) ∧ (Arv Z h r kr .byte (2 : Int32) [(.int (own_by u0)), (.int (own_by u1))] (.int (0 : Int32))) ∧ (h0.size ≤ r)
set_option maxRecDepth 65536 in
set_option maxHeartbeats 40000000 in
theorem rcq_2 (l : Launch) (Z : State) (a0 : Array Value) (hw : ∀ d ∈ tables_1, d.before a0 Z = true) (ws : List Jvm.Cond) (ax : Addr) (ka : ClassId) (u0 : Int32) (u1 : Int32) (h0 : Heap) (n0 : Nat) (Z0 : n0 ≤ h0.size) (pr1 : Arv Z h0 ax ka .char (2 : Int32) [(.int u0), (.int u1)] (.int (0 : Int32))) (hl_u0 : own_lat u0) (hl_u1 : own_lat u1) :
    MetFree l oM8 (head1 (Jvm.Cond.code oM8 jdk_52_method_16_code 6 (some (.array .byte)) :: ws) ({ frames := 1, cells := 1, slots := 2, locals := 18 } : Room)) (fun a U => a = #[(.ref ax), (.int (0 : Int32)), (.int (2 : Int32))] ∧ Z.Warmed39 U.vm ∧ U.heap = h0) (fun _ _ _ _ _ => True) (fun _ U o U' => ∃ v L, o = .returned v ∧ Qrcq_2 Z ax ka u0 u1 h0 n0 v U'.heap L ∧ FrameEnd U o U' L ({ frames := 1, cells := 1, slots := 2, locals := 18 } : Room).cells ({ frames := 1, cells := 1, slots := 2, locals := 18 } : Room).slots) := by
  refine MetFree.of_bodySF (plainFor_of_name pn_5) hisR ?_
  intro p e s m args below meth c s₁ Bd hml0 hP0 hK
  obtain ⟨rfl, hZ, hh⟩ := hP0
  have hx := Bd.exec
  have hby := Bd.bytes
  have hml : c.maxLocals = 6 := hml0
  have hown : s.vm.findClass oS7 = some m.cls := findClass_of_methodNamed Bd.named
  have hnm := (name_of_methodNamed Bd.named Bd.method).1
  have X0 : Stand p l e ({ frames := 1, cells := 1, slots := 2, locals := 18 } : Room) s m #[(.ref ax), (.int (0 : Int32)), (.int (2 : Int32))] below meth c s₁ [] 0 0 := Stand.of_body Bd
  have e0 : s₁.heap = h0 := by rw [← hh, Bd.state]; rfl
  have N0 := Fr.nil n0
  suffices own_H : ∀ (P : State → Outcome → Prop), (∀ U o, U.status = .running → Ended U below o → (∃ v L, o = .returned v ∧ Qrcq_2 Z ax ka u0 u1 h0 n0 v U.heap L ∧ FrameEnd s o U L ({ frames := 1, cells := 1, slots := 2, locals := 18 } : Room).cells ({ frames := 1, cells := 1, slots := 2, locals := 18 } : Room).slots) → P U o) → own_Go p.tables e below P (s₁.setTop (mkF m 0 #[oR ax, oi 0, oi 2, .unset, .unset, .unset] [])) from own_go (fun _ k => castTop (ef_rcq_2 m ax (0 : Int32) (2 : Int32)) k) (own_H _ (fun U o h1 h2 h3 => ⟨h1, h2, h3⟩))
  intro P hP
  have lt_ax : @LT.lt Nat _ ax h0.size := pr1.lt
  refine own_go (st' := s₁.setTop (mkF m 1 #[oR ax, oi 0, oi 2, .unset, .unset, .unset] [(.int (2 : Int32))])) (fun _ k => XS.iloadN X0.here hx rfl (hb hby d5_0) rfl k) ?_
  obtain ⟨T1, h1, k1, X1, e1, E1, A1, st1⟩ := newP X0 hx hZ (own_hw hw 24) e0 (g := (mkF m 1 #[oR ax, oi 0, oi 2, .unset, .unset, .unset] [(.int (2 : Int32))])) rfl (hb hby d5_1) rfl (by decide) (cap := 2) (by decide) (by decide) (by decide) (by decide)
  obtain ⟨b1, g1⟩ : ∃ z, z = h0.size := ⟨_, rfl⟩
  rw [← g1] at A1 st1
  have sz1 : h0.size ≤ h1.size := E1.1
  have lt1 : @LT.lt Nat _ b1 h1.size := A1.lt
  have v1 : Arv Z h1 b1 k1 .byte (2 : Int32) [(.int (0 : Int32)), (.int (0 : Int32))] (.int (0 : Int32)) := (Arv.new A1 (by decide)).pad (pad_rep [] (.int (0 : Int32)) 2)
  refine own_go (st' := T1.setTop (mkF m 3 #[oR ax, oi 0, oi 2, .unset, .unset, .unset] [(.ref b1)])) (st1) ?_
  refine own_go (st' := T1.setTop (mkF m 4 #[oR ax, oi 0, oi 2, oR b1, .unset, .unset] [])) (fun _ k => XS.astoreN X1.here hx rfl (hb hby d5_3) rfl rfl (l' := #[oR ax, oi 0, oi 2, oR b1, .unset, .unset]) rfl k) ?_
  refine own_go (st' := T1.setTop (mkF m 5 #[oR ax, oi 0, oi 2, oR b1, .unset, .unset] [(.ref ax)])) (fun _ k => XS.aloadN X1.here hx rfl (hb hby d5_4) rfl rfl k) ?_
  refine own_go (st' := T1.setTop (mkF m 6 #[oR ax, oi 0, oi 2, oR b1, .unset, .unset] [(.int (0 : Int32)), (.ref ax)])) (fun _ k => XS.iloadN X1.here hx rfl (hb hby d5_5) rfl k) ?_
  refine own_go (st' := T1.setTop (mkF m 7 #[oR ax, oi 0, oi 2, oR b1, .unset, .unset] [(.ref b1), (.int (0 : Int32)), (.ref ax)])) (fun _ k => XS.aloadN X1.here hx rfl (hb hby d5_6) rfl rfl k) ?_
  refine own_go (st' := T1.setTop (mkF m 8 #[oR ax, oi 0, oi 2, oR b1, .unset, .unset] [(.int (0 : Int32)), (.ref b1), (.int (0 : Int32)), (.ref ax)])) (fun _ k => XS.iconst X1.here hx rfl (hb hby d5_7) k) ?_
  refine own_go (st' := T1.setTop (mkF m 9 #[oR ax, oi 0, oi 2, oR b1, .unset, .unset] [(.int (2 : Int32)), (.int (0 : Int32)), (.ref b1), (.int (0 : Int32)), (.ref ax)])) (fun _ k => XS.iloadN X1.here hx rfl (hb hby d5_8) rfl k) ?_
  have c3 : Arv Z h1 ax ka .char (2 : Int32) [(.int u0), (.int u1)] (.int (0 : Int32)) := (pr1.ext E1)
  obtain ⟨_, _, ⟨T2, LC2, kC2, nC2⟩, -, X2, ⟨Lc2, hQ2, lq2, yq2, zq2⟩, st2⟩ := Jvm.LawKit.callS X1 hx (y := oM7) hown (mvT hZ (own_hw hw 25)) (mvT hZ (own_hw hw 26)) (mvT hZ (own_hw hw 22)) (mvT hZ (own_hw hw 27)) (by decide) (backOf (W := 0) (rcp_2 l Z a0 hw [] ax ka b1 k1 u0 u1 h1 n0 (by omega) c3 v1 (by omega) (own_ne (by omega)) hl_u0 hl_u1) hZ (own_hw hw 27) (own_hw hw 22) (by decide) (by decide)) (g := (mkF m 9 #[oR ax, oi 0, oi 2, oR b1, .unset, .unset] [(.int (2 : Int32)), (.int (0 : Int32)), (.ref b1), (.int (0 : Int32)), (.ref ax)])) rfl (by rw [hml]; rfl) (argsL := [(.ref ax), (.int (0 : Int32)), (.ref b1), (.int (0 : Int32)), (.int (2 : Int32))]) (rest := []) (lenOf pd_2 rfl) rfl (by show 2 * 0 + _ ≤ _; exact Nat.le_of_eq rfl) (hb hby d5_9) (fun _ _ => ⟨rfl, e1, (by decide : 1 + 0 ≤ _), (by decide : 2 + 0 ≤ _)⟩)
  dsimp only [Pt.U, Pt.locs, Pt.cells, Pt.slots] at X2 lq2 yq2 zq2 st2 hQ2
  subst lq2 yq2 zq2
  obtain ⟨h2, e2⟩ : ∃ z, T2.heap = z := ⟨_, rfl⟩
  rw [e2] at hQ2
  obtain ⟨rfl, Nq2, K2, g2_0⟩ := hQ2
  have sz2 : h1.size ≤ h2.size := K2.1
  have N2 := Fr.app N0 Nq2
  have lt2_1 : @LT.lt Nat _ b1 h2.size := g2_0.lt
  refine own_go (st' := T2.setTop (mkF m 12 #[oR ax, oi 0, oi 2, oR b1, .unset, .unset] [(.int (2 : Int32))])) (fun t k => st2 t k) ?_
  refine own_go (st' := T2.setTop (mkF m 14 #[oR ax, oi 0, oi 2, oR b1, oi 2, .unset] [])) (fun _ k => XS.istore X2.here hx rfl (hb hby d5_12) rfl (l' := #[oR ax, oi 0, oi 2, oR b1, oi 2, .unset]) rfl k) ?_
  refine own_go (st' := T2.setTop (mkF m 16 #[oR ax, oi 0, oi 2, oR b1, oi 2, .unset] [(.int (2 : Int32))])) (fun _ k => XS.iload X2.here hx rfl (hb hby d5_14) rfl k) ?_
  refine own_go (st' := T2.setTop (mkF m 17 #[oR ax, oi 0, oi 2, oR b1, oi 2, .unset] [(.int (2 : Int32)), (.int (2 : Int32))])) (fun _ k => XS.iloadN X2.here hx rfl (hb hby d5_16) rfl k) ?_
  have hc4 : (2 : Int32) = (2 : Int32) := by decide
  refine own_go (st' := T2.setTop (mkF m 57 #[oR ax, oi 0, oi 2, oR b1, oi 2, .unset] [])) (fun _ k => XS.icmpYes X2.here hx rfl (pc0 := 17) (pc' := 57) rfl (hb hby d5_17) rfl (teq hc4).1 (by decide) (by decide) k) ?_
  refine own_go (st' := T2.setTop (mkF m 58 #[oR ax, oi 0, oi 2, oR b1, oi 2, .unset] [(.ref b1)])) (fun _ k => XS.aloadN X2.here hx rfl (hb hby d5_57) rfl rfl k) ?_
  obtain ⟨fs, hr, hrun, hended, hW, hsame⟩ := X2.leave (v := some (.ref b1)) (fun h => by rw [Bd.returns] at h; cases h)
  refine ⟨_, _, ?_, hP _ _ hrun hended ⟨_, _, rfl, ?_, ⟨_, rfl⟩, hW, hsame.mono (by decide) (by decide)⟩⟩
  · exact retOut X2 hx Bd.returns rfl (Or.inr (Or.inr (Or.inr (Or.inr ⟨rfl, rfl, rfl⟩)))) (hb hby d5_58) hr
  · show Qrcq_2 Z ax ka u0 u1 h0 n0 _ T2.heap _
    rw [e2]
    exact ⟨b1, k1, rfl, N2, (((Keep.refl h0 []).ext E1).trans K2 (allS (P := fun x => x ∈ [] ∨ h0.size ≤ x) (Or.inr (by omega)) all0)), g2_0, (by omega)⟩
theorem ef_rcd_2 (m : MethodId) (x0 : Addr) (x1 : Int32) : entryFrame m #[(.ref x0), (.int x1)] 2 = mkF m 0 #[.val (.ref x0), .val (.int x1)] [] := by first | (simp [entryFrame, mkF, argsToLocals, Value.category]; done) | rfl
def Qrcd_2 (Z : State) (ax : Addr) (ka : ClassId) (vs : List Value) (h0 : Heap) (n0 : Nat) (v : Option Value) (h : Heap) (L : List Loc) : Prop := (v = some (.int (0 : Int32))) ∧ (Fr n0 L) ∧ (h = h0)
set_option maxRecDepth 65536 in
set_option maxHeartbeats 40000000 in
theorem rcd_2 (l : Launch) (Z : State) (a0 : Array Value) (hw : ∀ d ∈ tables_1, d.before a0 Z = true) (ws : List Jvm.Cond) (ax : Addr) (ka : ClassId) (vs : List Value) (h0 : Heap) (n0 : Nat) (Z0 : n0 ≤ h0.size) (pr1 : Arv Z h0 ax ka .byte (2 : Int32) vs (.int (0 : Int32))) :
    MetFree l oM9 (head1 (Jvm.Cond.code oM9 jdk_52_method_15_code 2 (some .byte) :: ws) ({ frames := 0, cells := 0, slots := 0, locals := 0 } : Room)) (fun a U => a = #[(.ref ax), (.int (2 : Int32))] ∧ Z.Warmed39 U.vm ∧ U.heap = h0) (fun _ _ _ _ _ => True) (fun _ U o U' => ∃ v L, o = .returned v ∧ Qrcd_2 Z ax ka vs h0 n0 v U'.heap L ∧ FrameEnd U o U' L ({ frames := 0, cells := 0, slots := 0, locals := 0 } : Room).cells ({ frames := 0, cells := 0, slots := 0, locals := 0 } : Room).slots) := by
  refine MetFree.of_bodySF (plainFor_of_name pn_7) hisR ?_
  intro p e s m args below meth c s₁ Bd hml0 hP0 hK
  obtain ⟨rfl, hZ, hh⟩ := hP0
  have hx := Bd.exec
  have hby := Bd.bytes
  have hml : c.maxLocals = 2 := hml0
  have hown : s.vm.findClass oS7 = some m.cls := findClass_of_methodNamed Bd.named
  have hnm := (name_of_methodNamed Bd.named Bd.method).1
  have X0 : Stand p l e ({ frames := 0, cells := 0, slots := 0, locals := 0 } : Room) s m #[(.ref ax), (.int (2 : Int32))] below meth c s₁ [] 0 0 := Stand.of_body Bd
  have e0 : s₁.heap = h0 := by rw [← hh, Bd.state]; rfl
  have N0 := Fr.nil n0
  suffices own_H : ∀ (P : State → Outcome → Prop), (∀ U o, U.status = .running → Ended U below o → (∃ v L, o = .returned v ∧ Qrcd_2 Z ax ka vs h0 n0 v U.heap L ∧ FrameEnd s o U L ({ frames := 0, cells := 0, slots := 0, locals := 0 } : Room).cells ({ frames := 0, cells := 0, slots := 0, locals := 0 } : Room).slots) → P U o) → own_Go p.tables e below P (s₁.setTop (mkF m 0 #[oR ax, oi 2] [])) from own_go (fun _ k => castTop (ef_rcd_2 m ax (2 : Int32)) k) (own_H _ (fun U o h1 h2 h3 => ⟨h1, h2, h3⟩))
  intro P hP
  have lt_ax : @LT.lt Nat _ ax h0.size := pr1.lt
  refine own_go (st' := s₁.setTop (mkF m 1 #[oR ax, oi 2] [(.int (2 : Int32))])) (fun _ k => XS.iloadN X0.here hx rfl (hb hby d7_0) rfl k) ?_
  refine own_go (st' := s₁.setTop (mkF m 2 #[oR ax, oi 2] [(.ref ax), (.int (2 : Int32))])) (fun _ k => XS.aloadN X0.here hx rfl (hb hby d7_1) rfl rfl k) ?_
  obtain ⟨cl1, Ar1, -, S1, M1, -, -⟩ := id pr1
  refine own_go (st' := s₁.setTop (mkF m 3 #[oR ax, oi 2] [(.int (2 : Int32)), (.int (2 : Int32))])) (fun t k => X0.arraylength hx (by rw [e0]; exact Ar1.1) (State.isArrayOf_alike hZ.alike Ar1.2.1) (g := (mkF m 2 #[oR ax, oi 2] [(.ref ax), (.int (2 : Int32))])) rfl rfl (hb hby d7_2) t (by rw [len_of S1 M1]; exact k)) ?_
  refine own_go (st' := s₁.setTop (mkF m 4 #[oR ax, oi 2] [(.int (0 : Int32))])) (fun _ k => XS.isub X0.here hx rfl (hb hby d7_3) rfl (by rw [show ((2 : Int32) - (2 : Int32)) = (0 : Int32) by decide]; exact k)) ?_
  refine own_go (st' := s₁.setTop (mkF m 6 #[oR ax, oi 2] [(.int (31 : Int32)), (.int (0 : Int32))])) (fun _ k => XS.bipush X0.here hx rfl (hb hby d7_4) k) ?_
  refine own_go (st' := s₁.setTop (mkF m 7 #[oR ax, oi 2] [(.int (((0 : Int32).toUInt32 >>> ((31 : Int32) &&& 31).toUInt32).toInt32))])) (fun _ k => XS.iushr X0.here hx rfl (hb hby d7_6) rfl k) ?_
  refine own_go (st' := s₁.setTop (mkF m 8 #[oR ax, oi 2] [(.int (((0 : Int32).toUInt32 >>> ((31 : Int32) &&& 31).toUInt32).toInt32).toInt8.toInt32)])) (fun _ k => XS.i2b X0.here hx rfl (hb hby d7_7) rfl k) ?_
  obtain ⟨fs, hr, hrun, hended, hW, hsame⟩ := X0.leave (v := some (.int (nar .byte (((0 : Int32).toUInt32 >>> ((31 : Int32) &&& 31).toUInt32).toInt32).toInt8.toInt32))) (fun h => by rw [Bd.returns] at h; cases h)
  refine ⟨_, _, ?_, hP _ _ hrun hended ⟨_, _, rfl, ?_, ⟨_, rfl⟩, hW, hsame.mono (by decide) (by decide)⟩⟩
  · exact retN X0 hx (t := .byte) Bd.returns (by simp) (hb hby d7_8) hr
  · show Qrcd_2 Z ax ka vs h0 n0 _ s₁.heap _
    rw [e0]
    exact ⟨(congrArg (fun z => some (Value.int z)) (by decide +kernel)), N0, rfl⟩
theorem ef_rsi_2 (m : MethodId) (x0 : Addr) (x1 : Addr) (x2 : Int32) (x3 : Int32) : entryFrame m #[(.ref x0), (.ref x1), (.int x2), (.int x3), .null] 6 = mkF m 0 #[.val (.ref x0), .val (.ref x1), .val (.int x2), .val (.int x3), .val .null, .unset] [] := by first | (simp [entryFrame, mkF, argsToLocals, Value.category]; done) | rfl
def Qrsi_2 (Z : State) (a1 : Addr) (ax : Addr) (ka : ClassId) (zc : Int32) (u0 : Int32) (u1 : Int32) (h0 : Heap) (n0 : Nat) (v : Option Value) (h : Heap) (L : List Loc) : Prop := ∃ (r : Addr) (kr : ClassId), (v = none) ∧ (Fr n0 L) ∧ (Keep h0 h [a1]) ∧ (Exa Z h a1 "java/lang/String") ∧ (Fld Z h a1 "java/lang/String" "value" "[B" (.ref r)) ∧ (Fld Z h a1 "java/lang/String" "coder" "B" (.int (0 : Int32))) ∧ (Arv Z h r kr .byte (2 : Int32) [(.int (own_by u0)), (.int (own_by u1))] (.int (0 : Int32))) ∧ (h0.size ≤ r)
set_option maxRecDepth 65536 in
set_option maxHeartbeats 40000000 in
theorem rsi_2 (l : Launch) (Z : State) (a0 : Array Value) (hw : ∀ d ∈ tables_1, d.before a0 Z = true) (ws : List Jvm.Cond) (a1 : Addr) (ax : Addr) (ka : ClassId) (zc : Int32) (u0 : Int32) (u1 : Int32) (h0 : Heap) (n0 : Nat) (Z0 : n0 ≤ h0.size) (pr1 : Exa Z h0 a1 "java/lang/String") (pr2 : Fld Z h0 a1 "java/lang/String" "value" "[B" .null) (pr3 : Fld Z h0 a1 "java/lang/String" "coder" "B" (.int (0 : Int32))) (pr4 : Arv Z h0 ax ka .char (2 : Int32) [(.int u0), (.int u1)] (.int (0 : Int32))) (pr5 : Sta Z h0 "java/lang/String" "COMPACT_STRINGS" "Z" (.int zc)) (hzc : ¬ zc = (0 : Int32)) (hl_u0 : own_lat u0) (hl_u1 : own_lat u1) (pr6 : n0 ≤ a1) (pr7 : @Ne Nat a1 ax) :
    MetFree l oM10 (head1 (Jvm.Cond.code oM10 jdk_42_method_149_code 6 none :: ws) ({ frames := 2, cells := 1, slots := 2, locals := 35 } : Room)) (fun a U => a = #[(.ref a1), (.ref ax), (.int (0 : Int32)), (.int (2 : Int32)), .null] ∧ Z.Warmed39 U.vm ∧ U.heap = h0) (fun _ _ _ _ _ => True) (fun _ U o U' => ∃ v L, o = .returned v ∧ Qrsi_2 Z a1 ax ka zc u0 u1 h0 n0 v U'.heap L ∧ FrameEnd U o U' L ({ frames := 2, cells := 1, slots := 2, locals := 35 } : Room).cells ({ frames := 2, cells := 1, slots := 2, locals := 35 } : Room).slots) := by
  refine MetFree.of_bodySF (plainFor_of_name pn_3) hisR ?_
  intro p e s m args below meth c s₁ Bd hml0 hP0 hK
  obtain ⟨rfl, hZ, hh⟩ := hP0
  have hx := Bd.exec
  have hby := Bd.bytes
  have hml : c.maxLocals = 6 := hml0
  have hown : s.vm.findClass oS0 = some m.cls := findClass_of_methodNamed Bd.named
  have hnm := (name_of_methodNamed Bd.named Bd.method).1
  have X0 : Stand p l e ({ frames := 2, cells := 1, slots := 2, locals := 35 } : Room) s m #[(.ref a1), (.ref ax), (.int (0 : Int32)), (.int (2 : Int32)), .null] below meth c s₁ [] 0 0 := Stand.of_body Bd
  have e0 : s₁.heap = h0 := by rw [← hh, Bd.state]; rfl
  have N0 := Fr.nil n0
  suffices own_H : ∀ (P : State → Outcome → Prop), (∀ U o, U.status = .running → Ended U below o → (∃ v L, o = .returned v ∧ Qrsi_2 Z a1 ax ka zc u0 u1 h0 n0 v U.heap L ∧ FrameEnd s o U L ({ frames := 2, cells := 1, slots := 2, locals := 35 } : Room).cells ({ frames := 2, cells := 1, slots := 2, locals := 35 } : Room).slots) → P U o) → own_Go p.tables e below P (s₁.setTop (mkF m 0 #[oR a1, oR ax, oi 0, oi 2, .val .null, .unset] [])) from own_go (fun _ k => castTop (ef_rsi_2 m a1 ax (0 : Int32) (2 : Int32)) k) (own_H _ (fun U o h1 h2 h3 => ⟨h1, h2, h3⟩))
  intro P hP
  have lt_a1 : @LT.lt Nat _ a1 h0.size := pr1.lt
  have lt_ax : @LT.lt Nat _ ax h0.size := pr4.lt
  refine own_go (st' := s₁.setTop (mkF m 1 #[oR a1, oR ax, oi 0, oi 2, .val .null, .unset] [(.ref a1)])) (fun _ k => XS.aloadN X0.here hx rfl (hb hby d3_0) rfl rfl k) ?_
  obtain ⟨T1, X1, e1, st1⟩ := initO X0 hx hZ hown (own_hw hw 16) (own_hw hw 17) (own_hw hw 18) e0 (g := (mkF m 1 #[oR a1, oR ax, oi 0, oi 2, .val .null, .unset] [(.ref a1)])) rfl (by rw [hml]; rfl) rfl (hb hby d3_1) (by decide) (W := 0) (by show 2 * 0 + _ ≤ _; exact Nat.le_of_eq rfl) (by decide)
  refine own_go (st' := T1.setTop (mkF m 4 #[oR a1, oR ax, oi 0, oi 2, .val .null, .unset] [])) (st1) ?_
  refine own_go (st' := T1.setTop (mkF m 5 #[oR a1, oR ax, oi 0, oi 2, .val .null, .unset] [(.int (2 : Int32))])) (fun _ k => XS.iloadN X1.here hx rfl (hb hby d3_4) rfl k) ?_
  have hc2 : ¬ ((2 : Int32) = (0 : Int32)) := by decide
  refine own_go (st' := T1.setTop (mkF m 27 #[oR a1, oR ax, oi 0, oi 2, .val .null, .unset] [])) (fun _ k => XS.ifYes X1.here hx rfl (pc0 := 5) (pc' := 27) rfl (hb hby d3_5) rfl ((if0 _ _).trans (feq hc2).2) (by decide) (by decide) k) ?_
  obtain ⟨T3, X3, e3, st3⟩ := getS2 X1 hx hZ hown (host := "") (Or.inl (own_hw hw 19)) Via.refl e1 pr5 (g := (mkF m 27 #[oR a1, oR ax, oi 0, oi 2, .val .null, .unset] [])) rfl (hb hby d3_27)
  refine own_go (st' := T3.setTop (mkF m 30 #[oR a1, oR ax, oi 0, oi 2, .val .null, .unset] [(.int zc)])) (st3) ?_
  have hc4 : ¬ (zc = (0 : Int32)) := hzc
  refine own_go (st' := T3.setTop (mkF m 33 #[oR a1, oR ax, oi 0, oi 2, .val .null, .unset] [])) (fun _ k => XS.ifNo X3.here hx rfl (hb hby d3_30) rfl ((if0 _ _).trans (feq hc4).1) k) ?_
  refine own_go (st' := T3.setTop (mkF m 34 #[oR a1, oR ax, oi 0, oi 2, .val .null, .unset] [(.ref ax)])) (fun _ k => XS.aloadN X3.here hx rfl (hb hby d3_33) rfl rfl k) ?_
  refine own_go (st' := T3.setTop (mkF m 35 #[oR a1, oR ax, oi 0, oi 2, .val .null, .unset] [(.int (0 : Int32)), (.ref ax)])) (fun _ k => XS.iloadN X3.here hx rfl (hb hby d3_34) rfl k) ?_
  refine own_go (st' := T3.setTop (mkF m 36 #[oR a1, oR ax, oi 0, oi 2, .val .null, .unset] [(.int (2 : Int32)), (.int (0 : Int32)), (.ref ax)])) (fun _ k => XS.iloadN X3.here hx rfl (hb hby d3_35) rfl k) ?_
  obtain ⟨_, _, ⟨T5, LC5, kC5, nC5⟩, -, X5, ⟨Lc5, hQ5, lq5, yq5, zq5⟩, st5⟩ := Jvm.LawKit.callS X3 hx (y := oM8) hown (mvT hZ (own_hw hw 20)) (mvT hZ (own_hw hw 21)) (mvT hZ (own_hw hw 22)) (mvT hZ (own_hw hw 23)) (by decide) (backOf (W := 0) (rcq_2 l Z a0 hw [] ax ka u0 u1 h0 n0 (by omega) pr4 hl_u0 hl_u1) hZ (own_hw hw 23) (own_hw hw 22) (by decide) (by decide)) (g := (mkF m 36 #[oR a1, oR ax, oi 0, oi 2, .val .null, .unset] [(.int (2 : Int32)), (.int (0 : Int32)), (.ref ax)])) rfl (by rw [hml]; rfl) (argsL := [(.ref ax), (.int (0 : Int32)), (.int (2 : Int32))]) (rest := []) (lenOf pd_3 rfl) rfl (by show 2 * 0 + _ ≤ _; exact Nat.le_of_eq rfl) (hb hby d3_36) (fun _ _ => ⟨rfl, e3, (by decide : 0 + 1 ≤ _), (by decide : 0 + 2 ≤ _)⟩)
  dsimp only [Pt.U, Pt.locs, Pt.cells, Pt.slots] at X5 lq5 yq5 zq5 st5 hQ5
  subst lq5 yq5 zq5
  obtain ⟨h5, e5⟩ : ∃ z, T5.heap = z := ⟨_, rfl⟩
  rw [e5] at hQ5
  obtain ⟨r_5, kr_5, rfl, Nq5, K5, g5_0, g5_1⟩ := hQ5
  have sz5 : h0.size ≤ h5.size := K5.1
  have N5 := Fr.app N0 Nq5
  have lt5_1 : @LT.lt Nat _ r_5 h5.size := g5_0.lt
  refine own_go (st' := T5.setTop (mkF m 39 #[oR a1, oR ax, oi 0, oi 2, .val .null, .unset] [(.ref r_5)])) (fun t k => st5 t k) ?_
  refine own_go (st' := T5.setTop (mkF m 41 #[oR a1, oR ax, oi 0, oi 2, .val .null, oR r_5] [])) (fun _ k => XS.astore X5.here hx rfl (hb hby d3_39) rfl rfl (l' := #[oR a1, oR ax, oi 0, oi 2, .val .null, oR r_5]) rfl k) ?_
  refine own_go (st' := T5.setTop (mkF m 42 #[oR a1, oR ax, oi 0, oi 2, .val .null, oR r_5] [(.ref a1)])) (fun _ k => XS.aloadN X5.here hx rfl (hb hby d3_41) rfl rfl k) ?_
  refine own_go (st' := T5.setTop (mkF m 44 #[oR a1, oR ax, oi 0, oi 2, .val .null, oR r_5] [(.ref r_5), (.ref a1)])) (fun _ k => XS.aload X5.here hx rfl (hb hby d3_42) rfl rfl k) ?_
  refine own_go (st' := T5.setTop (mkF m 45 #[oR a1, oR ax, oi 0, oi 2, .val .null, oR r_5] [(.int (2 : Int32)), (.ref r_5), (.ref a1)])) (fun _ k => XS.iloadN X5.here hx rfl (hb hby d3_44) rfl k) ?_
  obtain ⟨_, _, ⟨T6, LC6, kC6, nC6⟩, -, X6, ⟨Lc6, hQ6, lq6, yq6, zq6⟩, st6⟩ := Jvm.LawKit.callS X5 hx (y := oM9) hown (mvT hZ (own_hw hw 28)) (mvT hZ (own_hw hw 29)) (mvT hZ (own_hw hw 22)) (mvT hZ (own_hw hw 30)) (by decide) (backOf (W := 1) (rcd_2 l Z a0 hw [] r_5 kr_5 [(.int (own_by u0)), (.int (own_by u1))] h5 n0 (by omega) g5_0) hZ (own_hw hw 30) (own_hw hw 22) (by decide) (by decide)) (g := (mkF m 45 #[oR a1, oR ax, oi 0, oi 2, .val .null, oR r_5] [(.int (2 : Int32)), (.ref r_5), (.ref a1)])) rfl (by rw [hml]; rfl) (argsL := [(.ref r_5), (.int (2 : Int32))]) (rest := [(.ref a1)]) (lenOf pd_4 rfl) rfl (by show 2 * 0 + _ ≤ _; exact Nat.le_of_eq rfl) (hb hby d3_45) (fun _ _ => ⟨rfl, e5, (by decide : 1 + 0 ≤ _), (by decide : 2 + 0 ≤ _)⟩)
  dsimp only [Pt.U, Pt.locs, Pt.cells, Pt.slots] at X6 lq6 yq6 zq6 st6 hQ6
  subst lq6 yq6 zq6
  obtain ⟨rfl, Nq6, eq6⟩ := hQ6
  have N6 := Fr.app N5 Nq6
  refine own_go (st' := T6.setTop (mkF m 48 #[oR a1, oR ax, oi 0, oi 2, .val .null, oR r_5] [(.int (0 : Int32)), (.ref a1)])) (fun t k => st6 t k) ?_
  have c7 : Fld Z h5 a1 oS0 "coder" "B" (.int (0 : Int32)) := (pr3.keep K5 nin0)
  have c8 : Exa Z h5 a1 oS0 := (pr1.keep K5)
  obtain ⟨T9, h9, X9, e9, W9, st9⟩ := putFN X6 hx hZ hown (own_hw hw 31) Via.refl eq6 c7 c8 (Or.inr ⟨(own_hw hw 32), rfl, hnm⟩) (own_hw hw 6) (ty := .byte) (v' := (.int (0 : Int32))) (by decide) rfl rfl (g := (mkF m 48 #[oR a1, oR ax, oi 0, oi 2, .val .null, oR r_5] [(.int (0 : Int32)), (.ref a1)])) rfl rfl (hb hby d3_48)
  have sz9 : h9.size = h5.size := W9.size
  have N9 := Fr.snoc X9 N6 (by omega)
  have f9 : Fld Z h9 a1 oS0 "coder" "B" (.int (0 : Int32)) := c7.same W9
  refine own_go (st' := T9.setTop (mkF m 51 #[oR a1, oR ax, oi 0, oi 2, .val .null, oR r_5] [])) (st9) ?_
  refine own_go (st' := T9.setTop (mkF m 52 #[oR a1, oR ax, oi 0, oi 2, .val .null, oR r_5] [(.ref a1)])) (fun _ k => XS.aloadN X9.here hx rfl (hb hby d3_51) rfl rfl k) ?_
  refine own_go (st' := T9.setTop (mkF m 54 #[oR a1, oR ax, oi 0, oi 2, .val .null, oR r_5] [(.ref r_5), (.ref a1)])) (fun _ k => XS.aload X9.here hx rfl (hb hby d3_52) rfl rfl k) ?_
  have c10 : Fld Z h9 a1 oS0 "value" "[B" .null := ((pr2.keep K5 nin0).other W9 (Or.inr (slot_ne (Or.inr (own_hw hw 34)) (Or.inr (own_hw hw 32)) (by decide) (t := (.array .byte)) (t' := .byte) (by decide) (by decide))))
  have c11 : Exa Z h9 a1 oS0 := (c8.wr W9)
  obtain ⟨T12, h12, X12, e12, W12, st12⟩ := putF X9 hx hZ hown (host := "") (Or.inl (own_hw hw 33)) Via.refl e9 c10 c11 (Or.inr ⟨(own_hw hw 34), rfl, hnm⟩) (own_hw hw 6) (ty := (.array .byte)) (by decide) rfl rfl (g := (mkF m 54 #[oR a1, oR ax, oi 0, oi 2, .val .null, oR r_5] [(.ref r_5), (.ref a1)])) rfl rfl (hb hby d3_54)
  have sz12 : h12.size = h9.size := W12.size
  have N12 := Fr.snoc X12 N9 (by omega)
  have f12 : Fld Z h12 a1 oS0 "value" "[B" (.ref r_5) := c10.same W12
  refine own_go (st' := T12.setTop (mkF m 57 #[oR a1, oR ax, oi 0, oi 2, .val .null, oR r_5] [])) (st12) ?_
  obtain ⟨fs, hr, hrun, hended, hW, hsame⟩ := X12.leave (v := none) (fun _ => rfl)
  refine ⟨_, _, ?_, hP _ _ hrun hended ⟨_, _, rfl, ?_, ⟨_, rfl⟩, hW, hsame.mono (by decide) (by decide)⟩⟩
  · exact X12.returnOut hx Bd.returns (hb hby d3_57) hr
  · show Qrsi_2 Z a1 ax ka zc u0 u1 h0 n0 _ T12.heap _
    have c14 : Exa Z h12 a1 oS0 := (c11.wr W12)
    have c15 : Fld Z h12 a1 oS0 "coder" "B" (.int (0 : Int32)) := (f9.other W12 (Or.inr (slot_ne (Or.inr (own_hw hw 32)) (Or.inr (own_hw hw 34)) (by decide) (t := .byte) (t' := (.array .byte)) (by decide) (by decide))))
    have c16 : Arv Z h12 r_5 kr_5 .byte (2 : Int32) [(.int (own_by u0)), (.int (own_by u1))] (.int (0 : Int32)) := ((g5_0.other W9 (own_ne (by omega))).other W12 (own_ne (by omega)))
    rw [e12]
    exact ⟨r_5, kr_5, rfl, N12, ((((Keep.refl h0 [a1]).trans K5 all0).wr W9 (Or.inl (List.mem_of_getElem? (i := 0) rfl))).wr W12 (Or.inl (List.mem_of_getElem? (i := 0) rfl))), c14, f12, c15, c16, (by omega)⟩
theorem ef_rsc_2 (m : MethodId) (x0 : Addr) (x1 : Addr) : entryFrame m #[(.ref x0), (.ref x1)] 2 = mkF m 0 #[.val (.ref x0), .val (.ref x1)] [] := by first | (simp [entryFrame, mkF, argsToLocals, Value.category]; done) | rfl
def Qrsc_2 (Z : State) (a1 : Addr) (ax : Addr) (ka : ClassId) (zc : Int32) (u0 : Int32) (u1 : Int32) (h0 : Heap) (n0 : Nat) (v : Option Value) (h : Heap) (L : List Loc) : Prop := ∃ (r : Addr) (kr : ClassId), (v = none) ∧ (Fr n0 L) ∧ (Keep h0 h [a1]) ∧ (Exa Z h a1 "java/lang/String") ∧ (Fld Z h a1 "java/lang/String" "value" "[B" (.ref r)) ∧ (Fld Z h a1 "java/lang/String" "coder" "B" (.int (0 : Int32))) ∧ (Arv Z h r kr .byte (2 : Int32) [(.int (own_by u0)), (.int (own_by u1))] (.int (0 : Int32))) ∧ (h0.size ≤ r)
set_option maxRecDepth 65536 in
set_option maxHeartbeats 40000000 in
theorem rsc_2 (l : Launch) (Z : State) (a0 : Array Value) (hw : ∀ d ∈ tables_1, d.before a0 Z = true) (ws : List Jvm.Cond) (a1 : Addr) (ax : Addr) (ka : ClassId) (zc : Int32) (u0 : Int32) (u1 : Int32) (h0 : Heap) (n0 : Nat) (Z0 : n0 ≤ h0.size) (pr1 : Exa Z h0 a1 "java/lang/String") (pr2 : Fld Z h0 a1 "java/lang/String" "value" "[B" .null) (pr3 : Fld Z h0 a1 "java/lang/String" "coder" "B" (.int (0 : Int32))) (pr4 : Arv Z h0 ax ka .char (2 : Int32) [(.int u0), (.int u1)] (.int (0 : Int32))) (pr5 : Sta Z h0 "java/lang/String" "COMPACT_STRINGS" "Z" (.int zc)) (hzc : ¬ zc = (0 : Int32)) (hl_u0 : own_lat u0) (hl_u1 : own_lat u1) (pr6 : n0 ≤ a1) (pr7 : @Ne Nat a1 ax) :
    MetFree l oM11 (head1 (Jvm.Cond.code oM11 jdk_42_method_3_code 2 none :: ws) ({ frames := 3, cells := 1, slots := 2, locals := 52 } : Room)) (fun a U => a = #[(.ref a1), (.ref ax)] ∧ Z.Warmed39 U.vm ∧ U.heap = h0) (fun _ _ _ _ _ => True) (fun _ U o U' => ∃ v L, o = .returned v ∧ Qrsc_2 Z a1 ax ka zc u0 u1 h0 n0 v U'.heap L ∧ FrameEnd U o U' L ({ frames := 3, cells := 1, slots := 2, locals := 52 } : Room).cells ({ frames := 3, cells := 1, slots := 2, locals := 52 } : Room).slots) := by
  refine MetFree.of_bodySF (plainFor_of_name pn_2) hisR ?_
  intro p e s m args below meth c s₁ Bd hml0 hP0 hK
  obtain ⟨rfl, hZ, hh⟩ := hP0
  have hx := Bd.exec
  have hby := Bd.bytes
  have hml : c.maxLocals = 2 := hml0
  have hown : s.vm.findClass oS0 = some m.cls := findClass_of_methodNamed Bd.named
  have hnm := (name_of_methodNamed Bd.named Bd.method).1
  have X0 : Stand p l e ({ frames := 3, cells := 1, slots := 2, locals := 52 } : Room) s m #[(.ref a1), (.ref ax)] below meth c s₁ [] 0 0 := Stand.of_body Bd
  have e0 : s₁.heap = h0 := by rw [← hh, Bd.state]; rfl
  have N0 := Fr.nil n0
  suffices own_H : ∀ (P : State → Outcome → Prop), (∀ U o, U.status = .running → Ended U below o → (∃ v L, o = .returned v ∧ Qrsc_2 Z a1 ax ka zc u0 u1 h0 n0 v U.heap L ∧ FrameEnd s o U L ({ frames := 3, cells := 1, slots := 2, locals := 52 } : Room).cells ({ frames := 3, cells := 1, slots := 2, locals := 52 } : Room).slots) → P U o) → own_Go p.tables e below P (s₁.setTop (mkF m 0 #[oR a1, oR ax] [])) from own_go (fun _ k => castTop (ef_rsc_2 m a1 ax) k) (own_H _ (fun U o h1 h2 h3 => ⟨h1, h2, h3⟩))
  intro P hP
  have lt_a1 : @LT.lt Nat _ a1 h0.size := pr1.lt
  have lt_ax : @LT.lt Nat _ ax h0.size := pr4.lt
  refine own_go (st' := s₁.setTop (mkF m 1 #[oR a1, oR ax] [(.ref a1)])) (fun _ k => XS.aloadN X0.here hx rfl (hb hby d2_0) rfl rfl k) ?_
  refine own_go (st' := s₁.setTop (mkF m 2 #[oR a1, oR ax] [(.ref ax), (.ref a1)])) (fun _ k => XS.aloadN X0.here hx rfl (hb hby d2_1) rfl rfl k) ?_
  refine own_go (st' := s₁.setTop (mkF m 3 #[oR a1, oR ax] [(.int (0 : Int32)), (.ref ax), (.ref a1)])) (fun _ k => XS.iconst X0.here hx rfl (hb hby d2_2) k) ?_
  refine own_go (st' := s₁.setTop (mkF m 4 #[oR a1, oR ax] [(.ref ax), (.int (0 : Int32)), (.ref ax), (.ref a1)])) (fun _ k => XS.aloadN X0.here hx rfl (hb hby d2_3) rfl rfl k) ?_
  obtain ⟨cl1, Ar1, -, S1, M1, -, -⟩ := id pr4
  refine own_go (st' := s₁.setTop (mkF m 5 #[oR a1, oR ax] [(.int (2 : Int32)), (.int (0 : Int32)), (.ref ax), (.ref a1)])) (fun t k => X0.arraylength hx (by rw [e0]; exact Ar1.1) (State.isArrayOf_alike hZ.alike Ar1.2.1) (g := (mkF m 4 #[oR a1, oR ax] [(.ref ax), (.int (0 : Int32)), (.ref ax), (.ref a1)])) rfl rfl (hb hby d2_4) t (by rw [len_of S1 M1]; exact k)) ?_
  refine own_go (st' := s₁.setTop (mkF m 6 #[oR a1, oR ax] [.null, (.int (2 : Int32)), (.int (0 : Int32)), (.ref ax), (.ref a1)])) (fun _ k => XS.aconstNull X0.here hx rfl (hb hby d2_5) k) ?_
  obtain ⟨_, _, ⟨T2, LC2, kC2, nC2⟩, -, X2, ⟨Lc2, hQ2, lq2, yq2, zq2⟩, st2⟩ := X0.specialBack hx (y := oM10) rfl hown (mvT hZ (own_hw hw 12)) (mvT hZ (own_hw hw 13)) (mvT hZ (own_hw hw 15)) (by decide) (backOf (W := 0) (rsi_2 l Z a0 hw [] a1 ax ka zc u0 u1 h0 n0 (by omega) pr1 pr2 pr3 pr4 pr5 (by assumption) hl_u0 hl_u1 (by omega) (own_ne (by omega))) hZ (own_hw hw 15) (own_hw hw 7) (by decide) (by decide)) (g := (mkF m 6 #[oR a1, oR ax] [.null, (.int (2 : Int32)), (.int (0 : Int32)), (.ref ax), (.ref a1)])) rfl (by rw [hml]; rfl) (Steps.refl _) (a := a1) (argsL := [(.ref ax), (.int (0 : Int32)), (.int (2 : Int32)), .null]) (rest := []) (lenOf pd_5 rfl) rfl (by show 2 * 0 + _ ≤ _; exact Nat.le_of_eq rfl) (hb hby d2_6) (fun _ _ => ⟨rfl, e0, (by decide : 0 + 1 ≤ _), (by decide : 0 + 2 ≤ _)⟩)
  dsimp only [Pt.U, Pt.locs, Pt.cells, Pt.slots] at X2 lq2 yq2 zq2 st2 hQ2
  subst lq2 yq2 zq2
  obtain ⟨h2, e2⟩ : ∃ z, T2.heap = z := ⟨_, rfl⟩
  rw [e2] at hQ2
  obtain ⟨r_2, kr_2, rfl, Nq2, K2, g2_0, g2_1, g2_2, g2_3, g2_4⟩ := hQ2
  have sz2 : h0.size ≤ h2.size := K2.1
  have N2 := Fr.app N0 Nq2
  have lt2_1 : @LT.lt Nat _ a1 h2.size := g2_0.lt
  have lt2_2 : @LT.lt Nat _ r_2 h2.size := g2_3.lt
  refine own_go (st' := T2.setTop (mkF m 9 #[oR a1, oR ax] [])) (fun _ k => st2.trans k) ?_
  obtain ⟨fs, hr, hrun, hended, hW, hsame⟩ := X2.leave (v := none) (fun _ => rfl)
  refine ⟨_, _, ?_, hP _ _ hrun hended ⟨_, _, rfl, ?_, ⟨_, rfl⟩, hW, hsame.mono (by decide) (by decide)⟩⟩
  · exact X2.returnOut hx Bd.returns (hb hby d2_9) hr
  · show Qrsc_2 Z a1 ax ka zc u0 u1 h0 n0 _ T2.heap _
    rw [e2]
    exact ⟨r_2, kr_2, rfl, N2, ((Keep.refl h0 [a1]).trans K2 (allS (P := fun x => x ∈ [a1] ∨ h0.size ≤ x) (Or.inl (List.mem_of_getElem? (i := 0) rfl)) all0)), g2_0, g2_1, g2_2, g2_3, (by omega)⟩
theorem d11_0 : decode jdk_42_method_55_code 0 = .ok (.aload_n 0, 1) := by decide +kernel
theorem d11_1 : decode jdk_42_method_55_code 1 = .ok (.getfield 9, 3) := by decide +kernel
theorem d11_4 : decode jdk_42_method_55_code 4 = .ok (.arraylength, 1) := by decide +kernel
theorem d11_5 : decode jdk_42_method_55_code 5 = .ok (.ifCond .ne 7, 3) := by decide +kernel
theorem d11_12 : decode jdk_42_method_55_code 12 = .ok (.iconst 0, 1) := by decide +kernel
theorem d11_13 : decode jdk_42_method_55_code 13 = .ok (.ireturn, 1) := by decide +kernel
theorem pn_11 : plainName "java/lang/String" = true := by first | (simp [plainName, overriddenIn]; done) | decide +kernel
theorem ef_rie_1 (m : MethodId) (x0 : Addr) : entryFrame m #[(.ref x0)] 1 = mkF m 0 #[.val (.ref x0)] [] := by first | (simp [entryFrame, mkF, argsToLocals, Value.category]; done) | rfl
def Qrie_1 (Z : State) (a1 : Addr) (ax : Addr) (ka : ClassId) (vs : List Value) (h0 : Heap) (n0 : Nat) (v : Option Value) (h : Heap) (L : List Loc) : Prop := (v = some (.int (0 : Int32))) ∧ (Fr n0 L) ∧ (h = h0)
set_option maxRecDepth 65536 in
set_option maxHeartbeats 40000000 in
theorem rie_1 (l : Launch) (Z : State) (a0 : Array Value) (hw : ∀ d ∈ tables_1, d.before a0 Z = true) (ws : List Jvm.Cond) (a1 : Addr) (ax : Addr) (ka : ClassId) (vs : List Value) (h0 : Heap) (n0 : Nat) (Z0 : n0 ≤ h0.size) (pr1 : Fld Z h0 a1 "java/lang/String" "value" "[B" (.ref ax)) (pr2 : Arv Z h0 ax ka .byte (1 : Int32) vs (.int (0 : Int32))) :
    MetFree l oM5 (head1 (Jvm.Cond.code oM5 jdk_42_method_55_code 1 (some .boolean) :: ws) ({ frames := 0, cells := 0, slots := 0, locals := 0 } : Room)) (fun a U => a = #[(.ref a1)] ∧ Z.Warmed39 U.vm ∧ U.heap = h0) (fun _ _ _ _ _ => True) (fun _ U o U' => ∃ v L, o = .returned v ∧ Qrie_1 Z a1 ax ka vs h0 n0 v U'.heap L ∧ FrameEnd U o U' L ({ frames := 0, cells := 0, slots := 0, locals := 0 } : Room).cells ({ frames := 0, cells := 0, slots := 0, locals := 0 } : Room).slots) := by
  refine MetFree.of_bodySF (plainFor_of_name pn_11) hisR ?_
  intro p e s m args below meth c s₁ Bd hml0 hP0 hK
  obtain ⟨rfl, hZ, hh⟩ := hP0
  have hx := Bd.exec
  have hby := Bd.bytes
  have hml : c.maxLocals = 1 := hml0
  have hown : s.vm.findClass oS0 = some m.cls := findClass_of_methodNamed Bd.named
  have hnm := (name_of_methodNamed Bd.named Bd.method).1
  have X0 : Stand p l e ({ frames := 0, cells := 0, slots := 0, locals := 0 } : Room) s m #[(.ref a1)] below meth c s₁ [] 0 0 := Stand.of_body Bd
  have e0 : s₁.heap = h0 := by rw [← hh, Bd.state]; rfl
  have N0 := Fr.nil n0
  suffices own_H : ∀ (P : State → Outcome → Prop), (∀ U o, U.status = .running → Ended U below o → (∃ v L, o = .returned v ∧ Qrie_1 Z a1 ax ka vs h0 n0 v U.heap L ∧ FrameEnd s o U L ({ frames := 0, cells := 0, slots := 0, locals := 0 } : Room).cells ({ frames := 0, cells := 0, slots := 0, locals := 0 } : Room).slots) → P U o) → own_Go p.tables e below P (s₁.setTop (mkF m 0 #[oR a1] [])) from own_go (fun _ k => castTop (ef_rie_1 m a1) k) (own_H _ (fun U o h1 h2 h3 => ⟨h1, h2, h3⟩))
  intro P hP
  have lt_a1 : @LT.lt Nat _ a1 h0.size := pr1.lt
  have lt_ax : @LT.lt Nat _ ax h0.size := pr2.lt
  refine own_go (st' := s₁.setTop (mkF m 1 #[oR a1] [(.ref a1)])) (fun _ k => XS.aloadN X0.here hx rfl (hb hby d11_0) rfl rfl k) ?_
  obtain ⟨T1, X1, e1, st1⟩ := getF X0 hx hZ hown (host := "") (Or.inl (own_hw hw 33)) Via.refl e0 pr1 (g := (mkF m 1 #[oR a1] [(.ref a1)])) rfl rfl (hb hby d11_1)
  refine own_go (st' := T1.setTop (mkF m 4 #[oR a1] [(.ref ax)])) (st1) ?_
  obtain ⟨cl2, Ar2, -, S2, M2, -, -⟩ := id pr2
  refine own_go (st' := T1.setTop (mkF m 5 #[oR a1] [(.int (1 : Int32))])) (fun t k => X1.arraylength hx (by rw [e1]; exact Ar2.1) (State.isArrayOf_alike hZ.alike Ar2.2.1) (g := (mkF m 4 #[oR a1] [(.ref ax)])) rfl rfl (hb hby d11_4) t (by rw [len_of S2 M2]; exact k)) ?_
  have hc3 : ¬ ((1 : Int32) = (0 : Int32)) := by decide
  refine own_go (st' := T1.setTop (mkF m 12 #[oR a1] [])) (fun _ k => XS.ifYes X1.here hx rfl (pc0 := 5) (pc' := 12) rfl (hb hby d11_5) rfl ((if0 _ _).trans (feq hc3).2) (by decide) (by decide) k) ?_
  refine own_go (st' := T1.setTop (mkF m 13 #[oR a1] [(.int (0 : Int32))])) (fun _ k => XS.iconst X1.here hx rfl (hb hby d11_12) k) ?_
  obtain ⟨fs, hr, hrun, hended, hW, hsame⟩ := X1.leave (v := some (.int (0 : Int32))) (fun h => by rw [Bd.returns] at h; cases h)
  refine ⟨_, _, ?_, hP _ _ hrun hended ⟨_, _, rfl, ?_, ⟨_, rfl⟩, hW, hsame.mono (by decide) (by decide)⟩⟩
  · exact retN X1 hx (t := .boolean) Bd.returns (by simp) (hb hby d11_13) hr
  · show Qrie_1 Z a1 ax ka vs h0 n0 _ T1.heap _
    rw [e1]
    exact ⟨rfl, N0, rfl⟩
theorem ef_rie_2 (m : MethodId) (x0 : Addr) : entryFrame m #[(.ref x0)] 1 = mkF m 0 #[.val (.ref x0)] [] := by first | (simp [entryFrame, mkF, argsToLocals, Value.category]; done) | rfl
def Qrie_2 (Z : State) (a1 : Addr) (ax : Addr) (ka : ClassId) (vs : List Value) (h0 : Heap) (n0 : Nat) (v : Option Value) (h : Heap) (L : List Loc) : Prop := (v = some (.int (0 : Int32))) ∧ (Fr n0 L) ∧ (h = h0)
set_option maxRecDepth 65536 in
set_option maxHeartbeats 40000000 in
theorem rie_2 (l : Launch) (Z : State) (a0 : Array Value) (hw : ∀ d ∈ tables_1, d.before a0 Z = true) (ws : List Jvm.Cond) (a1 : Addr) (ax : Addr) (ka : ClassId) (vs : List Value) (h0 : Heap) (n0 : Nat) (Z0 : n0 ≤ h0.size) (pr1 : Fld Z h0 a1 "java/lang/String" "value" "[B" (.ref ax)) (pr2 : Arv Z h0 ax ka .byte (2 : Int32) vs (.int (0 : Int32))) :
    MetFree l oM5 (head1 (Jvm.Cond.code oM5 jdk_42_method_55_code 1 (some .boolean) :: ws) ({ frames := 0, cells := 0, slots := 0, locals := 0 } : Room)) (fun a U => a = #[(.ref a1)] ∧ Z.Warmed39 U.vm ∧ U.heap = h0) (fun _ _ _ _ _ => True) (fun _ U o U' => ∃ v L, o = .returned v ∧ Qrie_2 Z a1 ax ka vs h0 n0 v U'.heap L ∧ FrameEnd U o U' L ({ frames := 0, cells := 0, slots := 0, locals := 0 } : Room).cells ({ frames := 0, cells := 0, slots := 0, locals := 0 } : Room).slots) := by
  refine MetFree.of_bodySF (plainFor_of_name pn_11) hisR ?_
  intro p e s m args below meth c s₁ Bd hml0 hP0 hK
  obtain ⟨rfl, hZ, hh⟩ := hP0
  have hx := Bd.exec
  have hby := Bd.bytes
  have hml : c.maxLocals = 1 := hml0
  have hown : s.vm.findClass oS0 = some m.cls := findClass_of_methodNamed Bd.named
  have hnm := (name_of_methodNamed Bd.named Bd.method).1
  have X0 : Stand p l e ({ frames := 0, cells := 0, slots := 0, locals := 0 } : Room) s m #[(.ref a1)] below meth c s₁ [] 0 0 := Stand.of_body Bd
  have e0 : s₁.heap = h0 := by rw [← hh, Bd.state]; rfl
  have N0 := Fr.nil n0
  suffices own_H : ∀ (P : State → Outcome → Prop), (∀ U o, U.status = .running → Ended U below o → (∃ v L, o = .returned v ∧ Qrie_2 Z a1 ax ka vs h0 n0 v U.heap L ∧ FrameEnd s o U L ({ frames := 0, cells := 0, slots := 0, locals := 0 } : Room).cells ({ frames := 0, cells := 0, slots := 0, locals := 0 } : Room).slots) → P U o) → own_Go p.tables e below P (s₁.setTop (mkF m 0 #[oR a1] [])) from own_go (fun _ k => castTop (ef_rie_2 m a1) k) (own_H _ (fun U o h1 h2 h3 => ⟨h1, h2, h3⟩))
  intro P hP
  have lt_a1 : @LT.lt Nat _ a1 h0.size := pr1.lt
  have lt_ax : @LT.lt Nat _ ax h0.size := pr2.lt
  refine own_go (st' := s₁.setTop (mkF m 1 #[oR a1] [(.ref a1)])) (fun _ k => XS.aloadN X0.here hx rfl (hb hby d11_0) rfl rfl k) ?_
  obtain ⟨T1, X1, e1, st1⟩ := getF X0 hx hZ hown (host := "") (Or.inl (own_hw hw 33)) Via.refl e0 pr1 (g := (mkF m 1 #[oR a1] [(.ref a1)])) rfl rfl (hb hby d11_1)
  refine own_go (st' := T1.setTop (mkF m 4 #[oR a1] [(.ref ax)])) (st1) ?_
  obtain ⟨cl2, Ar2, -, S2, M2, -, -⟩ := id pr2
  refine own_go (st' := T1.setTop (mkF m 5 #[oR a1] [(.int (2 : Int32))])) (fun t k => X1.arraylength hx (by rw [e1]; exact Ar2.1) (State.isArrayOf_alike hZ.alike Ar2.2.1) (g := (mkF m 4 #[oR a1] [(.ref ax)])) rfl rfl (hb hby d11_4) t (by rw [len_of S2 M2]; exact k)) ?_
  have hc3 : ¬ ((2 : Int32) = (0 : Int32)) := by decide
  refine own_go (st' := T1.setTop (mkF m 12 #[oR a1] [])) (fun _ k => XS.ifYes X1.here hx rfl (pc0 := 5) (pc' := 12) rfl (hb hby d11_5) rfl ((if0 _ _).trans (feq hc3).2) (by decide) (by decide) k) ?_
  refine own_go (st' := T1.setTop (mkF m 13 #[oR a1] [(.int (0 : Int32))])) (fun _ k => XS.iconst X1.here hx rfl (hb hby d11_12) k) ?_
  obtain ⟨fs, hr, hrun, hended, hW, hsame⟩ := X1.leave (v := some (.int (0 : Int32))) (fun h => by rw [Bd.returns] at h; cases h)
  refine ⟨_, _, ?_, hP _ _ hrun hended ⟨_, _, rfl, ?_, ⟨_, rfl⟩, hW, hsame.mono (by decide) (by decide)⟩⟩
  · exact retN X1 hx (t := .boolean) Bd.returns (by simp) (hb hby d11_13) hr
  · show Qrie_2 Z a1 ax ka vs h0 n0 _ T1.heap _
    rw [e1]
    exact ⟨rfl, N0, rfl⟩
theorem d13_0 : decode jdk_42_method_66_code 0 = .ok (.aload_n 0, 1) := by decide +kernel
theorem d13_1 : decode jdk_42_method_66_code 1 = .ok (.aload_n 1, 1) := by decide +kernel
theorem d13_2 : decode jdk_42_method_66_code 2 = .ok (.if_acmp .ne 5, 3) := by decide +kernel
theorem d13_5 : decode jdk_42_method_66_code 5 = .ok (.iconst 1, 1) := by decide +kernel
theorem d13_6 : decode jdk_42_method_66_code 6 = .ok (.ireturn, 1) := by decide +kernel
theorem pn_13 : plainName "java/lang/String" = true := by first | (simp [plainName, overriddenIn]; done) | decide +kernel
theorem ef_rse_same (m : MethodId) (x0 : Addr) (x1 : Addr) : entryFrame m #[(.ref x0), (.ref x1)] 3 = mkF m 0 #[.val (.ref x0), .val (.ref x1), .unset] [] := by first | (simp [entryFrame, mkF, argsToLocals, Value.category]; done) | rfl
def Qrse_same (Z : State) (a1 : Addr) (h0 : Heap) (n0 : Nat) (v : Option Value) (h : Heap) (L : List Loc) : Prop := (v = some (.int (1 : Int32))) ∧ (Fr n0 L) ∧ (h = h0)
set_option maxRecDepth 65536 in
set_option maxHeartbeats 40000000 in
theorem rse_same (l : Launch) (Z : State) (a0 : Array Value) (hw : ∀ d ∈ tables_1, d.before a0 Z = true) (ws : List Jvm.Cond) (a1 : Addr) (h0 : Heap) (n0 : Nat) (Z0 : n0 ≤ h0.size)  :
    MetFree l oM1 (head1 (Jvm.Cond.code oM1 jdk_42_method_66_code 3 (some .boolean) :: ws) ({ frames := 0, cells := 0, slots := 0, locals := 0 } : Room)) (fun a U => a = #[(.ref a1), (.ref a1)] ∧ Z.Warmed39 U.vm ∧ U.heap = h0) (fun _ _ _ _ _ => True) (fun _ U o U' => ∃ v L, o = .returned v ∧ Qrse_same Z a1 h0 n0 v U'.heap L ∧ FrameEnd U o U' L ({ frames := 0, cells := 0, slots := 0, locals := 0 } : Room).cells ({ frames := 0, cells := 0, slots := 0, locals := 0 } : Room).slots) := by
  refine MetFree.of_bodySF (plainFor_of_name pn_13) hisR ?_
  intro p e s m args below meth c s₁ Bd hml0 hP0 hK
  obtain ⟨rfl, hZ, hh⟩ := hP0
  have hx := Bd.exec
  have hby := Bd.bytes
  have hml : c.maxLocals = 3 := hml0
  have hown : s.vm.findClass oS0 = some m.cls := findClass_of_methodNamed Bd.named
  have hnm := (name_of_methodNamed Bd.named Bd.method).1
  have X0 : Stand p l e ({ frames := 0, cells := 0, slots := 0, locals := 0 } : Room) s m #[(.ref a1), (.ref a1)] below meth c s₁ [] 0 0 := Stand.of_body Bd
  have e0 : s₁.heap = h0 := by rw [← hh, Bd.state]; rfl
  have N0 := Fr.nil n0
  suffices own_H : ∀ (P : State → Outcome → Prop), (∀ U o, U.status = .running → Ended U below o → (∃ v L, o = .returned v ∧ Qrse_same Z a1 h0 n0 v U.heap L ∧ FrameEnd s o U L ({ frames := 0, cells := 0, slots := 0, locals := 0 } : Room).cells ({ frames := 0, cells := 0, slots := 0, locals := 0 } : Room).slots) → P U o) → own_Go p.tables e below P (s₁.setTop (mkF m 0 #[oR a1, oR a1, .unset] [])) from own_go (fun _ k => castTop (ef_rse_same m a1 a1) k) (own_H _ (fun U o h1 h2 h3 => ⟨h1, h2, h3⟩))
  intro P hP
  refine own_go (st' := s₁.setTop (mkF m 1 #[oR a1, oR a1, .unset] [(.ref a1)])) (fun _ k => XS.aloadN X0.here hx rfl (hb hby d13_0) rfl rfl k) ?_
  refine own_go (st' := s₁.setTop (mkF m 2 #[oR a1, oR a1, .unset] [(.ref a1), (.ref a1)])) (fun _ k => XS.aloadN X0.here hx rfl (hb hby d13_1) rfl rfl k) ?_
  refine own_go (st' := s₁.setTop (mkF m 5 #[oR a1, oR a1, .unset] [])) (fun _ k => Jvm.RoadKit.acmp (g := (mkF m 2 #[oR a1, oR a1, .unset] [(.ref a1), (.ref a1)])) X0 hx rfl rfl rfl (pc0 := 2) (pc' := 5) (same := true) rfl (hb hby d13_2) rfl (decide_eq_true rfl) (by decide) (by decide) k) ?_
  refine own_go (st' := s₁.setTop (mkF m 6 #[oR a1, oR a1, .unset] [(.int (1 : Int32))])) (fun _ k => XS.iconst X0.here hx rfl (hb hby d13_5) k) ?_
  obtain ⟨fs, hr, hrun, hended, hW, hsame⟩ := X0.leave (v := some (.int (1 : Int32))) (fun h => by rw [Bd.returns] at h; cases h)
  refine ⟨_, _, ?_, hP _ _ hrun hended ⟨_, _, rfl, ?_, ⟨_, rfl⟩, hW, hsame.mono (by decide) (by decide)⟩⟩
  · exact retN X0 hx (t := .boolean) Bd.returns (by simp) (hb hby d13_6) hr
  · show Qrse_same Z a1 h0 n0 _ s₁.heap _
    rw [e0]
    exact ⟨rfl, N0, rfl⟩
theorem d17_0 : decode jdk_43_method_13_code 0 = .ok (.aload_n 0, 1) := by decide +kernel
theorem d17_1 : decode jdk_43_method_13_code 1 = .ok (.arraylength, 1) := by decide +kernel
theorem d17_2 : decode jdk_43_method_13_code 2 = .ok (.aload_n 1, 1) := by decide +kernel
theorem d17_3 : decode jdk_43_method_13_code 3 = .ok (.arraylength, 1) := by decide +kernel
theorem d17_4 : decode jdk_43_method_13_code 4 = .ok (.if_icmp .ne 30, 3) := by decide +kernel
theorem d17_7 : decode jdk_43_method_13_code 7 = .ok (.iconst 0, 1) := by decide +kernel
theorem d17_8 : decode jdk_43_method_13_code 8 = .ok (.istore_n 2, 1) := by decide +kernel
theorem d17_9 : decode jdk_43_method_13_code 9 = .ok (.iload_n 2, 1) := by decide +kernel
theorem d17_10 : decode jdk_43_method_13_code 10 = .ok (.aload_n 0, 1) := by decide +kernel
theorem d17_11 : decode jdk_43_method_13_code 11 = .ok (.arraylength, 1) := by decide +kernel
theorem d17_12 : decode jdk_43_method_13_code 12 = .ok (.if_icmp .ge 20, 3) := by decide +kernel
theorem d17_15 : decode jdk_43_method_13_code 15 = .ok (.aload_n 0, 1) := by decide +kernel
theorem d17_16 : decode jdk_43_method_13_code 16 = .ok (.iload_n 2, 1) := by decide +kernel
theorem d17_17 : decode jdk_43_method_13_code 17 = .ok (.baload, 1) := by decide +kernel
theorem d17_18 : decode jdk_43_method_13_code 18 = .ok (.aload_n 1, 1) := by decide +kernel
theorem d17_19 : decode jdk_43_method_13_code 19 = .ok (.iload_n 2, 1) := by decide +kernel
theorem d17_20 : decode jdk_43_method_13_code 20 = .ok (.baload, 1) := by decide +kernel
theorem d17_21 : decode jdk_43_method_13_code 21 = .ok (.if_icmp .eq 5, 3) := by decide +kernel
theorem d17_24 : decode jdk_43_method_13_code 24 = .ok (.iconst 0, 1) := by decide +kernel
theorem d17_25 : decode jdk_43_method_13_code 25 = .ok (.ireturn, 1) := by decide +kernel
theorem d17_26 : decode jdk_43_method_13_code 26 = .ok (.iinc 2 1, 3) := by decide +kernel
theorem d17_29 : decode jdk_43_method_13_code 29 = .ok (.goto (-20), 3) := by decide +kernel
theorem d17_32 : decode jdk_43_method_13_code 32 = .ok (.iconst 1, 1) := by decide +kernel
theorem d17_33 : decode jdk_43_method_13_code 33 = .ok (.ireturn, 1) := by decide +kernel
theorem pn_17 : plainName "java/lang/StringLatin1" = true := by first | (simp [plainName, overriddenIn]; done) | decide +kernel
theorem ef_rle_11 (m : MethodId) (x0 : Addr) (x1 : Addr) : entryFrame m #[(.ref x0), (.ref x1)] 3 = mkF m 0 #[.val (.ref x0), .val (.ref x1), .unset] [] := by first | (simp [entryFrame, mkF, argsToLocals, Value.category]; done) | rfl
def Qrle_11 (Z : State) (ax : Addr) (ka : ClassId) (ay : Addr) (kb : ClassId) (w0 : Int32) (z0 : Int32) (h0 : Heap) (n0 : Nat) (v : Option Value) (h : Heap) (L : List Loc) : Prop := (v = some (.int (own_eq1 w0 z0))) ∧ (Fr n0 L) ∧ (h = h0)
set_option maxRecDepth 65536 in
set_option maxHeartbeats 40000000 in
theorem rle_11 (l : Launch) (Z : State) (a0 : Array Value) (hw : ∀ d ∈ tables_1, d.before a0 Z = true) (ws : List Jvm.Cond) (ax : Addr) (ka : ClassId) (ay : Addr) (kb : ClassId) (w0 : Int32) (z0 : Int32) (h0 : Heap) (n0 : Nat) (Z0 : n0 ≤ h0.size) (pr1 : Arv Z h0 ax ka .byte (1 : Int32) [(.int w0)] (.int (0 : Int32))) (pr2 : Arv Z h0 ay kb .byte (1 : Int32) [(.int z0)] (.int (0 : Int32))) :
    MetFree l oM2 (head1 (Jvm.Cond.code oM2 jdk_43_method_13_code 3 (some .boolean) :: ws) ({ frames := 0, cells := 0, slots := 0, locals := 0 } : Room)) (fun a U => a = #[(.ref ax), (.ref ay)] ∧ Z.Warmed39 U.vm ∧ U.heap = h0) (fun _ _ _ _ _ => True) (fun _ U o U' => ∃ v L, o = .returned v ∧ Qrle_11 Z ax ka ay kb w0 z0 h0 n0 v U'.heap L ∧ FrameEnd U o U' L ({ frames := 0, cells := 0, slots := 0, locals := 0 } : Room).cells ({ frames := 0, cells := 0, slots := 0, locals := 0 } : Room).slots) := by
  refine MetFree.of_bodySF (plainFor_of_name pn_17) hisR ?_
  intro p e s m args below meth c s₁ Bd hml0 hP0 hK
  obtain ⟨rfl, hZ, hh⟩ := hP0
  have hx := Bd.exec
  have hby := Bd.bytes
  have hml : c.maxLocals = 3 := hml0
  have hown : s.vm.findClass "java/lang/StringLatin1" = some m.cls := findClass_of_methodNamed Bd.named
  have hnm := (name_of_methodNamed Bd.named Bd.method).1
  have X0 : Stand p l e ({ frames := 0, cells := 0, slots := 0, locals := 0 } : Room) s m #[(.ref ax), (.ref ay)] below meth c s₁ [] 0 0 := Stand.of_body Bd
  have e0 : s₁.heap = h0 := by rw [← hh, Bd.state]; rfl
  have N0 := Fr.nil n0
  suffices own_H : ∀ (P : State → Outcome → Prop), (∀ U o, U.status = .running → Ended U below o → (∃ v L, o = .returned v ∧ Qrle_11 Z ax ka ay kb w0 z0 h0 n0 v U.heap L ∧ FrameEnd s o U L ({ frames := 0, cells := 0, slots := 0, locals := 0 } : Room).cells ({ frames := 0, cells := 0, slots := 0, locals := 0 } : Room).slots) → P U o) → own_Go p.tables e below P (s₁.setTop (mkF m 0 #[oR ax, oR ay, .unset] [])) from own_go (fun _ k => castTop (ef_rle_11 m ax ay) k) (own_H _ (fun U o h1 h2 h3 => ⟨h1, h2, h3⟩))
  intro P hP
  have lt_ax : @LT.lt Nat _ ax h0.size := pr1.lt
  have lt_ay : @LT.lt Nat _ ay h0.size := pr2.lt
  refine own_go (st' := s₁.setTop (mkF m 1 #[oR ax, oR ay, .unset] [(.ref ax)])) (fun _ k => XS.aloadN X0.here hx rfl (hb hby d17_0) rfl rfl k) ?_
  obtain ⟨cl1, Ar1, -, S1, M1, -, -⟩ := id pr1
  refine own_go (st' := s₁.setTop (mkF m 2 #[oR ax, oR ay, .unset] [(.int (1 : Int32))])) (fun t k => X0.arraylength hx (by rw [e0]; exact Ar1.1) (State.isArrayOf_alike hZ.alike Ar1.2.1) (g := (mkF m 1 #[oR ax, oR ay, .unset] [(.ref ax)])) rfl rfl (hb hby d17_1) t (by rw [len_of S1 M1]; exact k)) ?_
  refine own_go (st' := s₁.setTop (mkF m 3 #[oR ax, oR ay, .unset] [(.ref ay), (.int (1 : Int32))])) (fun _ k => XS.aloadN X0.here hx rfl (hb hby d17_2) rfl rfl k) ?_
  obtain ⟨cl2, Ar2, -, S2, M2, -, -⟩ := id pr2
  refine own_go (st' := s₁.setTop (mkF m 4 #[oR ax, oR ay, .unset] [(.int (1 : Int32)), (.int (1 : Int32))])) (fun t k => X0.arraylength hx (by rw [e0]; exact Ar2.1) (State.isArrayOf_alike hZ.alike Ar2.2.1) (g := (mkF m 3 #[oR ax, oR ay, .unset] [(.ref ay), (.int (1 : Int32))])) rfl rfl (hb hby d17_3) t (by rw [len_of S2 M2]; exact k)) ?_
  have hc3 : (1 : Int32) = (1 : Int32) := by decide
  refine own_go (st' := s₁.setTop (mkF m 7 #[oR ax, oR ay, .unset] [])) (fun _ k => XS.icmpNo X0.here hx rfl (hb hby d17_4) rfl (teq hc3).2 k) ?_
  refine own_go (st' := s₁.setTop (mkF m 8 #[oR ax, oR ay, .unset] [(.int (0 : Int32))])) (fun _ k => XS.iconst X0.here hx rfl (hb hby d17_7) k) ?_
  refine own_go (st' := s₁.setTop (mkF m 9 #[oR ax, oR ay, oi 0] [])) (fun _ k => XS.istoreN X0.here hx rfl (hb hby d17_8) rfl (l' := #[oR ax, oR ay, oi 0]) rfl k) ?_
  refine own_go (st' := s₁.setTop (mkF m 10 #[oR ax, oR ay, oi 0] [(.int (0 : Int32))])) (fun _ k => XS.iloadN X0.here hx rfl (hb hby d17_9) rfl k) ?_
  refine own_go (st' := s₁.setTop (mkF m 11 #[oR ax, oR ay, oi 0] [(.ref ax), (.int (0 : Int32))])) (fun _ k => XS.aloadN X0.here hx rfl (hb hby d17_10) rfl rfl k) ?_
  obtain ⟨cl4, Ar4, -, S4, M4, -, -⟩ := id pr1
  refine own_go (st' := s₁.setTop (mkF m 12 #[oR ax, oR ay, oi 0] [(.int (1 : Int32)), (.int (0 : Int32))])) (fun t k => X0.arraylength hx (by rw [e0]; exact Ar4.1) (State.isArrayOf_alike hZ.alike Ar4.2.1) (g := (mkF m 11 #[oR ax, oR ay, oi 0] [(.ref ax), (.int (0 : Int32))])) rfl rfl (hb hby d17_11) t (by rw [len_of S4 M4]; exact k)) ?_
  have hc5 : (0 : Int32) < (1 : Int32) := by decide
  refine own_go (st' := s₁.setTop (mkF m 15 #[oR ax, oR ay, oi 0] [])) (fun _ k => XS.icmpNo X0.here hx rfl (hb hby d17_12) rfl (tlt hc5).2.1 k) ?_
  refine own_go (st' := s₁.setTop (mkF m 16 #[oR ax, oR ay, oi 0] [(.ref ax)])) (fun _ k => XS.aloadN X0.here hx rfl (hb hby d17_15) rfl rfl k) ?_
  refine own_go (st' := s₁.setTop (mkF m 17 #[oR ax, oR ay, oi 0] [(.int (0 : Int32)), (.ref ax)])) (fun _ k => XS.iloadN X0.here hx rfl (hb hby d17_16) rfl k) ?_
  obtain ⟨cl6, Ar6, -, S6, M6, H6, -⟩ := id pr1
  have hin6 : ¬ ((0 : Int32) < 0 ∨ cl6.slots.size ≤ ((0 : Int32)).toNatClampNeg) := (inb_of S6 ⟨by decide, by decide⟩)
  have hat6 : cl6.slots[((0 : Int32)).toNatClampNeg]? = some (.int w0) := (H6.at hin6 rfl)
  refine own_go (st' := s₁.setTop (mkF m 18 #[oR ax, oR ay, oi 0] [(.int w0)])) (X0.baloadBytes hx (j := (0 : Int32)) (v := (.int w0)) (by rw [e0]; exact Ar6.1) (State.isArrayOf_alike hZ.alike Ar6.2.1) Ar6.2.2 hin6 hat6 (g := (mkF m 17 #[oR ax, oR ay, oi 0] [(.int (0 : Int32)), (.ref ax)])) rfl rfl (hb hby d17_17)) ?_
  refine own_go (st' := s₁.setTop (mkF m 19 #[oR ax, oR ay, oi 0] [(.ref ay), (.int w0)])) (fun _ k => XS.aloadN X0.here hx rfl (hb hby d17_18) rfl rfl k) ?_
  refine own_go (st' := s₁.setTop (mkF m 20 #[oR ax, oR ay, oi 0] [(.int (0 : Int32)), (.ref ay), (.int w0)])) (fun _ k => XS.iloadN X0.here hx rfl (hb hby d17_19) rfl k) ?_
  obtain ⟨cl7, Ar7, -, S7, M7, H7, -⟩ := id pr2
  have hin7 : ¬ ((0 : Int32) < 0 ∨ cl7.slots.size ≤ ((0 : Int32)).toNatClampNeg) := (inb_of S7 ⟨by decide, by decide⟩)
  have hat7 : cl7.slots[((0 : Int32)).toNatClampNeg]? = some (.int z0) := (H7.at hin7 rfl)
  refine own_go (st' := s₁.setTop (mkF m 21 #[oR ax, oR ay, oi 0] [(.int z0), (.int w0)])) (X0.baloadBytes hx (j := (0 : Int32)) (v := (.int z0)) (by rw [e0]; exact Ar7.1) (State.isArrayOf_alike hZ.alike Ar7.2.1) Ar7.2.2 hin7 hat7 (g := (mkF m 20 #[oR ax, oR ay, oi 0] [(.int (0 : Int32)), (.ref ay), (.int w0)])) rfl rfl (hb hby d17_20)) ?_
  by_cases hc8 : w0 = z0
  · --
    refine own_go (st' := s₁.setTop (mkF m 26 #[oR ax, oR ay, oi 0] [])) (fun _ k => XS.icmpYes X0.here hx rfl (pc0 := 21) (pc' := 26) rfl (hb hby d17_21) rfl (teq hc8).1 (by decide) (by decide) k) ?_
    refine own_go (st' := s₁.setTop (mkF m 29 #[oR ax, oR ay, oi 1] [])) (fun _ k => XS.iinc X0.here hx rfl (hb hby d17_26) rfl (l' := #[oR ax, oR ay, oi 1]) (by rw [show ((0 : Int32) + Int32.ofInt 1) = (1 : Int32) by decide]; rfl) k) ?_
    refine own_go (st' := s₁.setTop (mkF m 9 #[oR ax, oR ay, oi 1] [])) (fun _ k => XS.goto X0.here hx rfl (pc0 := 29) (pc' := 9) rfl (hb hby d17_29) (by decide) (by decide) k) ?_
    refine own_go (st' := s₁.setTop (mkF m 10 #[oR ax, oR ay, oi 1] [(.int (1 : Int32))])) (fun _ k => XS.iloadN X0.here hx rfl (hb hby d17_9) rfl k) ?_
    refine own_go (st' := s₁.setTop (mkF m 11 #[oR ax, oR ay, oi 1] [(.ref ax), (.int (1 : Int32))])) (fun _ k => XS.aloadN X0.here hx rfl (hb hby d17_10) rfl rfl k) ?_
    obtain ⟨cl9, Ar9, -, S9, M9, -, -⟩ := id pr1
    refine own_go (st' := s₁.setTop (mkF m 12 #[oR ax, oR ay, oi 1] [(.int (1 : Int32)), (.int (1 : Int32))])) (fun t k => X0.arraylength hx (by rw [e0]; exact Ar9.1) (State.isArrayOf_alike hZ.alike Ar9.2.1) (g := (mkF m 11 #[oR ax, oR ay, oi 1] [(.ref ax), (.int (1 : Int32))])) rfl rfl (hb hby d17_11) t (by rw [len_of S9 M9]; exact k)) ?_
    have hc10 : ¬ ((1 : Int32) < (1 : Int32)) := by decide
    refine own_go (st' := s₁.setTop (mkF m 32 #[oR ax, oR ay, oi 1] [])) (fun _ k => XS.icmpYes X0.here hx rfl (pc0 := 12) (pc' := 32) rfl (hb hby d17_12) rfl (flt hc10).2.1 (by decide) (by decide) k) ?_
    refine own_go (st' := s₁.setTop (mkF m 33 #[oR ax, oR ay, oi 1] [(.int (1 : Int32))])) (fun _ k => XS.iconst X0.here hx rfl (hb hby d17_32) k) ?_
    obtain ⟨fs, hr, hrun, hended, hW, hsame⟩ := X0.leave (v := some (.int (1 : Int32))) (fun h => by rw [Bd.returns] at h; cases h)
    refine ⟨_, _, ?_, hP _ _ hrun hended ⟨_, _, rfl, ?_, ⟨_, rfl⟩, hW, hsame.mono (by decide) (by decide)⟩⟩
    · exact retN X0 hx (t := .boolean) Bd.returns (by simp) (hb hby d17_33) hr
    · show Qrle_11 Z ax ka ay kb w0 z0 h0 n0 _ s₁.heap _
      rw [e0]
      exact ⟨(by unfold own_eq1; rw [if_pos hc8]), N0, rfl⟩
  · --
    refine own_go (st' := s₁.setTop (mkF m 24 #[oR ax, oR ay, oi 0] [])) (fun _ k => XS.icmpNo X0.here hx rfl (hb hby d17_21) rfl (feq hc8).1 k) ?_
    refine own_go (st' := s₁.setTop (mkF m 25 #[oR ax, oR ay, oi 0] [(.int (0 : Int32))])) (fun _ k => XS.iconst X0.here hx rfl (hb hby d17_24) k) ?_
    obtain ⟨fs, hr, hrun, hended, hW, hsame⟩ := X0.leave (v := some (.int (0 : Int32))) (fun h => by rw [Bd.returns] at h; cases h)
    refine ⟨_, _, ?_, hP _ _ hrun hended ⟨_, _, rfl, ?_, ⟨_, rfl⟩, hW, hsame.mono (by decide) (by decide)⟩⟩
    · exact retN X0 hx (t := .boolean) Bd.returns (by simp) (hb hby d17_25) hr
    · show Qrle_11 Z ax ka ay kb w0 z0 h0 n0 _ s₁.heap _
      rw [e0]
      exact ⟨(by unfold own_eq1; rw [if_neg hc8]), N0, rfl⟩
theorem pd_6 : parseMethodDescriptor "([B[B)Z" = some ⟨[(.array .byte), (.array .byte)], some .boolean⟩ := by decide +kernel
theorem d13_7 : decode jdk_42_method_66_code 7 = .ok (.aload_n 1, 1) := by decide +kernel
theorem d13_8 : decode jdk_42_method_66_code 8 = .ok (.instanceof 10, 3) := by decide +kernel
theorem d13_11 : decode jdk_42_method_66_code 11 = .ok (.ifCond .eq 43, 3) := by decide +kernel
theorem d13_14 : decode jdk_42_method_66_code 14 = .ok (.aload_n 1, 1) := by decide +kernel
theorem d13_15 : decode jdk_42_method_66_code 15 = .ok (.checkcast 10, 3) := by decide +kernel
theorem d13_18 : decode jdk_42_method_66_code 18 = .ok (.astore_n 2, 1) := by decide +kernel
theorem d13_19 : decode jdk_42_method_66_code 19 = .ok (.getstatic 38, 3) := by decide +kernel
theorem d13_22 : decode jdk_42_method_66_code 22 = .ok (.ifCond .eq 14, 3) := by decide +kernel
theorem d13_25 : decode jdk_42_method_66_code 25 = .ok (.aload_n 0, 1) := by decide +kernel
theorem d13_26 : decode jdk_42_method_66_code 26 = .ok (.getfield 15, 3) := by decide +kernel
theorem d13_29 : decode jdk_42_method_66_code 29 = .ok (.aload_n 2, 1) := by decide +kernel
theorem d13_30 : decode jdk_42_method_66_code 30 = .ok (.getfield 15, 3) := by decide +kernel
theorem d13_33 : decode jdk_42_method_66_code 33 = .ok (.if_icmp .ne 21, 3) := by decide +kernel
theorem d13_36 : decode jdk_42_method_66_code 36 = .ok (.aload_n 0, 1) := by decide +kernel
theorem d13_37 : decode jdk_42_method_66_code 37 = .ok (.getfield 9, 3) := by decide +kernel
theorem d13_40 : decode jdk_42_method_66_code 40 = .ok (.aload_n 2, 1) := by decide +kernel
theorem d13_41 : decode jdk_42_method_66_code 41 = .ok (.getfield 9, 3) := by decide +kernel
theorem d13_44 : decode jdk_42_method_66_code 44 = .ok (.invokestatic 541, 3) := by decide +kernel
theorem d13_47 : decode jdk_42_method_66_code 47 = .ok (.ifCond .eq 7, 3) := by decide +kernel
theorem d13_50 : decode jdk_42_method_66_code 50 = .ok (.iconst 1, 1) := by decide +kernel
theorem d13_51 : decode jdk_42_method_66_code 51 = .ok (.goto 4, 3) := by decide +kernel
theorem d13_54 : decode jdk_42_method_66_code 54 = .ok (.iconst 0, 1) := by decide +kernel
theorem d13_55 : decode jdk_42_method_66_code 55 = .ok (.ireturn, 1) := by decide +kernel
theorem ef_rse_11 (m : MethodId) (x0 : Addr) (x1 : Addr) : entryFrame m #[(.ref x0), (.ref x1)] 3 = mkF m 0 #[.val (.ref x0), .val (.ref x1), .unset] [] := by first | (simp [entryFrame, mkF, argsToLocals, Value.category]; done) | rfl
def Qrse_11 (Z : State) (a1 : Addr) (a2 : Addr) (zc : Int32) (ax : Addr) (ka : ClassId) (ay : Addr) (kb : ClassId) (w0 : Int32) (z0 : Int32) (h0 : Heap) (n0 : Nat) (v : Option Value) (h : Heap) (L : List Loc) : Prop := (v = some (.int (own_eq1 w0 z0))) ∧ (Fr n0 L) ∧ (h = h0)
set_option maxRecDepth 65536 in
set_option maxHeartbeats 40000000 in
theorem rse_11 (l : Launch) (Z : State) (a0 : Array Value) (hw : ∀ d ∈ tables_1, d.before a0 Z = true) (ws : List Jvm.Cond) (a1 : Addr) (a2 : Addr) (zc : Int32) (ax : Addr) (ka : ClassId) (ay : Addr) (kb : ClassId) (w0 : Int32) (z0 : Int32) (h0 : Heap) (n0 : Nat) (Z0 : n0 ≤ h0.size) (pr1 : Sta Z h0 "java/lang/String" "COMPACT_STRINGS" "Z" (.int zc)) (hzc : ¬ zc = (0 : Int32)) (pr2 : @Ne Nat a1 a2) (pr3 : Exa Z h0 a1 "java/lang/String") (pr4 : Fld Z h0 a1 "java/lang/String" "value" "[B" (.ref ax)) (pr5 : Fld Z h0 a1 "java/lang/String" "coder" "B" (.int (0 : Int32))) (pr6 : Exa Z h0 a2 "java/lang/String") (pr7 : Fld Z h0 a2 "java/lang/String" "value" "[B" (.ref ay)) (pr8 : Fld Z h0 a2 "java/lang/String" "coder" "B" (.int (0 : Int32))) (pr9 : Arv Z h0 ax ka .byte (1 : Int32) [(.int w0)] (.int (0 : Int32))) (pr10 : Arv Z h0 ay kb .byte (1 : Int32) [(.int z0)] (.int (0 : Int32))) :
    MetFree l oM1 (head1 (Jvm.Cond.code oM1 jdk_42_method_66_code 3 (some .boolean) :: ws) ({ frames := 1, cells := 0, slots := 0, locals := 14 } : Room)) (fun a U => a = #[(.ref a1), (.ref a2)] ∧ Z.Warmed39 U.vm ∧ U.heap = h0) (fun _ _ _ _ _ => True) (fun _ U o U' => ∃ v L, o = .returned v ∧ Qrse_11 Z a1 a2 zc ax ka ay kb w0 z0 h0 n0 v U'.heap L ∧ FrameEnd U o U' L ({ frames := 1, cells := 0, slots := 0, locals := 14 } : Room).cells ({ frames := 1, cells := 0, slots := 0, locals := 14 } : Room).slots) := by
  refine MetFree.of_bodySF (plainFor_of_name pn_13) hisR ?_
  intro p e s m args below meth c s₁ Bd hml0 hP0 hK
  obtain ⟨rfl, hZ, hh⟩ := hP0
  have hx := Bd.exec
  have hby := Bd.bytes
  have hml : c.maxLocals = 3 := hml0
  have hown : s.vm.findClass oS0 = some m.cls := findClass_of_methodNamed Bd.named
  have hnm := (name_of_methodNamed Bd.named Bd.method).1
  have X0 : Stand p l e ({ frames := 1, cells := 0, slots := 0, locals := 14 } : Room) s m #[(.ref a1), (.ref a2)] below meth c s₁ [] 0 0 := Stand.of_body Bd
  have e0 : s₁.heap = h0 := by rw [← hh, Bd.state]; rfl
  have N0 := Fr.nil n0
  suffices own_H : ∀ (P : State → Outcome → Prop), (∀ U o, U.status = .running → Ended U below o → (∃ v L, o = .returned v ∧ Qrse_11 Z a1 a2 zc ax ka ay kb w0 z0 h0 n0 v U.heap L ∧ FrameEnd s o U L ({ frames := 1, cells := 0, slots := 0, locals := 14 } : Room).cells ({ frames := 1, cells := 0, slots := 0, locals := 14 } : Room).slots) → P U o) → own_Go p.tables e below P (s₁.setTop (mkF m 0 #[oR a1, oR a2, .unset] [])) from own_go (fun _ k => castTop (ef_rse_11 m a1 a2) k) (own_H _ (fun U o h1 h2 h3 => ⟨h1, h2, h3⟩))
  intro P hP
  have lt_a1 : @LT.lt Nat _ a1 h0.size := pr3.lt
  have lt_a2 : @LT.lt Nat _ a2 h0.size := pr6.lt
  have lt_ax : @LT.lt Nat _ ax h0.size := pr9.lt
  have lt_ay : @LT.lt Nat _ ay h0.size := pr10.lt
  refine own_go (st' := s₁.setTop (mkF m 1 #[oR a1, oR a2, .unset] [(.ref a1)])) (fun _ k => XS.aloadN X0.here hx rfl (hb hby d13_0) rfl rfl k) ?_
  refine own_go (st' := s₁.setTop (mkF m 2 #[oR a1, oR a2, .unset] [(.ref a2), (.ref a1)])) (fun _ k => XS.aloadN X0.here hx rfl (hb hby d13_1) rfl rfl k) ?_
  have hc1 : ¬ (a1 = a2) := (fun q_ => (own_ne' (by assumption)) q_)
  refine own_go (st' := s₁.setTop (mkF m 7 #[oR a1, oR a2, .unset] [])) (fun _ k => Jvm.RoadKit.acmp (g := (mkF m 2 #[oR a1, oR a2, .unset] [(.ref a2), (.ref a1)])) X0 hx rfl rfl rfl (pc0 := 2) (pc' := 7) (same := false) rfl (hb hby d13_2) rfl (decide_eq_false fun q_ => hc1 (Value.ref.inj q_)) (by decide) (by decide) k) ?_
  refine own_go (st' := s₁.setTop (mkF m 8 #[oR a1, oR a2, .unset] [(.ref a2)])) (fun _ k => XS.aloadN X0.here hx rfl (hb hby d13_7) rfl rfl k) ?_
  obtain ⟨T2, X2, e2, st2⟩ := instY X0 hx hZ hown (own_hw hw 99) e0 (Ins.self pr6) (g := (mkF m 8 #[oR a1, oR a2, .unset] [(.ref a2)])) rfl rfl (hb hby d13_8)
  refine own_go (st' := T2.setTop (mkF m 11 #[oR a1, oR a2, .unset] [(.int (1 : Int32))])) (st2) ?_
  have hc3 : ¬ ((1 : Int32) = (0 : Int32)) := by decide
  refine own_go (st' := T2.setTop (mkF m 14 #[oR a1, oR a2, .unset] [])) (fun _ k => XS.ifNo X2.here hx rfl (hb hby d13_11) rfl ((if0 _ _).trans (feq hc3).1) k) ?_
  refine own_go (st' := T2.setTop (mkF m 15 #[oR a1, oR a2, .unset] [(.ref a2)])) (fun _ k => XS.aloadN X2.here hx rfl (hb hby d13_14) rfl rfl k) ?_
  obtain ⟨T4, X4, e4, st4⟩ := castY X2 hx hZ hown (own_hw hw 99) e2 (Ins.self pr6) (g := (mkF m 15 #[oR a1, oR a2, .unset] [(.ref a2)])) rfl rfl (hb hby d13_15)
  refine own_go (st' := T4.setTop (mkF m 18 #[oR a1, oR a2, .unset] [(.ref a2)])) (st4) ?_
  refine own_go (st' := T4.setTop (mkF m 19 #[oR a1, oR a2, oR a2] [])) (fun _ k => XS.astoreN X4.here hx rfl (hb hby d13_18) rfl rfl (l' := #[oR a1, oR a2, oR a2]) rfl k) ?_
  obtain ⟨T5, X5, e5, st5⟩ := getS2 X4 hx hZ hown (host := "") (Or.inl (own_hw hw 19)) Via.refl e4 pr1 (g := (mkF m 19 #[oR a1, oR a2, oR a2] [])) rfl (hb hby d13_19)
  refine own_go (st' := T5.setTop (mkF m 22 #[oR a1, oR a2, oR a2] [(.int zc)])) (st5) ?_
  have hc6 : ¬ (zc = (0 : Int32)) := hzc
  refine own_go (st' := T5.setTop (mkF m 25 #[oR a1, oR a2, oR a2] [])) (fun _ k => XS.ifNo X5.here hx rfl (hb hby d13_22) rfl ((if0 _ _).trans (feq hc6).1) k) ?_
  refine own_go (st' := T5.setTop (mkF m 26 #[oR a1, oR a2, oR a2] [(.ref a1)])) (fun _ k => XS.aloadN X5.here hx rfl (hb hby d13_25) rfl rfl k) ?_
  obtain ⟨T7, X7, e7, st7⟩ := getF X5 hx hZ hown (host := "") (Or.inl (own_hw hw 31)) Via.refl e5 pr5 (g := (mkF m 26 #[oR a1, oR a2, oR a2] [(.ref a1)])) rfl rfl (hb hby d13_26)
  refine own_go (st' := T7.setTop (mkF m 29 #[oR a1, oR a2, oR a2] [(.int (0 : Int32))])) (st7) ?_
  refine own_go (st' := T7.setTop (mkF m 30 #[oR a1, oR a2, oR a2] [(.ref a2), (.int (0 : Int32))])) (fun _ k => XS.aloadN X7.here hx rfl (hb hby d13_29) rfl rfl k) ?_
  obtain ⟨T8, X8, e8, st8⟩ := getF X7 hx hZ hown (host := "") (Or.inl (own_hw hw 31)) Via.refl e7 pr8 (g := (mkF m 30 #[oR a1, oR a2, oR a2] [(.ref a2), (.int (0 : Int32))])) rfl rfl (hb hby d13_30)
  refine own_go (st' := T8.setTop (mkF m 33 #[oR a1, oR a2, oR a2] [(.int (0 : Int32)), (.int (0 : Int32))])) (st8) ?_
  have hc9 : (0 : Int32) = (0 : Int32) := by decide
  refine own_go (st' := T8.setTop (mkF m 36 #[oR a1, oR a2, oR a2] [])) (fun _ k => XS.icmpNo X8.here hx rfl (hb hby d13_33) rfl (teq hc9).2 k) ?_
  refine own_go (st' := T8.setTop (mkF m 37 #[oR a1, oR a2, oR a2] [(.ref a1)])) (fun _ k => XS.aloadN X8.here hx rfl (hb hby d13_36) rfl rfl k) ?_
  obtain ⟨T10, X10, e10, st10⟩ := getF X8 hx hZ hown (host := "") (Or.inl (own_hw hw 33)) Via.refl e8 pr4 (g := (mkF m 37 #[oR a1, oR a2, oR a2] [(.ref a1)])) rfl rfl (hb hby d13_37)
  refine own_go (st' := T10.setTop (mkF m 40 #[oR a1, oR a2, oR a2] [(.ref ax)])) (st10) ?_
  refine own_go (st' := T10.setTop (mkF m 41 #[oR a1, oR a2, oR a2] [(.ref a2), (.ref ax)])) (fun _ k => XS.aloadN X10.here hx rfl (hb hby d13_40) rfl rfl k) ?_
  obtain ⟨T11, X11, e11, st11⟩ := getF X10 hx hZ hown (host := "") (Or.inl (own_hw hw 33)) Via.refl e10 pr7 (g := (mkF m 41 #[oR a1, oR a2, oR a2] [(.ref a2), (.ref ax)])) rfl rfl (hb hby d13_41)
  refine own_go (st' := T11.setTop (mkF m 44 #[oR a1, oR a2, oR a2] [(.ref ay), (.ref ax)])) (st11) ?_
  obtain ⟨_, _, ⟨T12, LC12, kC12, nC12⟩, -, X12, ⟨Lc12, hQ12, lq12, yq12, zq12⟩, st12⟩ := Jvm.LawKit.callS X11 hx (y := oM2) hown (mvT hZ (own_hw hw 100)) (mvT hZ (own_hw hw 101)) (mvT hZ (own_hw hw 102)) (mvT hZ (own_hw hw 103)) (by decide) (backOf (W := 0) (rle_11 l Z a0 hw [] ax ka ay kb w0 z0 h0 n0 (by omega) pr9 pr10) hZ (own_hw hw 103) (own_hw hw 102) (by decide) (by decide)) (g := (mkF m 44 #[oR a1, oR a2, oR a2] [(.ref ay), (.ref ax)])) rfl (by rw [hml]; rfl) (argsL := [(.ref ax), (.ref ay)]) (rest := []) (lenOf pd_6 rfl) rfl (by show 2 * 0 + _ ≤ _; exact Nat.le_of_eq rfl) (hb hby d13_44) (fun _ _ => ⟨rfl, e11, (by decide : 0 + 0 ≤ _), (by decide : 0 + 0 ≤ _)⟩)
  dsimp only [Pt.U, Pt.locs, Pt.cells, Pt.slots] at X12 lq12 yq12 zq12 st12 hQ12
  subst lq12 yq12 zq12
  obtain ⟨rfl, Nq12, eq12⟩ := hQ12
  have N12 := Fr.app N0 Nq12
  refine own_go (st' := T12.setTop (mkF m 47 #[oR a1, oR a2, oR a2] [(.int (own_eq1 w0 z0))])) (fun t k => st12 t k) ?_
  by_cases hc13 : (own_eq1 w0 z0) = (0 : Int32)
  · --
    refine own_go (st' := T12.setTop (mkF m 54 #[oR a1, oR a2, oR a2] [])) (fun _ k => XS.ifYes X12.here hx rfl (pc0 := 47) (pc' := 54) rfl (hb hby d13_47) rfl ((if0 _ _).trans (teq hc13).1) (by decide) (by decide) k) ?_
    refine own_go (st' := T12.setTop (mkF m 55 #[oR a1, oR a2, oR a2] [(.int (0 : Int32))])) (fun _ k => XS.iconst X12.here hx rfl (hb hby d13_54) k) ?_
    obtain ⟨fs, hr, hrun, hended, hW, hsame⟩ := X12.leave (v := some (.int (0 : Int32))) (fun h => by rw [Bd.returns] at h; cases h)
    refine ⟨_, _, ?_, hP _ _ hrun hended ⟨_, _, rfl, ?_, ⟨_, rfl⟩, hW, hsame.mono (by decide) (by decide)⟩⟩
    · exact retN X12 hx (t := .boolean) Bd.returns (by simp) (hb hby d13_55) hr
    · show Qrse_11 Z a1 a2 zc ax ka ay kb w0 z0 h0 n0 _ T12.heap _
      rw [eq12]
      exact ⟨(by rw [hc13]), N12, rfl⟩
  · --
    refine own_go (st' := T12.setTop (mkF m 50 #[oR a1, oR a2, oR a2] [])) (fun _ k => XS.ifNo X12.here hx rfl (hb hby d13_47) rfl ((if0 _ _).trans (feq hc13).1) k) ?_
    refine own_go (st' := T12.setTop (mkF m 51 #[oR a1, oR a2, oR a2] [(.int (1 : Int32))])) (fun _ k => XS.iconst X12.here hx rfl (hb hby d13_50) k) ?_
    refine own_go (st' := T12.setTop (mkF m 55 #[oR a1, oR a2, oR a2] [(.int (1 : Int32))])) (fun _ k => XS.goto X12.here hx rfl (pc0 := 51) (pc' := 55) rfl (hb hby d13_51) (by decide) (by decide) k) ?_
    obtain ⟨fs, hr, hrun, hended, hW, hsame⟩ := X12.leave (v := some (.int (1 : Int32))) (fun h => by rw [Bd.returns] at h; cases h)
    refine ⟨_, _, ?_, hP _ _ hrun hended ⟨_, _, rfl, ?_, ⟨_, rfl⟩, hW, hsame.mono (by decide) (by decide)⟩⟩
    · exact retN X12 hx (t := .boolean) Bd.returns (by simp) (hb hby d13_55) hr
    · show Qrse_11 Z a1 a2 zc ax ka ay kb w0 z0 h0 n0 _ T12.heap _
      rw [eq12]
      exact ⟨(by rw [own_eq1_one hc13]), N12, rfl⟩
theorem d17_34 : decode jdk_43_method_13_code 34 = .ok (.iconst 0, 1) := by decide +kernel
theorem d17_35 : decode jdk_43_method_13_code 35 = .ok (.ireturn, 1) := by decide +kernel
theorem ef_rle_12 (m : MethodId) (x0 : Addr) (x1 : Addr) : entryFrame m #[(.ref x0), (.ref x1)] 3 = mkF m 0 #[.val (.ref x0), .val (.ref x1), .unset] [] := by first | (simp [entryFrame, mkF, argsToLocals, Value.category]; done) | rfl
def Qrle_12 (Z : State) (ax : Addr) (ka : ClassId) (ay : Addr) (kb : ClassId) (w0 : Int32) (z0 : Int32) (z1 : Int32) (h0 : Heap) (n0 : Nat) (v : Option Value) (h : Heap) (L : List Loc) : Prop := (v = some (.int (0 : Int32))) ∧ (Fr n0 L) ∧ (h = h0)
set_option maxRecDepth 65536 in
set_option maxHeartbeats 40000000 in
theorem rle_12 (l : Launch) (Z : State) (a0 : Array Value) (hw : ∀ d ∈ tables_1, d.before a0 Z = true) (ws : List Jvm.Cond) (ax : Addr) (ka : ClassId) (ay : Addr) (kb : ClassId) (w0 : Int32) (z0 : Int32) (z1 : Int32) (h0 : Heap) (n0 : Nat) (Z0 : n0 ≤ h0.size) (pr1 : Arv Z h0 ax ka .byte (1 : Int32) [(.int w0)] (.int (0 : Int32))) (pr2 : Arv Z h0 ay kb .byte (2 : Int32) [(.int z0), (.int z1)] (.int (0 : Int32))) :
    MetFree l oM2 (head1 (Jvm.Cond.code oM2 jdk_43_method_13_code 3 (some .boolean) :: ws) ({ frames := 0, cells := 0, slots := 0, locals := 0 } : Room)) (fun a U => a = #[(.ref ax), (.ref ay)] ∧ Z.Warmed39 U.vm ∧ U.heap = h0) (fun _ _ _ _ _ => True) (fun _ U o U' => ∃ v L, o = .returned v ∧ Qrle_12 Z ax ka ay kb w0 z0 z1 h0 n0 v U'.heap L ∧ FrameEnd U o U' L ({ frames := 0, cells := 0, slots := 0, locals := 0 } : Room).cells ({ frames := 0, cells := 0, slots := 0, locals := 0 } : Room).slots) := by
  refine MetFree.of_bodySF (plainFor_of_name pn_17) hisR ?_
  intro p e s m args below meth c s₁ Bd hml0 hP0 hK
  obtain ⟨rfl, hZ, hh⟩ := hP0
  have hx := Bd.exec
  have hby := Bd.bytes
  have hml : c.maxLocals = 3 := hml0
  have hown : s.vm.findClass "java/lang/StringLatin1" = some m.cls := findClass_of_methodNamed Bd.named
  have hnm := (name_of_methodNamed Bd.named Bd.method).1
  have X0 : Stand p l e ({ frames := 0, cells := 0, slots := 0, locals := 0 } : Room) s m #[(.ref ax), (.ref ay)] below meth c s₁ [] 0 0 := Stand.of_body Bd
  have e0 : s₁.heap = h0 := by rw [← hh, Bd.state]; rfl
  have N0 := Fr.nil n0
  suffices own_H : ∀ (P : State → Outcome → Prop), (∀ U o, U.status = .running → Ended U below o → (∃ v L, o = .returned v ∧ Qrle_12 Z ax ka ay kb w0 z0 z1 h0 n0 v U.heap L ∧ FrameEnd s o U L ({ frames := 0, cells := 0, slots := 0, locals := 0 } : Room).cells ({ frames := 0, cells := 0, slots := 0, locals := 0 } : Room).slots) → P U o) → own_Go p.tables e below P (s₁.setTop (mkF m 0 #[oR ax, oR ay, .unset] [])) from own_go (fun _ k => castTop (ef_rle_12 m ax ay) k) (own_H _ (fun U o h1 h2 h3 => ⟨h1, h2, h3⟩))
  intro P hP
  have lt_ax : @LT.lt Nat _ ax h0.size := pr1.lt
  have lt_ay : @LT.lt Nat _ ay h0.size := pr2.lt
  refine own_go (st' := s₁.setTop (mkF m 1 #[oR ax, oR ay, .unset] [(.ref ax)])) (fun _ k => XS.aloadN X0.here hx rfl (hb hby d17_0) rfl rfl k) ?_
  obtain ⟨cl1, Ar1, -, S1, M1, -, -⟩ := id pr1
  refine own_go (st' := s₁.setTop (mkF m 2 #[oR ax, oR ay, .unset] [(.int (1 : Int32))])) (fun t k => X0.arraylength hx (by rw [e0]; exact Ar1.1) (State.isArrayOf_alike hZ.alike Ar1.2.1) (g := (mkF m 1 #[oR ax, oR ay, .unset] [(.ref ax)])) rfl rfl (hb hby d17_1) t (by rw [len_of S1 M1]; exact k)) ?_
  refine own_go (st' := s₁.setTop (mkF m 3 #[oR ax, oR ay, .unset] [(.ref ay), (.int (1 : Int32))])) (fun _ k => XS.aloadN X0.here hx rfl (hb hby d17_2) rfl rfl k) ?_
  obtain ⟨cl2, Ar2, -, S2, M2, -, -⟩ := id pr2
  refine own_go (st' := s₁.setTop (mkF m 4 #[oR ax, oR ay, .unset] [(.int (2 : Int32)), (.int (1 : Int32))])) (fun t k => X0.arraylength hx (by rw [e0]; exact Ar2.1) (State.isArrayOf_alike hZ.alike Ar2.2.1) (g := (mkF m 3 #[oR ax, oR ay, .unset] [(.ref ay), (.int (1 : Int32))])) rfl rfl (hb hby d17_3) t (by rw [len_of S2 M2]; exact k)) ?_
  have hc3 : ¬ ((1 : Int32) = (2 : Int32)) := by decide
  refine own_go (st' := s₁.setTop (mkF m 34 #[oR ax, oR ay, .unset] [])) (fun _ k => XS.icmpYes X0.here hx rfl (pc0 := 4) (pc' := 34) rfl (hb hby d17_4) rfl (feq hc3).2 (by decide) (by decide) k) ?_
  refine own_go (st' := s₁.setTop (mkF m 35 #[oR ax, oR ay, .unset] [(.int (0 : Int32))])) (fun _ k => XS.iconst X0.here hx rfl (hb hby d17_34) k) ?_
  obtain ⟨fs, hr, hrun, hended, hW, hsame⟩ := X0.leave (v := some (.int (0 : Int32))) (fun h => by rw [Bd.returns] at h; cases h)
  refine ⟨_, _, ?_, hP _ _ hrun hended ⟨_, _, rfl, ?_, ⟨_, rfl⟩, hW, hsame.mono (by decide) (by decide)⟩⟩
  · exact retN X0 hx (t := .boolean) Bd.returns (by simp) (hb hby d17_35) hr
  · show Qrle_12 Z ax ka ay kb w0 z0 z1 h0 n0 _ s₁.heap _
    rw [e0]
    exact ⟨rfl, N0, rfl⟩
theorem ef_rse_12 (m : MethodId) (x0 : Addr) (x1 : Addr) : entryFrame m #[(.ref x0), (.ref x1)] 3 = mkF m 0 #[.val (.ref x0), .val (.ref x1), .unset] [] := by first | (simp [entryFrame, mkF, argsToLocals, Value.category]; done) | rfl
def Qrse_12 (Z : State) (a1 : Addr) (a2 : Addr) (zc : Int32) (ax : Addr) (ka : ClassId) (ay : Addr) (kb : ClassId) (w0 : Int32) (z0 : Int32) (z1 : Int32) (h0 : Heap) (n0 : Nat) (v : Option Value) (h : Heap) (L : List Loc) : Prop := (v = some (.int (0 : Int32))) ∧ (Fr n0 L) ∧ (h = h0)
set_option maxRecDepth 65536 in
set_option maxHeartbeats 40000000 in
theorem rse_12 (l : Launch) (Z : State) (a0 : Array Value) (hw : ∀ d ∈ tables_1, d.before a0 Z = true) (ws : List Jvm.Cond) (a1 : Addr) (a2 : Addr) (zc : Int32) (ax : Addr) (ka : ClassId) (ay : Addr) (kb : ClassId) (w0 : Int32) (z0 : Int32) (z1 : Int32) (h0 : Heap) (n0 : Nat) (Z0 : n0 ≤ h0.size) (pr1 : Sta Z h0 "java/lang/String" "COMPACT_STRINGS" "Z" (.int zc)) (hzc : ¬ zc = (0 : Int32)) (pr2 : @Ne Nat a1 a2) (pr3 : Exa Z h0 a1 "java/lang/String") (pr4 : Fld Z h0 a1 "java/lang/String" "value" "[B" (.ref ax)) (pr5 : Fld Z h0 a1 "java/lang/String" "coder" "B" (.int (0 : Int32))) (pr6 : Exa Z h0 a2 "java/lang/String") (pr7 : Fld Z h0 a2 "java/lang/String" "value" "[B" (.ref ay)) (pr8 : Fld Z h0 a2 "java/lang/String" "coder" "B" (.int (0 : Int32))) (pr9 : Arv Z h0 ax ka .byte (1 : Int32) [(.int w0)] (.int (0 : Int32))) (pr10 : Arv Z h0 ay kb .byte (2 : Int32) [(.int z0), (.int z1)] (.int (0 : Int32))) :
    MetFree l oM1 (head1 (Jvm.Cond.code oM1 jdk_42_method_66_code 3 (some .boolean) :: ws) ({ frames := 1, cells := 0, slots := 0, locals := 14 } : Room)) (fun a U => a = #[(.ref a1), (.ref a2)] ∧ Z.Warmed39 U.vm ∧ U.heap = h0) (fun _ _ _ _ _ => True) (fun _ U o U' => ∃ v L, o = .returned v ∧ Qrse_12 Z a1 a2 zc ax ka ay kb w0 z0 z1 h0 n0 v U'.heap L ∧ FrameEnd U o U' L ({ frames := 1, cells := 0, slots := 0, locals := 14 } : Room).cells ({ frames := 1, cells := 0, slots := 0, locals := 14 } : Room).slots) := by
  refine MetFree.of_bodySF (plainFor_of_name pn_13) hisR ?_
  intro p e s m args below meth c s₁ Bd hml0 hP0 hK
  obtain ⟨rfl, hZ, hh⟩ := hP0
  have hx := Bd.exec
  have hby := Bd.bytes
  have hml : c.maxLocals = 3 := hml0
  have hown : s.vm.findClass oS0 = some m.cls := findClass_of_methodNamed Bd.named
  have hnm := (name_of_methodNamed Bd.named Bd.method).1
  have X0 : Stand p l e ({ frames := 1, cells := 0, slots := 0, locals := 14 } : Room) s m #[(.ref a1), (.ref a2)] below meth c s₁ [] 0 0 := Stand.of_body Bd
  have e0 : s₁.heap = h0 := by rw [← hh, Bd.state]; rfl
  have N0 := Fr.nil n0
  suffices own_H : ∀ (P : State → Outcome → Prop), (∀ U o, U.status = .running → Ended U below o → (∃ v L, o = .returned v ∧ Qrse_12 Z a1 a2 zc ax ka ay kb w0 z0 z1 h0 n0 v U.heap L ∧ FrameEnd s o U L ({ frames := 1, cells := 0, slots := 0, locals := 14 } : Room).cells ({ frames := 1, cells := 0, slots := 0, locals := 14 } : Room).slots) → P U o) → own_Go p.tables e below P (s₁.setTop (mkF m 0 #[oR a1, oR a2, .unset] [])) from own_go (fun _ k => castTop (ef_rse_12 m a1 a2) k) (own_H _ (fun U o h1 h2 h3 => ⟨h1, h2, h3⟩))
  intro P hP
  have lt_a1 : @LT.lt Nat _ a1 h0.size := pr3.lt
  have lt_a2 : @LT.lt Nat _ a2 h0.size := pr6.lt
  have lt_ax : @LT.lt Nat _ ax h0.size := pr9.lt
  have lt_ay : @LT.lt Nat _ ay h0.size := pr10.lt
  refine own_go (st' := s₁.setTop (mkF m 1 #[oR a1, oR a2, .unset] [(.ref a1)])) (fun _ k => XS.aloadN X0.here hx rfl (hb hby d13_0) rfl rfl k) ?_
  refine own_go (st' := s₁.setTop (mkF m 2 #[oR a1, oR a2, .unset] [(.ref a2), (.ref a1)])) (fun _ k => XS.aloadN X0.here hx rfl (hb hby d13_1) rfl rfl k) ?_
  have hc1 : ¬ (a1 = a2) := (fun q_ => (own_ne' (by assumption)) q_)
  refine own_go (st' := s₁.setTop (mkF m 7 #[oR a1, oR a2, .unset] [])) (fun _ k => Jvm.RoadKit.acmp (g := (mkF m 2 #[oR a1, oR a2, .unset] [(.ref a2), (.ref a1)])) X0 hx rfl rfl rfl (pc0 := 2) (pc' := 7) (same := false) rfl (hb hby d13_2) rfl (decide_eq_false fun q_ => hc1 (Value.ref.inj q_)) (by decide) (by decide) k) ?_
  refine own_go (st' := s₁.setTop (mkF m 8 #[oR a1, oR a2, .unset] [(.ref a2)])) (fun _ k => XS.aloadN X0.here hx rfl (hb hby d13_7) rfl rfl k) ?_
  obtain ⟨T2, X2, e2, st2⟩ := instY X0 hx hZ hown (own_hw hw 99) e0 (Ins.self pr6) (g := (mkF m 8 #[oR a1, oR a2, .unset] [(.ref a2)])) rfl rfl (hb hby d13_8)
  refine own_go (st' := T2.setTop (mkF m 11 #[oR a1, oR a2, .unset] [(.int (1 : Int32))])) (st2) ?_
  have hc3 : ¬ ((1 : Int32) = (0 : Int32)) := by decide
  refine own_go (st' := T2.setTop (mkF m 14 #[oR a1, oR a2, .unset] [])) (fun _ k => XS.ifNo X2.here hx rfl (hb hby d13_11) rfl ((if0 _ _).trans (feq hc3).1) k) ?_
  refine own_go (st' := T2.setTop (mkF m 15 #[oR a1, oR a2, .unset] [(.ref a2)])) (fun _ k => XS.aloadN X2.here hx rfl (hb hby d13_14) rfl rfl k) ?_
  obtain ⟨T4, X4, e4, st4⟩ := castY X2 hx hZ hown (own_hw hw 99) e2 (Ins.self pr6) (g := (mkF m 15 #[oR a1, oR a2, .unset] [(.ref a2)])) rfl rfl (hb hby d13_15)
  refine own_go (st' := T4.setTop (mkF m 18 #[oR a1, oR a2, .unset] [(.ref a2)])) (st4) ?_
  refine own_go (st' := T4.setTop (mkF m 19 #[oR a1, oR a2, oR a2] [])) (fun _ k => XS.astoreN X4.here hx rfl (hb hby d13_18) rfl rfl (l' := #[oR a1, oR a2, oR a2]) rfl k) ?_
  obtain ⟨T5, X5, e5, st5⟩ := getS2 X4 hx hZ hown (host := "") (Or.inl (own_hw hw 19)) Via.refl e4 pr1 (g := (mkF m 19 #[oR a1, oR a2, oR a2] [])) rfl (hb hby d13_19)
  refine own_go (st' := T5.setTop (mkF m 22 #[oR a1, oR a2, oR a2] [(.int zc)])) (st5) ?_
  have hc6 : ¬ (zc = (0 : Int32)) := hzc
  refine own_go (st' := T5.setTop (mkF m 25 #[oR a1, oR a2, oR a2] [])) (fun _ k => XS.ifNo X5.here hx rfl (hb hby d13_22) rfl ((if0 _ _).trans (feq hc6).1) k) ?_
  refine own_go (st' := T5.setTop (mkF m 26 #[oR a1, oR a2, oR a2] [(.ref a1)])) (fun _ k => XS.aloadN X5.here hx rfl (hb hby d13_25) rfl rfl k) ?_
  obtain ⟨T7, X7, e7, st7⟩ := getF X5 hx hZ hown (host := "") (Or.inl (own_hw hw 31)) Via.refl e5 pr5 (g := (mkF m 26 #[oR a1, oR a2, oR a2] [(.ref a1)])) rfl rfl (hb hby d13_26)
  refine own_go (st' := T7.setTop (mkF m 29 #[oR a1, oR a2, oR a2] [(.int (0 : Int32))])) (st7) ?_
  refine own_go (st' := T7.setTop (mkF m 30 #[oR a1, oR a2, oR a2] [(.ref a2), (.int (0 : Int32))])) (fun _ k => XS.aloadN X7.here hx rfl (hb hby d13_29) rfl rfl k) ?_
  obtain ⟨T8, X8, e8, st8⟩ := getF X7 hx hZ hown (host := "") (Or.inl (own_hw hw 31)) Via.refl e7 pr8 (g := (mkF m 30 #[oR a1, oR a2, oR a2] [(.ref a2), (.int (0 : Int32))])) rfl rfl (hb hby d13_30)
  refine own_go (st' := T8.setTop (mkF m 33 #[oR a1, oR a2, oR a2] [(.int (0 : Int32)), (.int (0 : Int32))])) (st8) ?_
  have hc9 : (0 : Int32) = (0 : Int32) := by decide
  refine own_go (st' := T8.setTop (mkF m 36 #[oR a1, oR a2, oR a2] [])) (fun _ k => XS.icmpNo X8.here hx rfl (hb hby d13_33) rfl (teq hc9).2 k) ?_
  refine own_go (st' := T8.setTop (mkF m 37 #[oR a1, oR a2, oR a2] [(.ref a1)])) (fun _ k => XS.aloadN X8.here hx rfl (hb hby d13_36) rfl rfl k) ?_
  obtain ⟨T10, X10, e10, st10⟩ := getF X8 hx hZ hown (host := "") (Or.inl (own_hw hw 33)) Via.refl e8 pr4 (g := (mkF m 37 #[oR a1, oR a2, oR a2] [(.ref a1)])) rfl rfl (hb hby d13_37)
  refine own_go (st' := T10.setTop (mkF m 40 #[oR a1, oR a2, oR a2] [(.ref ax)])) (st10) ?_
  refine own_go (st' := T10.setTop (mkF m 41 #[oR a1, oR a2, oR a2] [(.ref a2), (.ref ax)])) (fun _ k => XS.aloadN X10.here hx rfl (hb hby d13_40) rfl rfl k) ?_
  obtain ⟨T11, X11, e11, st11⟩ := getF X10 hx hZ hown (host := "") (Or.inl (own_hw hw 33)) Via.refl e10 pr7 (g := (mkF m 41 #[oR a1, oR a2, oR a2] [(.ref a2), (.ref ax)])) rfl rfl (hb hby d13_41)
  refine own_go (st' := T11.setTop (mkF m 44 #[oR a1, oR a2, oR a2] [(.ref ay), (.ref ax)])) (st11) ?_
  obtain ⟨_, _, ⟨T12, LC12, kC12, nC12⟩, -, X12, ⟨Lc12, hQ12, lq12, yq12, zq12⟩, st12⟩ := Jvm.LawKit.callS X11 hx (y := oM2) hown (mvT hZ (own_hw hw 100)) (mvT hZ (own_hw hw 101)) (mvT hZ (own_hw hw 102)) (mvT hZ (own_hw hw 103)) (by decide) (backOf (W := 0) (rle_12 l Z a0 hw [] ax ka ay kb w0 z0 z1 h0 n0 (by omega) pr9 pr10) hZ (own_hw hw 103) (own_hw hw 102) (by decide) (by decide)) (g := (mkF m 44 #[oR a1, oR a2, oR a2] [(.ref ay), (.ref ax)])) rfl (by rw [hml]; rfl) (argsL := [(.ref ax), (.ref ay)]) (rest := []) (lenOf pd_6 rfl) rfl (by show 2 * 0 + _ ≤ _; exact Nat.le_of_eq rfl) (hb hby d13_44) (fun _ _ => ⟨rfl, e11, (by decide : 0 + 0 ≤ _), (by decide : 0 + 0 ≤ _)⟩)
  dsimp only [Pt.U, Pt.locs, Pt.cells, Pt.slots] at X12 lq12 yq12 zq12 st12 hQ12
  subst lq12 yq12 zq12
  obtain ⟨rfl, Nq12, eq12⟩ := hQ12
  have N12 := Fr.app N0 Nq12
  refine own_go (st' := T12.setTop (mkF m 47 #[oR a1, oR a2, oR a2] [(.int (0 : Int32))])) (fun t k => st12 t k) ?_
  have hc13 : (0 : Int32) = (0 : Int32) := by decide
  refine own_go (st' := T12.setTop (mkF m 54 #[oR a1, oR a2, oR a2] [])) (fun _ k => XS.ifYes X12.here hx rfl (pc0 := 47) (pc' := 54) rfl (hb hby d13_47) rfl ((if0 _ _).trans (teq hc13).1) (by decide) (by decide) k) ?_
  refine own_go (st' := T12.setTop (mkF m 55 #[oR a1, oR a2, oR a2] [(.int (0 : Int32))])) (fun _ k => XS.iconst X12.here hx rfl (hb hby d13_54) k) ?_
  obtain ⟨fs, hr, hrun, hended, hW, hsame⟩ := X12.leave (v := some (.int (0 : Int32))) (fun h => by rw [Bd.returns] at h; cases h)
  refine ⟨_, _, ?_, hP _ _ hrun hended ⟨_, _, rfl, ?_, ⟨_, rfl⟩, hW, hsame.mono (by decide) (by decide)⟩⟩
  · exact retN X12 hx (t := .boolean) Bd.returns (by simp) (hb hby d13_55) hr
  · show Qrse_12 Z a1 a2 zc ax ka ay kb w0 z0 z1 h0 n0 _ T12.heap _
    rw [eq12]
    exact ⟨rfl, N12, rfl⟩
theorem ef_rle_21 (m : MethodId) (x0 : Addr) (x1 : Addr) : entryFrame m #[(.ref x0), (.ref x1)] 3 = mkF m 0 #[.val (.ref x0), .val (.ref x1), .unset] [] := by first | (simp [entryFrame, mkF, argsToLocals, Value.category]; done) | rfl
def Qrle_21 (Z : State) (ax : Addr) (ka : ClassId) (ay : Addr) (kb : ClassId) (w0 : Int32) (w1 : Int32) (z0 : Int32) (h0 : Heap) (n0 : Nat) (v : Option Value) (h : Heap) (L : List Loc) : Prop := (v = some (.int (0 : Int32))) ∧ (Fr n0 L) ∧ (h = h0)
set_option maxRecDepth 65536 in
set_option maxHeartbeats 40000000 in
theorem rle_21 (l : Launch) (Z : State) (a0 : Array Value) (hw : ∀ d ∈ tables_1, d.before a0 Z = true) (ws : List Jvm.Cond) (ax : Addr) (ka : ClassId) (ay : Addr) (kb : ClassId) (w0 : Int32) (w1 : Int32) (z0 : Int32) (h0 : Heap) (n0 : Nat) (Z0 : n0 ≤ h0.size) (pr1 : Arv Z h0 ax ka .byte (2 : Int32) [(.int w0), (.int w1)] (.int (0 : Int32))) (pr2 : Arv Z h0 ay kb .byte (1 : Int32) [(.int z0)] (.int (0 : Int32))) :
    MetFree l oM2 (head1 (Jvm.Cond.code oM2 jdk_43_method_13_code 3 (some .boolean) :: ws) ({ frames := 0, cells := 0, slots := 0, locals := 0 } : Room)) (fun a U => a = #[(.ref ax), (.ref ay)] ∧ Z.Warmed39 U.vm ∧ U.heap = h0) (fun _ _ _ _ _ => True) (fun _ U o U' => ∃ v L, o = .returned v ∧ Qrle_21 Z ax ka ay kb w0 w1 z0 h0 n0 v U'.heap L ∧ FrameEnd U o U' L ({ frames := 0, cells := 0, slots := 0, locals := 0 } : Room).cells ({ frames := 0, cells := 0, slots := 0, locals := 0 } : Room).slots) := by
  refine MetFree.of_bodySF (plainFor_of_name pn_17) hisR ?_
  intro p e s m args below meth c s₁ Bd hml0 hP0 hK
  obtain ⟨rfl, hZ, hh⟩ := hP0
  have hx := Bd.exec
  have hby := Bd.bytes
  have hml : c.maxLocals = 3 := hml0
  have hown : s.vm.findClass "java/lang/StringLatin1" = some m.cls := findClass_of_methodNamed Bd.named
  have hnm := (name_of_methodNamed Bd.named Bd.method).1
  have X0 : Stand p l e ({ frames := 0, cells := 0, slots := 0, locals := 0 } : Room) s m #[(.ref ax), (.ref ay)] below meth c s₁ [] 0 0 := Stand.of_body Bd
  have e0 : s₁.heap = h0 := by rw [← hh, Bd.state]; rfl
  have N0 := Fr.nil n0
  suffices own_H : ∀ (P : State → Outcome → Prop), (∀ U o, U.status = .running → Ended U below o → (∃ v L, o = .returned v ∧ Qrle_21 Z ax ka ay kb w0 w1 z0 h0 n0 v U.heap L ∧ FrameEnd s o U L ({ frames := 0, cells := 0, slots := 0, locals := 0 } : Room).cells ({ frames := 0, cells := 0, slots := 0, locals := 0 } : Room).slots) → P U o) → own_Go p.tables e below P (s₁.setTop (mkF m 0 #[oR ax, oR ay, .unset] [])) from own_go (fun _ k => castTop (ef_rle_21 m ax ay) k) (own_H _ (fun U o h1 h2 h3 => ⟨h1, h2, h3⟩))
  intro P hP
  have lt_ax : @LT.lt Nat _ ax h0.size := pr1.lt
  have lt_ay : @LT.lt Nat _ ay h0.size := pr2.lt
  refine own_go (st' := s₁.setTop (mkF m 1 #[oR ax, oR ay, .unset] [(.ref ax)])) (fun _ k => XS.aloadN X0.here hx rfl (hb hby d17_0) rfl rfl k) ?_
  obtain ⟨cl1, Ar1, -, S1, M1, -, -⟩ := id pr1
  refine own_go (st' := s₁.setTop (mkF m 2 #[oR ax, oR ay, .unset] [(.int (2 : Int32))])) (fun t k => X0.arraylength hx (by rw [e0]; exact Ar1.1) (State.isArrayOf_alike hZ.alike Ar1.2.1) (g := (mkF m 1 #[oR ax, oR ay, .unset] [(.ref ax)])) rfl rfl (hb hby d17_1) t (by rw [len_of S1 M1]; exact k)) ?_
  refine own_go (st' := s₁.setTop (mkF m 3 #[oR ax, oR ay, .unset] [(.ref ay), (.int (2 : Int32))])) (fun _ k => XS.aloadN X0.here hx rfl (hb hby d17_2) rfl rfl k) ?_
  obtain ⟨cl2, Ar2, -, S2, M2, -, -⟩ := id pr2
  refine own_go (st' := s₁.setTop (mkF m 4 #[oR ax, oR ay, .unset] [(.int (1 : Int32)), (.int (2 : Int32))])) (fun t k => X0.arraylength hx (by rw [e0]; exact Ar2.1) (State.isArrayOf_alike hZ.alike Ar2.2.1) (g := (mkF m 3 #[oR ax, oR ay, .unset] [(.ref ay), (.int (2 : Int32))])) rfl rfl (hb hby d17_3) t (by rw [len_of S2 M2]; exact k)) ?_
  have hc3 : ¬ ((2 : Int32) = (1 : Int32)) := by decide
  refine own_go (st' := s₁.setTop (mkF m 34 #[oR ax, oR ay, .unset] [])) (fun _ k => XS.icmpYes X0.here hx rfl (pc0 := 4) (pc' := 34) rfl (hb hby d17_4) rfl (feq hc3).2 (by decide) (by decide) k) ?_
  refine own_go (st' := s₁.setTop (mkF m 35 #[oR ax, oR ay, .unset] [(.int (0 : Int32))])) (fun _ k => XS.iconst X0.here hx rfl (hb hby d17_34) k) ?_
  obtain ⟨fs, hr, hrun, hended, hW, hsame⟩ := X0.leave (v := some (.int (0 : Int32))) (fun h => by rw [Bd.returns] at h; cases h)
  refine ⟨_, _, ?_, hP _ _ hrun hended ⟨_, _, rfl, ?_, ⟨_, rfl⟩, hW, hsame.mono (by decide) (by decide)⟩⟩
  · exact retN X0 hx (t := .boolean) Bd.returns (by simp) (hb hby d17_35) hr
  · show Qrle_21 Z ax ka ay kb w0 w1 z0 h0 n0 _ s₁.heap _
    rw [e0]
    exact ⟨rfl, N0, rfl⟩
theorem ef_rse_21 (m : MethodId) (x0 : Addr) (x1 : Addr) : entryFrame m #[(.ref x0), (.ref x1)] 3 = mkF m 0 #[.val (.ref x0), .val (.ref x1), .unset] [] := by first | (simp [entryFrame, mkF, argsToLocals, Value.category]; done) | rfl
def Qrse_21 (Z : State) (a1 : Addr) (a2 : Addr) (zc : Int32) (ax : Addr) (ka : ClassId) (ay : Addr) (kb : ClassId) (w0 : Int32) (w1 : Int32) (z0 : Int32) (h0 : Heap) (n0 : Nat) (v : Option Value) (h : Heap) (L : List Loc) : Prop := (v = some (.int (0 : Int32))) ∧ (Fr n0 L) ∧ (h = h0)
set_option maxRecDepth 65536 in
set_option maxHeartbeats 40000000 in
theorem rse_21 (l : Launch) (Z : State) (a0 : Array Value) (hw : ∀ d ∈ tables_1, d.before a0 Z = true) (ws : List Jvm.Cond) (a1 : Addr) (a2 : Addr) (zc : Int32) (ax : Addr) (ka : ClassId) (ay : Addr) (kb : ClassId) (w0 : Int32) (w1 : Int32) (z0 : Int32) (h0 : Heap) (n0 : Nat) (Z0 : n0 ≤ h0.size) (pr1 : Sta Z h0 "java/lang/String" "COMPACT_STRINGS" "Z" (.int zc)) (hzc : ¬ zc = (0 : Int32)) (pr2 : @Ne Nat a1 a2) (pr3 : Exa Z h0 a1 "java/lang/String") (pr4 : Fld Z h0 a1 "java/lang/String" "value" "[B" (.ref ax)) (pr5 : Fld Z h0 a1 "java/lang/String" "coder" "B" (.int (0 : Int32))) (pr6 : Exa Z h0 a2 "java/lang/String") (pr7 : Fld Z h0 a2 "java/lang/String" "value" "[B" (.ref ay)) (pr8 : Fld Z h0 a2 "java/lang/String" "coder" "B" (.int (0 : Int32))) (pr9 : Arv Z h0 ax ka .byte (2 : Int32) [(.int w0), (.int w1)] (.int (0 : Int32))) (pr10 : Arv Z h0 ay kb .byte (1 : Int32) [(.int z0)] (.int (0 : Int32))) :
    MetFree l oM1 (head1 (Jvm.Cond.code oM1 jdk_42_method_66_code 3 (some .boolean) :: ws) ({ frames := 1, cells := 0, slots := 0, locals := 14 } : Room)) (fun a U => a = #[(.ref a1), (.ref a2)] ∧ Z.Warmed39 U.vm ∧ U.heap = h0) (fun _ _ _ _ _ => True) (fun _ U o U' => ∃ v L, o = .returned v ∧ Qrse_21 Z a1 a2 zc ax ka ay kb w0 w1 z0 h0 n0 v U'.heap L ∧ FrameEnd U o U' L ({ frames := 1, cells := 0, slots := 0, locals := 14 } : Room).cells ({ frames := 1, cells := 0, slots := 0, locals := 14 } : Room).slots) := by
  refine MetFree.of_bodySF (plainFor_of_name pn_13) hisR ?_
  intro p e s m args below meth c s₁ Bd hml0 hP0 hK
  obtain ⟨rfl, hZ, hh⟩ := hP0
  have hx := Bd.exec
  have hby := Bd.bytes
  have hml : c.maxLocals = 3 := hml0
  have hown : s.vm.findClass oS0 = some m.cls := findClass_of_methodNamed Bd.named
  have hnm := (name_of_methodNamed Bd.named Bd.method).1
  have X0 : Stand p l e ({ frames := 1, cells := 0, slots := 0, locals := 14 } : Room) s m #[(.ref a1), (.ref a2)] below meth c s₁ [] 0 0 := Stand.of_body Bd
  have e0 : s₁.heap = h0 := by rw [← hh, Bd.state]; rfl
  have N0 := Fr.nil n0
  suffices own_H : ∀ (P : State → Outcome → Prop), (∀ U o, U.status = .running → Ended U below o → (∃ v L, o = .returned v ∧ Qrse_21 Z a1 a2 zc ax ka ay kb w0 w1 z0 h0 n0 v U.heap L ∧ FrameEnd s o U L ({ frames := 1, cells := 0, slots := 0, locals := 14 } : Room).cells ({ frames := 1, cells := 0, slots := 0, locals := 14 } : Room).slots) → P U o) → own_Go p.tables e below P (s₁.setTop (mkF m 0 #[oR a1, oR a2, .unset] [])) from own_go (fun _ k => castTop (ef_rse_21 m a1 a2) k) (own_H _ (fun U o h1 h2 h3 => ⟨h1, h2, h3⟩))
  intro P hP
  have lt_a1 : @LT.lt Nat _ a1 h0.size := pr3.lt
  have lt_a2 : @LT.lt Nat _ a2 h0.size := pr6.lt
  have lt_ax : @LT.lt Nat _ ax h0.size := pr9.lt
  have lt_ay : @LT.lt Nat _ ay h0.size := pr10.lt
  refine own_go (st' := s₁.setTop (mkF m 1 #[oR a1, oR a2, .unset] [(.ref a1)])) (fun _ k => XS.aloadN X0.here hx rfl (hb hby d13_0) rfl rfl k) ?_
  refine own_go (st' := s₁.setTop (mkF m 2 #[oR a1, oR a2, .unset] [(.ref a2), (.ref a1)])) (fun _ k => XS.aloadN X0.here hx rfl (hb hby d13_1) rfl rfl k) ?_
  have hc1 : ¬ (a1 = a2) := (fun q_ => (own_ne' (by assumption)) q_)
  refine own_go (st' := s₁.setTop (mkF m 7 #[oR a1, oR a2, .unset] [])) (fun _ k => Jvm.RoadKit.acmp (g := (mkF m 2 #[oR a1, oR a2, .unset] [(.ref a2), (.ref a1)])) X0 hx rfl rfl rfl (pc0 := 2) (pc' := 7) (same := false) rfl (hb hby d13_2) rfl (decide_eq_false fun q_ => hc1 (Value.ref.inj q_)) (by decide) (by decide) k) ?_
  refine own_go (st' := s₁.setTop (mkF m 8 #[oR a1, oR a2, .unset] [(.ref a2)])) (fun _ k => XS.aloadN X0.here hx rfl (hb hby d13_7) rfl rfl k) ?_
  obtain ⟨T2, X2, e2, st2⟩ := instY X0 hx hZ hown (own_hw hw 99) e0 (Ins.self pr6) (g := (mkF m 8 #[oR a1, oR a2, .unset] [(.ref a2)])) rfl rfl (hb hby d13_8)
  refine own_go (st' := T2.setTop (mkF m 11 #[oR a1, oR a2, .unset] [(.int (1 : Int32))])) (st2) ?_
  have hc3 : ¬ ((1 : Int32) = (0 : Int32)) := by decide
  refine own_go (st' := T2.setTop (mkF m 14 #[oR a1, oR a2, .unset] [])) (fun _ k => XS.ifNo X2.here hx rfl (hb hby d13_11) rfl ((if0 _ _).trans (feq hc3).1) k) ?_
  refine own_go (st' := T2.setTop (mkF m 15 #[oR a1, oR a2, .unset] [(.ref a2)])) (fun _ k => XS.aloadN X2.here hx rfl (hb hby d13_14) rfl rfl k) ?_
  obtain ⟨T4, X4, e4, st4⟩ := castY X2 hx hZ hown (own_hw hw 99) e2 (Ins.self pr6) (g := (mkF m 15 #[oR a1, oR a2, .unset] [(.ref a2)])) rfl rfl (hb hby d13_15)
  refine own_go (st' := T4.setTop (mkF m 18 #[oR a1, oR a2, .unset] [(.ref a2)])) (st4) ?_
  refine own_go (st' := T4.setTop (mkF m 19 #[oR a1, oR a2, oR a2] [])) (fun _ k => XS.astoreN X4.here hx rfl (hb hby d13_18) rfl rfl (l' := #[oR a1, oR a2, oR a2]) rfl k) ?_
  obtain ⟨T5, X5, e5, st5⟩ := getS2 X4 hx hZ hown (host := "") (Or.inl (own_hw hw 19)) Via.refl e4 pr1 (g := (mkF m 19 #[oR a1, oR a2, oR a2] [])) rfl (hb hby d13_19)
  refine own_go (st' := T5.setTop (mkF m 22 #[oR a1, oR a2, oR a2] [(.int zc)])) (st5) ?_
  have hc6 : ¬ (zc = (0 : Int32)) := hzc
  refine own_go (st' := T5.setTop (mkF m 25 #[oR a1, oR a2, oR a2] [])) (fun _ k => XS.ifNo X5.here hx rfl (hb hby d13_22) rfl ((if0 _ _).trans (feq hc6).1) k) ?_
  refine own_go (st' := T5.setTop (mkF m 26 #[oR a1, oR a2, oR a2] [(.ref a1)])) (fun _ k => XS.aloadN X5.here hx rfl (hb hby d13_25) rfl rfl k) ?_
  obtain ⟨T7, X7, e7, st7⟩ := getF X5 hx hZ hown (host := "") (Or.inl (own_hw hw 31)) Via.refl e5 pr5 (g := (mkF m 26 #[oR a1, oR a2, oR a2] [(.ref a1)])) rfl rfl (hb hby d13_26)
  refine own_go (st' := T7.setTop (mkF m 29 #[oR a1, oR a2, oR a2] [(.int (0 : Int32))])) (st7) ?_
  refine own_go (st' := T7.setTop (mkF m 30 #[oR a1, oR a2, oR a2] [(.ref a2), (.int (0 : Int32))])) (fun _ k => XS.aloadN X7.here hx rfl (hb hby d13_29) rfl rfl k) ?_
  obtain ⟨T8, X8, e8, st8⟩ := getF X7 hx hZ hown (host := "") (Or.inl (own_hw hw 31)) Via.refl e7 pr8 (g := (mkF m 30 #[oR a1, oR a2, oR a2] [(.ref a2), (.int (0 : Int32))])) rfl rfl (hb hby d13_30)
  refine own_go (st' := T8.setTop (mkF m 33 #[oR a1, oR a2, oR a2] [(.int (0 : Int32)), (.int (0 : Int32))])) (st8) ?_
  have hc9 : (0 : Int32) = (0 : Int32) := by decide
  refine own_go (st' := T8.setTop (mkF m 36 #[oR a1, oR a2, oR a2] [])) (fun _ k => XS.icmpNo X8.here hx rfl (hb hby d13_33) rfl (teq hc9).2 k) ?_
  refine own_go (st' := T8.setTop (mkF m 37 #[oR a1, oR a2, oR a2] [(.ref a1)])) (fun _ k => XS.aloadN X8.here hx rfl (hb hby d13_36) rfl rfl k) ?_
  obtain ⟨T10, X10, e10, st10⟩ := getF X8 hx hZ hown (host := "") (Or.inl (own_hw hw 33)) Via.refl e8 pr4 (g := (mkF m 37 #[oR a1, oR a2, oR a2] [(.ref a1)])) rfl rfl (hb hby d13_37)
  refine own_go (st' := T10.setTop (mkF m 40 #[oR a1, oR a2, oR a2] [(.ref ax)])) (st10) ?_
  refine own_go (st' := T10.setTop (mkF m 41 #[oR a1, oR a2, oR a2] [(.ref a2), (.ref ax)])) (fun _ k => XS.aloadN X10.here hx rfl (hb hby d13_40) rfl rfl k) ?_
  obtain ⟨T11, X11, e11, st11⟩ := getF X10 hx hZ hown (host := "") (Or.inl (own_hw hw 33)) Via.refl e10 pr7 (g := (mkF m 41 #[oR a1, oR a2, oR a2] [(.ref a2), (.ref ax)])) rfl rfl (hb hby d13_41)
  refine own_go (st' := T11.setTop (mkF m 44 #[oR a1, oR a2, oR a2] [(.ref ay), (.ref ax)])) (st11) ?_
  obtain ⟨_, _, ⟨T12, LC12, kC12, nC12⟩, -, X12, ⟨Lc12, hQ12, lq12, yq12, zq12⟩, st12⟩ := Jvm.LawKit.callS X11 hx (y := oM2) hown (mvT hZ (own_hw hw 100)) (mvT hZ (own_hw hw 101)) (mvT hZ (own_hw hw 102)) (mvT hZ (own_hw hw 103)) (by decide) (backOf (W := 0) (rle_21 l Z a0 hw [] ax ka ay kb w0 w1 z0 h0 n0 (by omega) pr9 pr10) hZ (own_hw hw 103) (own_hw hw 102) (by decide) (by decide)) (g := (mkF m 44 #[oR a1, oR a2, oR a2] [(.ref ay), (.ref ax)])) rfl (by rw [hml]; rfl) (argsL := [(.ref ax), (.ref ay)]) (rest := []) (lenOf pd_6 rfl) rfl (by show 2 * 0 + _ ≤ _; exact Nat.le_of_eq rfl) (hb hby d13_44) (fun _ _ => ⟨rfl, e11, (by decide : 0 + 0 ≤ _), (by decide : 0 + 0 ≤ _)⟩)
  dsimp only [Pt.U, Pt.locs, Pt.cells, Pt.slots] at X12 lq12 yq12 zq12 st12 hQ12
  subst lq12 yq12 zq12
  obtain ⟨rfl, Nq12, eq12⟩ := hQ12
  have N12 := Fr.app N0 Nq12
  refine own_go (st' := T12.setTop (mkF m 47 #[oR a1, oR a2, oR a2] [(.int (0 : Int32))])) (fun t k => st12 t k) ?_
  have hc13 : (0 : Int32) = (0 : Int32) := by decide
  refine own_go (st' := T12.setTop (mkF m 54 #[oR a1, oR a2, oR a2] [])) (fun _ k => XS.ifYes X12.here hx rfl (pc0 := 47) (pc' := 54) rfl (hb hby d13_47) rfl ((if0 _ _).trans (teq hc13).1) (by decide) (by decide) k) ?_
  refine own_go (st' := T12.setTop (mkF m 55 #[oR a1, oR a2, oR a2] [(.int (0 : Int32))])) (fun _ k => XS.iconst X12.here hx rfl (hb hby d13_54) k) ?_
  obtain ⟨fs, hr, hrun, hended, hW, hsame⟩ := X12.leave (v := some (.int (0 : Int32))) (fun h => by rw [Bd.returns] at h; cases h)
  refine ⟨_, _, ?_, hP _ _ hrun hended ⟨_, _, rfl, ?_, ⟨_, rfl⟩, hW, hsame.mono (by decide) (by decide)⟩⟩
  · exact retN X12 hx (t := .boolean) Bd.returns (by simp) (hb hby d13_55) hr
  · show Qrse_21 Z a1 a2 zc ax ka ay kb w0 w1 z0 h0 n0 _ T12.heap _
    rw [eq12]
    exact ⟨rfl, N12, rfl⟩
theorem ef_rle_22 (m : MethodId) (x0 : Addr) (x1 : Addr) : entryFrame m #[(.ref x0), (.ref x1)] 3 = mkF m 0 #[.val (.ref x0), .val (.ref x1), .unset] [] := by first | (simp [entryFrame, mkF, argsToLocals, Value.category]; done) | rfl
def Qrle_22 (Z : State) (ax : Addr) (ka : ClassId) (ay : Addr) (kb : ClassId) (w0 : Int32) (w1 : Int32) (z0 : Int32) (z1 : Int32) (h0 : Heap) (n0 : Nat) (v : Option Value) (h : Heap) (L : List Loc) : Prop := (v = some (.int (own_eq2 w0 w1 z0 z1))) ∧ (Fr n0 L) ∧ (h = h0)
set_option maxRecDepth 65536 in
set_option maxHeartbeats 40000000 in
theorem rle_22 (l : Launch) (Z : State) (a0 : Array Value) (hw : ∀ d ∈ tables_1, d.before a0 Z = true) (ws : List Jvm.Cond) (ax : Addr) (ka : ClassId) (ay : Addr) (kb : ClassId) (w0 : Int32) (w1 : Int32) (z0 : Int32) (z1 : Int32) (h0 : Heap) (n0 : Nat) (Z0 : n0 ≤ h0.size) (pr1 : Arv Z h0 ax ka .byte (2 : Int32) [(.int w0), (.int w1)] (.int (0 : Int32))) (pr2 : Arv Z h0 ay kb .byte (2 : Int32) [(.int z0), (.int z1)] (.int (0 : Int32))) :
    MetFree l oM2 (head1 (Jvm.Cond.code oM2 jdk_43_method_13_code 3 (some .boolean) :: ws) ({ frames := 0, cells := 0, slots := 0, locals := 0 } : Room)) (fun a U => a = #[(.ref ax), (.ref ay)] ∧ Z.Warmed39 U.vm ∧ U.heap = h0) (fun _ _ _ _ _ => True) (fun _ U o U' => ∃ v L, o = .returned v ∧ Qrle_22 Z ax ka ay kb w0 w1 z0 z1 h0 n0 v U'.heap L ∧ FrameEnd U o U' L ({ frames := 0, cells := 0, slots := 0, locals := 0 } : Room).cells ({ frames := 0, cells := 0, slots := 0, locals := 0 } : Room).slots) := by
  refine MetFree.of_bodySF (plainFor_of_name pn_17) hisR ?_
  intro p e s m args below meth c s₁ Bd hml0 hP0 hK
  obtain ⟨rfl, hZ, hh⟩ := hP0
  have hx := Bd.exec
  have hby := Bd.bytes
  have hml : c.maxLocals = 3 := hml0
  have hown : s.vm.findClass "java/lang/StringLatin1" = some m.cls := findClass_of_methodNamed Bd.named
  have hnm := (name_of_methodNamed Bd.named Bd.method).1
  have X0 : Stand p l e ({ frames := 0, cells := 0, slots := 0, locals := 0 } : Room) s m #[(.ref ax), (.ref ay)] below meth c s₁ [] 0 0 := Stand.of_body Bd
  have e0 : s₁.heap = h0 := by rw [← hh, Bd.state]; rfl
  have N0 := Fr.nil n0
  suffices own_H : ∀ (P : State → Outcome → Prop), (∀ U o, U.status = .running → Ended U below o → (∃ v L, o = .returned v ∧ Qrle_22 Z ax ka ay kb w0 w1 z0 z1 h0 n0 v U.heap L ∧ FrameEnd s o U L ({ frames := 0, cells := 0, slots := 0, locals := 0 } : Room).cells ({ frames := 0, cells := 0, slots := 0, locals := 0 } : Room).slots) → P U o) → own_Go p.tables e below P (s₁.setTop (mkF m 0 #[oR ax, oR ay, .unset] [])) from own_go (fun _ k => castTop (ef_rle_22 m ax ay) k) (own_H _ (fun U o h1 h2 h3 => ⟨h1, h2, h3⟩))
  intro P hP
  have lt_ax : @LT.lt Nat _ ax h0.size := pr1.lt
  have lt_ay : @LT.lt Nat _ ay h0.size := pr2.lt
  refine own_go (st' := s₁.setTop (mkF m 1 #[oR ax, oR ay, .unset] [(.ref ax)])) (fun _ k => XS.aloadN X0.here hx rfl (hb hby d17_0) rfl rfl k) ?_
  obtain ⟨cl1, Ar1, -, S1, M1, -, -⟩ := id pr1
  refine own_go (st' := s₁.setTop (mkF m 2 #[oR ax, oR ay, .unset] [(.int (2 : Int32))])) (fun t k => X0.arraylength hx (by rw [e0]; exact Ar1.1) (State.isArrayOf_alike hZ.alike Ar1.2.1) (g := (mkF m 1 #[oR ax, oR ay, .unset] [(.ref ax)])) rfl rfl (hb hby d17_1) t (by rw [len_of S1 M1]; exact k)) ?_
  refine own_go (st' := s₁.setTop (mkF m 3 #[oR ax, oR ay, .unset] [(.ref ay), (.int (2 : Int32))])) (fun _ k => XS.aloadN X0.here hx rfl (hb hby d17_2) rfl rfl k) ?_
  obtain ⟨cl2, Ar2, -, S2, M2, -, -⟩ := id pr2
  refine own_go (st' := s₁.setTop (mkF m 4 #[oR ax, oR ay, .unset] [(.int (2 : Int32)), (.int (2 : Int32))])) (fun t k => X0.arraylength hx (by rw [e0]; exact Ar2.1) (State.isArrayOf_alike hZ.alike Ar2.2.1) (g := (mkF m 3 #[oR ax, oR ay, .unset] [(.ref ay), (.int (2 : Int32))])) rfl rfl (hb hby d17_3) t (by rw [len_of S2 M2]; exact k)) ?_
  have hc3 : (2 : Int32) = (2 : Int32) := by decide
  refine own_go (st' := s₁.setTop (mkF m 7 #[oR ax, oR ay, .unset] [])) (fun _ k => XS.icmpNo X0.here hx rfl (hb hby d17_4) rfl (teq hc3).2 k) ?_
  refine own_go (st' := s₁.setTop (mkF m 8 #[oR ax, oR ay, .unset] [(.int (0 : Int32))])) (fun _ k => XS.iconst X0.here hx rfl (hb hby d17_7) k) ?_
  refine own_go (st' := s₁.setTop (mkF m 9 #[oR ax, oR ay, oi 0] [])) (fun _ k => XS.istoreN X0.here hx rfl (hb hby d17_8) rfl (l' := #[oR ax, oR ay, oi 0]) rfl k) ?_
  refine own_go (st' := s₁.setTop (mkF m 10 #[oR ax, oR ay, oi 0] [(.int (0 : Int32))])) (fun _ k => XS.iloadN X0.here hx rfl (hb hby d17_9) rfl k) ?_
  refine own_go (st' := s₁.setTop (mkF m 11 #[oR ax, oR ay, oi 0] [(.ref ax), (.int (0 : Int32))])) (fun _ k => XS.aloadN X0.here hx rfl (hb hby d17_10) rfl rfl k) ?_
  obtain ⟨cl4, Ar4, -, S4, M4, -, -⟩ := id pr1
  refine own_go (st' := s₁.setTop (mkF m 12 #[oR ax, oR ay, oi 0] [(.int (2 : Int32)), (.int (0 : Int32))])) (fun t k => X0.arraylength hx (by rw [e0]; exact Ar4.1) (State.isArrayOf_alike hZ.alike Ar4.2.1) (g := (mkF m 11 #[oR ax, oR ay, oi 0] [(.ref ax), (.int (0 : Int32))])) rfl rfl (hb hby d17_11) t (by rw [len_of S4 M4]; exact k)) ?_
  have hc5 : (0 : Int32) < (2 : Int32) := by decide
  refine own_go (st' := s₁.setTop (mkF m 15 #[oR ax, oR ay, oi 0] [])) (fun _ k => XS.icmpNo X0.here hx rfl (hb hby d17_12) rfl (tlt hc5).2.1 k) ?_
  refine own_go (st' := s₁.setTop (mkF m 16 #[oR ax, oR ay, oi 0] [(.ref ax)])) (fun _ k => XS.aloadN X0.here hx rfl (hb hby d17_15) rfl rfl k) ?_
  refine own_go (st' := s₁.setTop (mkF m 17 #[oR ax, oR ay, oi 0] [(.int (0 : Int32)), (.ref ax)])) (fun _ k => XS.iloadN X0.here hx rfl (hb hby d17_16) rfl k) ?_
  obtain ⟨cl6, Ar6, -, S6, M6, H6, -⟩ := id pr1
  have hin6 : ¬ ((0 : Int32) < 0 ∨ cl6.slots.size ≤ ((0 : Int32)).toNatClampNeg) := (inb_of S6 ⟨by decide, by decide⟩)
  have hat6 : cl6.slots[((0 : Int32)).toNatClampNeg]? = some (.int w0) := (H6.at hin6 rfl)
  refine own_go (st' := s₁.setTop (mkF m 18 #[oR ax, oR ay, oi 0] [(.int w0)])) (X0.baloadBytes hx (j := (0 : Int32)) (v := (.int w0)) (by rw [e0]; exact Ar6.1) (State.isArrayOf_alike hZ.alike Ar6.2.1) Ar6.2.2 hin6 hat6 (g := (mkF m 17 #[oR ax, oR ay, oi 0] [(.int (0 : Int32)), (.ref ax)])) rfl rfl (hb hby d17_17)) ?_
  refine own_go (st' := s₁.setTop (mkF m 19 #[oR ax, oR ay, oi 0] [(.ref ay), (.int w0)])) (fun _ k => XS.aloadN X0.here hx rfl (hb hby d17_18) rfl rfl k) ?_
  refine own_go (st' := s₁.setTop (mkF m 20 #[oR ax, oR ay, oi 0] [(.int (0 : Int32)), (.ref ay), (.int w0)])) (fun _ k => XS.iloadN X0.here hx rfl (hb hby d17_19) rfl k) ?_
  obtain ⟨cl7, Ar7, -, S7, M7, H7, -⟩ := id pr2
  have hin7 : ¬ ((0 : Int32) < 0 ∨ cl7.slots.size ≤ ((0 : Int32)).toNatClampNeg) := (inb_of S7 ⟨by decide, by decide⟩)
  have hat7 : cl7.slots[((0 : Int32)).toNatClampNeg]? = some (.int z0) := (H7.at hin7 rfl)
  refine own_go (st' := s₁.setTop (mkF m 21 #[oR ax, oR ay, oi 0] [(.int z0), (.int w0)])) (X0.baloadBytes hx (j := (0 : Int32)) (v := (.int z0)) (by rw [e0]; exact Ar7.1) (State.isArrayOf_alike hZ.alike Ar7.2.1) Ar7.2.2 hin7 hat7 (g := (mkF m 20 #[oR ax, oR ay, oi 0] [(.int (0 : Int32)), (.ref ay), (.int w0)])) rfl rfl (hb hby d17_20)) ?_
  by_cases hc8 : w0 = z0
  · --
    refine own_go (st' := s₁.setTop (mkF m 26 #[oR ax, oR ay, oi 0] [])) (fun _ k => XS.icmpYes X0.here hx rfl (pc0 := 21) (pc' := 26) rfl (hb hby d17_21) rfl (teq hc8).1 (by decide) (by decide) k) ?_
    refine own_go (st' := s₁.setTop (mkF m 29 #[oR ax, oR ay, oi 1] [])) (fun _ k => XS.iinc X0.here hx rfl (hb hby d17_26) rfl (l' := #[oR ax, oR ay, oi 1]) (by rw [show ((0 : Int32) + Int32.ofInt 1) = (1 : Int32) by decide]; rfl) k) ?_
    refine own_go (st' := s₁.setTop (mkF m 9 #[oR ax, oR ay, oi 1] [])) (fun _ k => XS.goto X0.here hx rfl (pc0 := 29) (pc' := 9) rfl (hb hby d17_29) (by decide) (by decide) k) ?_
    refine own_go (st' := s₁.setTop (mkF m 10 #[oR ax, oR ay, oi 1] [(.int (1 : Int32))])) (fun _ k => XS.iloadN X0.here hx rfl (hb hby d17_9) rfl k) ?_
    refine own_go (st' := s₁.setTop (mkF m 11 #[oR ax, oR ay, oi 1] [(.ref ax), (.int (1 : Int32))])) (fun _ k => XS.aloadN X0.here hx rfl (hb hby d17_10) rfl rfl k) ?_
    obtain ⟨cl9, Ar9, -, S9, M9, -, -⟩ := id pr1
    refine own_go (st' := s₁.setTop (mkF m 12 #[oR ax, oR ay, oi 1] [(.int (2 : Int32)), (.int (1 : Int32))])) (fun t k => X0.arraylength hx (by rw [e0]; exact Ar9.1) (State.isArrayOf_alike hZ.alike Ar9.2.1) (g := (mkF m 11 #[oR ax, oR ay, oi 1] [(.ref ax), (.int (1 : Int32))])) rfl rfl (hb hby d17_11) t (by rw [len_of S9 M9]; exact k)) ?_
    have hc10 : (1 : Int32) < (2 : Int32) := by decide
    refine own_go (st' := s₁.setTop (mkF m 15 #[oR ax, oR ay, oi 1] [])) (fun _ k => XS.icmpNo X0.here hx rfl (hb hby d17_12) rfl (tlt hc10).2.1 k) ?_
    refine own_go (st' := s₁.setTop (mkF m 16 #[oR ax, oR ay, oi 1] [(.ref ax)])) (fun _ k => XS.aloadN X0.here hx rfl (hb hby d17_15) rfl rfl k) ?_
    refine own_go (st' := s₁.setTop (mkF m 17 #[oR ax, oR ay, oi 1] [(.int (1 : Int32)), (.ref ax)])) (fun _ k => XS.iloadN X0.here hx rfl (hb hby d17_16) rfl k) ?_
    obtain ⟨cl11, Ar11, -, S11, M11, H11, -⟩ := id pr1
    have hin11 : ¬ ((1 : Int32) < 0 ∨ cl11.slots.size ≤ ((1 : Int32)).toNatClampNeg) := (inb_of S11 ⟨by decide, by decide⟩)
    have hat11 : cl11.slots[((1 : Int32)).toNatClampNeg]? = some (.int w1) := (H11.at hin11 rfl)
    refine own_go (st' := s₁.setTop (mkF m 18 #[oR ax, oR ay, oi 1] [(.int w1)])) (X0.baloadBytes hx (j := (1 : Int32)) (v := (.int w1)) (by rw [e0]; exact Ar11.1) (State.isArrayOf_alike hZ.alike Ar11.2.1) Ar11.2.2 hin11 hat11 (g := (mkF m 17 #[oR ax, oR ay, oi 1] [(.int (1 : Int32)), (.ref ax)])) rfl rfl (hb hby d17_17)) ?_
    refine own_go (st' := s₁.setTop (mkF m 19 #[oR ax, oR ay, oi 1] [(.ref ay), (.int w1)])) (fun _ k => XS.aloadN X0.here hx rfl (hb hby d17_18) rfl rfl k) ?_
    refine own_go (st' := s₁.setTop (mkF m 20 #[oR ax, oR ay, oi 1] [(.int (1 : Int32)), (.ref ay), (.int w1)])) (fun _ k => XS.iloadN X0.here hx rfl (hb hby d17_19) rfl k) ?_
    obtain ⟨cl12, Ar12, -, S12, M12, H12, -⟩ := id pr2
    have hin12 : ¬ ((1 : Int32) < 0 ∨ cl12.slots.size ≤ ((1 : Int32)).toNatClampNeg) := (inb_of S12 ⟨by decide, by decide⟩)
    have hat12 : cl12.slots[((1 : Int32)).toNatClampNeg]? = some (.int z1) := (H12.at hin12 rfl)
    refine own_go (st' := s₁.setTop (mkF m 21 #[oR ax, oR ay, oi 1] [(.int z1), (.int w1)])) (X0.baloadBytes hx (j := (1 : Int32)) (v := (.int z1)) (by rw [e0]; exact Ar12.1) (State.isArrayOf_alike hZ.alike Ar12.2.1) Ar12.2.2 hin12 hat12 (g := (mkF m 20 #[oR ax, oR ay, oi 1] [(.int (1 : Int32)), (.ref ay), (.int w1)])) rfl rfl (hb hby d17_20)) ?_
    by_cases hc13 : w1 = z1
    · --
      refine own_go (st' := s₁.setTop (mkF m 26 #[oR ax, oR ay, oi 1] [])) (fun _ k => XS.icmpYes X0.here hx rfl (pc0 := 21) (pc' := 26) rfl (hb hby d17_21) rfl (teq hc13).1 (by decide) (by decide) k) ?_
      refine own_go (st' := s₁.setTop (mkF m 29 #[oR ax, oR ay, oi 2] [])) (fun _ k => XS.iinc X0.here hx rfl (hb hby d17_26) rfl (l' := #[oR ax, oR ay, oi 2]) (by rw [show ((1 : Int32) + Int32.ofInt 1) = (2 : Int32) by decide]; rfl) k) ?_
      refine own_go (st' := s₁.setTop (mkF m 9 #[oR ax, oR ay, oi 2] [])) (fun _ k => XS.goto X0.here hx rfl (pc0 := 29) (pc' := 9) rfl (hb hby d17_29) (by decide) (by decide) k) ?_
      refine own_go (st' := s₁.setTop (mkF m 10 #[oR ax, oR ay, oi 2] [(.int (2 : Int32))])) (fun _ k => XS.iloadN X0.here hx rfl (hb hby d17_9) rfl k) ?_
      refine own_go (st' := s₁.setTop (mkF m 11 #[oR ax, oR ay, oi 2] [(.ref ax), (.int (2 : Int32))])) (fun _ k => XS.aloadN X0.here hx rfl (hb hby d17_10) rfl rfl k) ?_
      obtain ⟨cl14, Ar14, -, S14, M14, -, -⟩ := id pr1
      refine own_go (st' := s₁.setTop (mkF m 12 #[oR ax, oR ay, oi 2] [(.int (2 : Int32)), (.int (2 : Int32))])) (fun t k => X0.arraylength hx (by rw [e0]; exact Ar14.1) (State.isArrayOf_alike hZ.alike Ar14.2.1) (g := (mkF m 11 #[oR ax, oR ay, oi 2] [(.ref ax), (.int (2 : Int32))])) rfl rfl (hb hby d17_11) t (by rw [len_of S14 M14]; exact k)) ?_
      have hc15 : ¬ ((2 : Int32) < (2 : Int32)) := by decide
      refine own_go (st' := s₁.setTop (mkF m 32 #[oR ax, oR ay, oi 2] [])) (fun _ k => XS.icmpYes X0.here hx rfl (pc0 := 12) (pc' := 32) rfl (hb hby d17_12) rfl (flt hc15).2.1 (by decide) (by decide) k) ?_
      refine own_go (st' := s₁.setTop (mkF m 33 #[oR ax, oR ay, oi 2] [(.int (1 : Int32))])) (fun _ k => XS.iconst X0.here hx rfl (hb hby d17_32) k) ?_
      obtain ⟨fs, hr, hrun, hended, hW, hsame⟩ := X0.leave (v := some (.int (1 : Int32))) (fun h => by rw [Bd.returns] at h; cases h)
      refine ⟨_, _, ?_, hP _ _ hrun hended ⟨_, _, rfl, ?_, ⟨_, rfl⟩, hW, hsame.mono (by decide) (by decide)⟩⟩
      · exact retN X0 hx (t := .boolean) Bd.returns (by simp) (hb hby d17_33) hr
      · show Qrle_22 Z ax ka ay kb w0 w1 z0 z1 h0 n0 _ s₁.heap _
        rw [e0]
        exact ⟨(by unfold own_eq2; rw [if_pos hc8, if_pos hc13]), N0, rfl⟩
    · --
      refine own_go (st' := s₁.setTop (mkF m 24 #[oR ax, oR ay, oi 1] [])) (fun _ k => XS.icmpNo X0.here hx rfl (hb hby d17_21) rfl (feq hc13).1 k) ?_
      refine own_go (st' := s₁.setTop (mkF m 25 #[oR ax, oR ay, oi 1] [(.int (0 : Int32))])) (fun _ k => XS.iconst X0.here hx rfl (hb hby d17_24) k) ?_
      obtain ⟨fs, hr, hrun, hended, hW, hsame⟩ := X0.leave (v := some (.int (0 : Int32))) (fun h => by rw [Bd.returns] at h; cases h)
      refine ⟨_, _, ?_, hP _ _ hrun hended ⟨_, _, rfl, ?_, ⟨_, rfl⟩, hW, hsame.mono (by decide) (by decide)⟩⟩
      · exact retN X0 hx (t := .boolean) Bd.returns (by simp) (hb hby d17_25) hr
      · show Qrle_22 Z ax ka ay kb w0 w1 z0 z1 h0 n0 _ s₁.heap _
        rw [e0]
        exact ⟨(by unfold own_eq2; rw [if_pos hc8, if_neg hc13]), N0, rfl⟩
  · --
    refine own_go (st' := s₁.setTop (mkF m 24 #[oR ax, oR ay, oi 0] [])) (fun _ k => XS.icmpNo X0.here hx rfl (hb hby d17_21) rfl (feq hc8).1 k) ?_
    refine own_go (st' := s₁.setTop (mkF m 25 #[oR ax, oR ay, oi 0] [(.int (0 : Int32))])) (fun _ k => XS.iconst X0.here hx rfl (hb hby d17_24) k) ?_
    obtain ⟨fs, hr, hrun, hended, hW, hsame⟩ := X0.leave (v := some (.int (0 : Int32))) (fun h => by rw [Bd.returns] at h; cases h)
    refine ⟨_, _, ?_, hP _ _ hrun hended ⟨_, _, rfl, ?_, ⟨_, rfl⟩, hW, hsame.mono (by decide) (by decide)⟩⟩
    · exact retN X0 hx (t := .boolean) Bd.returns (by simp) (hb hby d17_25) hr
    · show Qrle_22 Z ax ka ay kb w0 w1 z0 z1 h0 n0 _ s₁.heap _
      rw [e0]
      exact ⟨(by unfold own_eq2; rw [if_neg hc8]), N0, rfl⟩
theorem ef_rse_22 (m : MethodId) (x0 : Addr) (x1 : Addr) : entryFrame m #[(.ref x0), (.ref x1)] 3 = mkF m 0 #[.val (.ref x0), .val (.ref x1), .unset] [] := by first | (simp [entryFrame, mkF, argsToLocals, Value.category]; done) | rfl
def Qrse_22 (Z : State) (a1 : Addr) (a2 : Addr) (zc : Int32) (ax : Addr) (ka : ClassId) (ay : Addr) (kb : ClassId) (w0 : Int32) (w1 : Int32) (z0 : Int32) (z1 : Int32) (h0 : Heap) (n0 : Nat) (v : Option Value) (h : Heap) (L : List Loc) : Prop := (v = some (.int (own_eq2 w0 w1 z0 z1))) ∧ (Fr n0 L) ∧ (h = h0)
set_option maxRecDepth 65536 in
set_option maxHeartbeats 40000000 in
theorem rse_22 (l : Launch) (Z : State) (a0 : Array Value) (hw : ∀ d ∈ tables_1, d.before a0 Z = true) (ws : List Jvm.Cond) (a1 : Addr) (a2 : Addr) (zc : Int32) (ax : Addr) (ka : ClassId) (ay : Addr) (kb : ClassId) (w0 : Int32) (w1 : Int32) (z0 : Int32) (z1 : Int32) (h0 : Heap) (n0 : Nat) (Z0 : n0 ≤ h0.size) (pr1 : Sta Z h0 "java/lang/String" "COMPACT_STRINGS" "Z" (.int zc)) (hzc : ¬ zc = (0 : Int32)) (pr2 : @Ne Nat a1 a2) (pr3 : Exa Z h0 a1 "java/lang/String") (pr4 : Fld Z h0 a1 "java/lang/String" "value" "[B" (.ref ax)) (pr5 : Fld Z h0 a1 "java/lang/String" "coder" "B" (.int (0 : Int32))) (pr6 : Exa Z h0 a2 "java/lang/String") (pr7 : Fld Z h0 a2 "java/lang/String" "value" "[B" (.ref ay)) (pr8 : Fld Z h0 a2 "java/lang/String" "coder" "B" (.int (0 : Int32))) (pr9 : Arv Z h0 ax ka .byte (2 : Int32) [(.int w0), (.int w1)] (.int (0 : Int32))) (pr10 : Arv Z h0 ay kb .byte (2 : Int32) [(.int z0), (.int z1)] (.int (0 : Int32))) :
    MetFree l oM1 (head1 (Jvm.Cond.code oM1 jdk_42_method_66_code 3 (some .boolean) :: ws) ({ frames := 1, cells := 0, slots := 0, locals := 14 } : Room)) (fun a U => a = #[(.ref a1), (.ref a2)] ∧ Z.Warmed39 U.vm ∧ U.heap = h0) (fun _ _ _ _ _ => True) (fun _ U o U' => ∃ v L, o = .returned v ∧ Qrse_22 Z a1 a2 zc ax ka ay kb w0 w1 z0 z1 h0 n0 v U'.heap L ∧ FrameEnd U o U' L ({ frames := 1, cells := 0, slots := 0, locals := 14 } : Room).cells ({ frames := 1, cells := 0, slots := 0, locals := 14 } : Room).slots) := by
  refine MetFree.of_bodySF (plainFor_of_name pn_13) hisR ?_
  intro p e s m args below meth c s₁ Bd hml0 hP0 hK
  obtain ⟨rfl, hZ, hh⟩ := hP0
  have hx := Bd.exec
  have hby := Bd.bytes
  have hml : c.maxLocals = 3 := hml0
  have hown : s.vm.findClass oS0 = some m.cls := findClass_of_methodNamed Bd.named
  have hnm := (name_of_methodNamed Bd.named Bd.method).1
  have X0 : Stand p l e ({ frames := 1, cells := 0, slots := 0, locals := 14 } : Room) s m #[(.ref a1), (.ref a2)] below meth c s₁ [] 0 0 := Stand.of_body Bd
  have e0 : s₁.heap = h0 := by rw [← hh, Bd.state]; rfl
  have N0 := Fr.nil n0
  suffices own_H : ∀ (P : State → Outcome → Prop), (∀ U o, U.status = .running → Ended U below o → (∃ v L, o = .returned v ∧ Qrse_22 Z a1 a2 zc ax ka ay kb w0 w1 z0 z1 h0 n0 v U.heap L ∧ FrameEnd s o U L ({ frames := 1, cells := 0, slots := 0, locals := 14 } : Room).cells ({ frames := 1, cells := 0, slots := 0, locals := 14 } : Room).slots) → P U o) → own_Go p.tables e below P (s₁.setTop (mkF m 0 #[oR a1, oR a2, .unset] [])) from own_go (fun _ k => castTop (ef_rse_22 m a1 a2) k) (own_H _ (fun U o h1 h2 h3 => ⟨h1, h2, h3⟩))
  intro P hP
  have lt_a1 : @LT.lt Nat _ a1 h0.size := pr3.lt
  have lt_a2 : @LT.lt Nat _ a2 h0.size := pr6.lt
  have lt_ax : @LT.lt Nat _ ax h0.size := pr9.lt
  have lt_ay : @LT.lt Nat _ ay h0.size := pr10.lt
  refine own_go (st' := s₁.setTop (mkF m 1 #[oR a1, oR a2, .unset] [(.ref a1)])) (fun _ k => XS.aloadN X0.here hx rfl (hb hby d13_0) rfl rfl k) ?_
  refine own_go (st' := s₁.setTop (mkF m 2 #[oR a1, oR a2, .unset] [(.ref a2), (.ref a1)])) (fun _ k => XS.aloadN X0.here hx rfl (hb hby d13_1) rfl rfl k) ?_
  have hc1 : ¬ (a1 = a2) := (fun q_ => (own_ne' (by assumption)) q_)
  refine own_go (st' := s₁.setTop (mkF m 7 #[oR a1, oR a2, .unset] [])) (fun _ k => Jvm.RoadKit.acmp (g := (mkF m 2 #[oR a1, oR a2, .unset] [(.ref a2), (.ref a1)])) X0 hx rfl rfl rfl (pc0 := 2) (pc' := 7) (same := false) rfl (hb hby d13_2) rfl (decide_eq_false fun q_ => hc1 (Value.ref.inj q_)) (by decide) (by decide) k) ?_
  refine own_go (st' := s₁.setTop (mkF m 8 #[oR a1, oR a2, .unset] [(.ref a2)])) (fun _ k => XS.aloadN X0.here hx rfl (hb hby d13_7) rfl rfl k) ?_
  obtain ⟨T2, X2, e2, st2⟩ := instY X0 hx hZ hown (own_hw hw 99) e0 (Ins.self pr6) (g := (mkF m 8 #[oR a1, oR a2, .unset] [(.ref a2)])) rfl rfl (hb hby d13_8)
  refine own_go (st' := T2.setTop (mkF m 11 #[oR a1, oR a2, .unset] [(.int (1 : Int32))])) (st2) ?_
  have hc3 : ¬ ((1 : Int32) = (0 : Int32)) := by decide
  refine own_go (st' := T2.setTop (mkF m 14 #[oR a1, oR a2, .unset] [])) (fun _ k => XS.ifNo X2.here hx rfl (hb hby d13_11) rfl ((if0 _ _).trans (feq hc3).1) k) ?_
  refine own_go (st' := T2.setTop (mkF m 15 #[oR a1, oR a2, .unset] [(.ref a2)])) (fun _ k => XS.aloadN X2.here hx rfl (hb hby d13_14) rfl rfl k) ?_
  obtain ⟨T4, X4, e4, st4⟩ := castY X2 hx hZ hown (own_hw hw 99) e2 (Ins.self pr6) (g := (mkF m 15 #[oR a1, oR a2, .unset] [(.ref a2)])) rfl rfl (hb hby d13_15)
  refine own_go (st' := T4.setTop (mkF m 18 #[oR a1, oR a2, .unset] [(.ref a2)])) (st4) ?_
  refine own_go (st' := T4.setTop (mkF m 19 #[oR a1, oR a2, oR a2] [])) (fun _ k => XS.astoreN X4.here hx rfl (hb hby d13_18) rfl rfl (l' := #[oR a1, oR a2, oR a2]) rfl k) ?_
  obtain ⟨T5, X5, e5, st5⟩ := getS2 X4 hx hZ hown (host := "") (Or.inl (own_hw hw 19)) Via.refl e4 pr1 (g := (mkF m 19 #[oR a1, oR a2, oR a2] [])) rfl (hb hby d13_19)
  refine own_go (st' := T5.setTop (mkF m 22 #[oR a1, oR a2, oR a2] [(.int zc)])) (st5) ?_
  have hc6 : ¬ (zc = (0 : Int32)) := hzc
  refine own_go (st' := T5.setTop (mkF m 25 #[oR a1, oR a2, oR a2] [])) (fun _ k => XS.ifNo X5.here hx rfl (hb hby d13_22) rfl ((if0 _ _).trans (feq hc6).1) k) ?_
  refine own_go (st' := T5.setTop (mkF m 26 #[oR a1, oR a2, oR a2] [(.ref a1)])) (fun _ k => XS.aloadN X5.here hx rfl (hb hby d13_25) rfl rfl k) ?_
  obtain ⟨T7, X7, e7, st7⟩ := getF X5 hx hZ hown (host := "") (Or.inl (own_hw hw 31)) Via.refl e5 pr5 (g := (mkF m 26 #[oR a1, oR a2, oR a2] [(.ref a1)])) rfl rfl (hb hby d13_26)
  refine own_go (st' := T7.setTop (mkF m 29 #[oR a1, oR a2, oR a2] [(.int (0 : Int32))])) (st7) ?_
  refine own_go (st' := T7.setTop (mkF m 30 #[oR a1, oR a2, oR a2] [(.ref a2), (.int (0 : Int32))])) (fun _ k => XS.aloadN X7.here hx rfl (hb hby d13_29) rfl rfl k) ?_
  obtain ⟨T8, X8, e8, st8⟩ := getF X7 hx hZ hown (host := "") (Or.inl (own_hw hw 31)) Via.refl e7 pr8 (g := (mkF m 30 #[oR a1, oR a2, oR a2] [(.ref a2), (.int (0 : Int32))])) rfl rfl (hb hby d13_30)
  refine own_go (st' := T8.setTop (mkF m 33 #[oR a1, oR a2, oR a2] [(.int (0 : Int32)), (.int (0 : Int32))])) (st8) ?_
  have hc9 : (0 : Int32) = (0 : Int32) := by decide
  refine own_go (st' := T8.setTop (mkF m 36 #[oR a1, oR a2, oR a2] [])) (fun _ k => XS.icmpNo X8.here hx rfl (hb hby d13_33) rfl (teq hc9).2 k) ?_
  refine own_go (st' := T8.setTop (mkF m 37 #[oR a1, oR a2, oR a2] [(.ref a1)])) (fun _ k => XS.aloadN X8.here hx rfl (hb hby d13_36) rfl rfl k) ?_
  obtain ⟨T10, X10, e10, st10⟩ := getF X8 hx hZ hown (host := "") (Or.inl (own_hw hw 33)) Via.refl e8 pr4 (g := (mkF m 37 #[oR a1, oR a2, oR a2] [(.ref a1)])) rfl rfl (hb hby d13_37)
  refine own_go (st' := T10.setTop (mkF m 40 #[oR a1, oR a2, oR a2] [(.ref ax)])) (st10) ?_
  refine own_go (st' := T10.setTop (mkF m 41 #[oR a1, oR a2, oR a2] [(.ref a2), (.ref ax)])) (fun _ k => XS.aloadN X10.here hx rfl (hb hby d13_40) rfl rfl k) ?_
  obtain ⟨T11, X11, e11, st11⟩ := getF X10 hx hZ hown (host := "") (Or.inl (own_hw hw 33)) Via.refl e10 pr7 (g := (mkF m 41 #[oR a1, oR a2, oR a2] [(.ref a2), (.ref ax)])) rfl rfl (hb hby d13_41)
  refine own_go (st' := T11.setTop (mkF m 44 #[oR a1, oR a2, oR a2] [(.ref ay), (.ref ax)])) (st11) ?_
  obtain ⟨_, _, ⟨T12, LC12, kC12, nC12⟩, -, X12, ⟨Lc12, hQ12, lq12, yq12, zq12⟩, st12⟩ := Jvm.LawKit.callS X11 hx (y := oM2) hown (mvT hZ (own_hw hw 100)) (mvT hZ (own_hw hw 101)) (mvT hZ (own_hw hw 102)) (mvT hZ (own_hw hw 103)) (by decide) (backOf (W := 0) (rle_22 l Z a0 hw [] ax ka ay kb w0 w1 z0 z1 h0 n0 (by omega) pr9 pr10) hZ (own_hw hw 103) (own_hw hw 102) (by decide) (by decide)) (g := (mkF m 44 #[oR a1, oR a2, oR a2] [(.ref ay), (.ref ax)])) rfl (by rw [hml]; rfl) (argsL := [(.ref ax), (.ref ay)]) (rest := []) (lenOf pd_6 rfl) rfl (by show 2 * 0 + _ ≤ _; exact Nat.le_of_eq rfl) (hb hby d13_44) (fun _ _ => ⟨rfl, e11, (by decide : 0 + 0 ≤ _), (by decide : 0 + 0 ≤ _)⟩)
  dsimp only [Pt.U, Pt.locs, Pt.cells, Pt.slots] at X12 lq12 yq12 zq12 st12 hQ12
  subst lq12 yq12 zq12
  obtain ⟨rfl, Nq12, eq12⟩ := hQ12
  have N12 := Fr.app N0 Nq12
  refine own_go (st' := T12.setTop (mkF m 47 #[oR a1, oR a2, oR a2] [(.int (own_eq2 w0 w1 z0 z1))])) (fun t k => st12 t k) ?_
  by_cases hc13 : (own_eq2 w0 w1 z0 z1) = (0 : Int32)
  · --
    refine own_go (st' := T12.setTop (mkF m 54 #[oR a1, oR a2, oR a2] [])) (fun _ k => XS.ifYes X12.here hx rfl (pc0 := 47) (pc' := 54) rfl (hb hby d13_47) rfl ((if0 _ _).trans (teq hc13).1) (by decide) (by decide) k) ?_
    refine own_go (st' := T12.setTop (mkF m 55 #[oR a1, oR a2, oR a2] [(.int (0 : Int32))])) (fun _ k => XS.iconst X12.here hx rfl (hb hby d13_54) k) ?_
    obtain ⟨fs, hr, hrun, hended, hW, hsame⟩ := X12.leave (v := some (.int (0 : Int32))) (fun h => by rw [Bd.returns] at h; cases h)
    refine ⟨_, _, ?_, hP _ _ hrun hended ⟨_, _, rfl, ?_, ⟨_, rfl⟩, hW, hsame.mono (by decide) (by decide)⟩⟩
    · exact retN X12 hx (t := .boolean) Bd.returns (by simp) (hb hby d13_55) hr
    · show Qrse_22 Z a1 a2 zc ax ka ay kb w0 w1 z0 z1 h0 n0 _ T12.heap _
      rw [eq12]
      exact ⟨(by rw [hc13]), N12, rfl⟩
  · --
    refine own_go (st' := T12.setTop (mkF m 50 #[oR a1, oR a2, oR a2] [])) (fun _ k => XS.ifNo X12.here hx rfl (hb hby d13_47) rfl ((if0 _ _).trans (feq hc13).1) k) ?_
    refine own_go (st' := T12.setTop (mkF m 51 #[oR a1, oR a2, oR a2] [(.int (1 : Int32))])) (fun _ k => XS.iconst X12.here hx rfl (hb hby d13_50) k) ?_
    refine own_go (st' := T12.setTop (mkF m 55 #[oR a1, oR a2, oR a2] [(.int (1 : Int32))])) (fun _ k => XS.goto X12.here hx rfl (pc0 := 51) (pc' := 55) rfl (hb hby d13_51) (by decide) (by decide) k) ?_
    obtain ⟨fs, hr, hrun, hended, hW, hsame⟩ := X12.leave (v := some (.int (1 : Int32))) (fun h => by rw [Bd.returns] at h; cases h)
    refine ⟨_, _, ?_, hP _ _ hrun hended ⟨_, _, rfl, ?_, ⟨_, rfl⟩, hW, hsame.mono (by decide) (by decide)⟩⟩
    · exact retN X12 hx (t := .boolean) Bd.returns (by simp) (hb hby d13_55) hr
    · show Qrse_22 Z a1 a2 zc ax ka ay kb w0 w1 z0 z1 h0 n0 _ T12.heap _
      rw [eq12]
      exact ⟨(by rw [own_eq2_one hc13]), N12, rfl⟩
theorem pd_7 : parseMethodDescriptor "([C)V" = some ⟨[(.array .char)], none⟩ := by decide +kernel
theorem d1_0 : decode method_2_code 0 = .ok (.iload_n 0, 1) := by decide +kernel
theorem d1_1 : decode method_2_code 1 = .ok (.iconst 1, 1) := by decide +kernel
theorem d1_2 : decode method_2_code 2 = .ok (.if_icmp .ne 18, 3) := by decide +kernel
theorem d1_5 : decode method_2_code 5 = .ok (.new 7, 3) := by decide +kernel
theorem d1_8 : decode method_2_code 8 = .ok (.dup, 1) := by decide +kernel
theorem d1_9 : decode method_2_code 9 = .ok (.iconst 1, 1) := by decide +kernel
theorem d1_10 : decode method_2_code 10 = .ok (.newarray .char, 2) := by decide +kernel
theorem d1_12 : decode method_2_code 12 = .ok (.dup, 1) := by decide +kernel
theorem d1_13 : decode method_2_code 13 = .ok (.iconst 0, 1) := by decide +kernel
theorem d1_14 : decode method_2_code 14 = .ok (.iload_n 1, 1) := by decide +kernel
theorem d1_15 : decode method_2_code 15 = .ok (.castore, 1) := by decide +kernel
theorem d1_16 : decode method_2_code 16 = .ok (.invokespecial 9, 3) := by decide +kernel
theorem d1_19 : decode method_2_code 19 = .ok (.areturn, 1) := by decide +kernel
theorem pn_1 : plainName "com/example/limpet/limpet/TopicPartitionEqualsPinLaw" = true := by first | (simp [plainName, overriddenIn]; done) | decide +kernel
theorem ef_rmk_1 (m : MethodId) (x0 : Int32) (x1 : Int32) (x2 : Int32) : entryFrame m #[(.int x0), (.int x1), (.int x2)] 3 = mkF m 0 #[.val (.int x0), .val (.int x1), .val (.int x2)] [] := by first | (simp [entryFrame, mkF, argsToLocals, Value.category]; done) | rfl
def Qrmk_1 (Z : State) (zc : Int32) (u0 : Int32) (u1 : Int32) (h0 : Heap) (n0 : Nat) (v : Option Value) (h : Heap) (L : List Loc) : Prop := ∃ (a1 : Addr) (r : Addr) (kr : ClassId), (v = some (.ref a1)) ∧ (Fr n0 L) ∧ (Keep h0 h []) ∧ (Exa Z h a1 "java/lang/String") ∧ (Fld Z h a1 "java/lang/String" "value" "[B" (.ref r)) ∧ (Fld Z h a1 "java/lang/String" "coder" "B" (.int (0 : Int32))) ∧ (Arv Z h r kr .byte (1 : Int32) [(.int (own_by u0))] (.int (0 : Int32))) ∧ (h0.size ≤ a1) ∧ (h0.size ≤ r) ∧ (@Ne Nat a1 r)
set_option maxRecDepth 65536 in
set_option maxHeartbeats 40000000 in
theorem rmk_1 (l : Launch) (Z : State) (a0 : Array Value) (hw : ∀ d ∈ tables_1, d.before a0 Z = true) (ws : List Jvm.Cond) (zc : Int32) (u0 : Int32) (u1 : Int32) (h0 : Heap) (n0 : Nat) (Z0 : n0 ≤ h0.size) (pr1 : Sta Z h0 "java/lang/String" "COMPACT_STRINGS" "Z" (.int zc)) (hzc : ¬ zc = (0 : Int32)) (hl_u0 : own_lat u0) (hl_u1 : own_lat u1) :
    MetFree l oM3 (head1 (Jvm.Cond.code oM3 method_2_code 3 (some (.object oS0)) :: ws) ({ frames := 4, cells := 3, slots := 6, locals := 66 } : Room)) (fun a U => a = #[(.int (1 : Int32)), (.int u0), (.int u1)] ∧ Z.Warmed39 U.vm ∧ U.heap = h0) (fun _ _ _ _ _ => True) (fun _ U o U' => ∃ v L, o = .returned v ∧ Qrmk_1 Z zc u0 u1 h0 n0 v U'.heap L ∧ FrameEnd U o U' L ({ frames := 4, cells := 3, slots := 6, locals := 66 } : Room).cells ({ frames := 4, cells := 3, slots := 6, locals := 66 } : Room).slots) := by
  refine MetFree.of_bodySF (plainFor_of_name pn_1) hisR ?_
  intro p e s m args below meth c s₁ Bd hml0 hP0 hK
  obtain ⟨rfl, hZ, hh⟩ := hP0
  have hx := Bd.exec
  have hby := Bd.bytes
  have hml : c.maxLocals = 3 := hml0
  have hown : s.vm.findClass oS3 = some m.cls := findClass_of_methodNamed Bd.named
  have hnm := (name_of_methodNamed Bd.named Bd.method).1
  have X0 : Stand p l e ({ frames := 4, cells := 3, slots := 6, locals := 66 } : Room) s m #[(.int (1 : Int32)), (.int u0), (.int u1)] below meth c s₁ [] 0 0 := Stand.of_body Bd
  have e0 : s₁.heap = h0 := by rw [← hh, Bd.state]; rfl
  have N0 := Fr.nil n0
  suffices own_H : ∀ (P : State → Outcome → Prop), (∀ U o, U.status = .running → Ended U below o → (∃ v L, o = .returned v ∧ Qrmk_1 Z zc u0 u1 h0 n0 v U.heap L ∧ FrameEnd s o U L ({ frames := 4, cells := 3, slots := 6, locals := 66 } : Room).cells ({ frames := 4, cells := 3, slots := 6, locals := 66 } : Room).slots) → P U o) → own_Go p.tables e below P (s₁.setTop (mkF m 0 #[oi 1, oi u0, oi u1] [])) from own_go (fun _ k => castTop (ef_rmk_1 m (1 : Int32) u0 u1) k) (own_H _ (fun U o h1 h2 h3 => ⟨h1, h2, h3⟩))
  intro P hP
  refine own_go (st' := s₁.setTop (mkF m 1 #[oi 1, oi u0, oi u1] [(.int (1 : Int32))])) (fun _ k => XS.iloadN X0.here hx rfl (hb hby d1_0) rfl k) ?_
  refine own_go (st' := s₁.setTop (mkF m 2 #[oi 1, oi u0, oi u1] [(.int (1 : Int32)), (.int (1 : Int32))])) (fun _ k => XS.iconst X0.here hx rfl (hb hby d1_1) k) ?_
  have hc1 : (1 : Int32) = (1 : Int32) := by decide
  refine own_go (st' := s₁.setTop (mkF m 5 #[oi 1, oi u0, oi u1] [])) (fun _ k => XS.icmpNo X0.here hx rfl (hb hby d1_2) rfl (teq hc1).2 k) ?_
  obtain ⟨T2, h2, X2, e2, E2, A2, D2, -, st2⟩ := newO X0 hx hZ hown (own_hw hw 5) (own_hw hw 6) (own_hw hw 7) e0 (g := (mkF m 5 #[oi 1, oi u0, oi u1] [])) rfl (hb hby d1_5) (by decide) (by decide)
  obtain ⟨b2, g2⟩ : ∃ z, z = h0.size := ⟨_, rfl⟩
  rw [← g2] at A2 D2 st2
  have sz2 : h0.size ≤ h2.size := E2.1
  have lt2 : @LT.lt Nat _ b2 h2.size := A2.lt
  have f3 : Fld Z h2 b2 oS0 "coder" "B" (.int (0 : Int32)) := D2 (Or.inr (own_hw hw 32)) (ty := .byte) (by decide)
  have f4 : Fld Z h2 b2 oS0 "value" "[B" .null := D2 (Or.inr (own_hw hw 34)) (ty := (.array .byte)) (by decide)
  refine own_go (st' := T2.setTop (mkF m 8 #[oi 1, oi u0, oi u1] [(.ref b2)])) (st2) ?_
  refine own_go (st' := T2.setTop (mkF m 9 #[oi 1, oi u0, oi u1] [(.ref b2), (.ref b2)])) (fun _ k => XS.dup X2.here hx rfl (hb hby d1_8) rfl rfl k) ?_
  refine own_go (st' := T2.setTop (mkF m 10 #[oi 1, oi u0, oi u1] [(.int (1 : Int32)), (.ref b2), (.ref b2)])) (fun _ k => XS.iconst X2.here hx rfl (hb hby d1_9) k) ?_
  obtain ⟨T5, h5, k5, X5, e5, E5, A5, st5⟩ := newP X2 hx hZ (own_hw hw 8) e2 (g := (mkF m 10 #[oi 1, oi u0, oi u1] [(.int (1 : Int32)), (.ref b2), (.ref b2)])) rfl (hb hby d1_10) rfl (by decide) (cap := 1) (by decide) (by decide) (by decide) (by decide)
  obtain ⟨b5, g5⟩ : ∃ z, z = h2.size := ⟨_, rfl⟩
  rw [← g5] at A5 st5
  have sz5 : h2.size ≤ h5.size := E5.1
  have lt5 : @LT.lt Nat _ b5 h5.size := A5.lt
  have v5 : Arv Z h5 b5 k5 .char (1 : Int32) [(.int (0 : Int32))] (.int (0 : Int32)) := (Arv.new A5 (by decide)).pad (pad_rep [] (.int (0 : Int32)) 1)
  refine own_go (st' := T5.setTop (mkF m 12 #[oi 1, oi u0, oi u1] [(.ref b5), (.ref b2), (.ref b2)])) (st5) ?_
  refine own_go (st' := T5.setTop (mkF m 13 #[oi 1, oi u0, oi u1] [(.ref b5), (.ref b5), (.ref b2), (.ref b2)])) (fun _ k => XS.dup X5.here hx rfl (hb hby d1_12) rfl rfl k) ?_
  refine own_go (st' := T5.setTop (mkF m 14 #[oi 1, oi u0, oi u1] [(.int (0 : Int32)), (.ref b5), (.ref b5), (.ref b2), (.ref b2)])) (fun _ k => XS.iconst X5.here hx rfl (hb hby d1_13) k) ?_
  refine own_go (st' := T5.setTop (mkF m 15 #[oi 1, oi u0, oi u1] [(.int u0), (.int (0 : Int32)), (.ref b5), (.ref b5), (.ref b2), (.ref b2)])) (fun _ k => XS.iloadN X5.here hx rfl (hb hby d1_14) rfl k) ?_
  obtain ⟨cl6, Ar6, qc6, S6, M6, H6, G6⟩ := id v5
  have hin6 : ¬ ((0 : Int32) < 0 ∨ cl6.slots.size ≤ ((0 : Int32)).toNatClampNeg) := (inb_of S6 ⟨by decide, by decide⟩)
  obtain ⟨T6, h6, X6, e6, W6, st6⟩ := stC X5 hx hZ e5 Ar6 (j := (0 : Int32)) hin6 (g := (mkF m 15 #[oi 1, oi u0, oi u1] [(.int u0), (.int (0 : Int32)), (.ref b5), (.ref b5), (.ref b2), (.ref b2)])) rfl rfl (hb hby d1_15)
  have sz6 : h6.size = h5.size := W6.size
  have N6 := Fr.snoc X6 N0 (by omega)
  have v6 : Arv Z h6 b5 k5 .char (1 : Int32) [(.int (nar .char u0))] (.int (0 : Int32)) := Arv.set Ar6 qc6 S6 M6 H6 G6 (fits_nar_char _) W6 0 rfl (Nat.le_of_ble_eq_true rfl)
  refine own_go (st' := T6.setTop (mkF m 16 #[oi 1, oi u0, oi u1] [(.ref b5), (.ref b2), (.ref b2)])) (st6) ?_
  have v7 : Arv Z h6 b5 k5 .char (1 : Int32) [(.int u0)] (.int (0 : Int32)) := by rw [own_lat_ch hl_u0] at v6; exact v6
  have c9 : Exa Z h6 b2 oS0 := ((A2.ext E5).wr W6)
  have c10 : Fld Z h6 b2 oS0 "value" "[B" .null := ((f4.ext E5).other W6 (Or.inl (own_ne (by omega))))
  have c11 : Fld Z h6 b2 oS0 "coder" "B" (.int (0 : Int32)) := ((f3.ext E5).other W6 (Or.inl (own_ne (by omega))))
  have c12 : Sta Z h6 oS0 oS4 "Z" (.int zc) := (((pr1.ext E2).ext E5).wr W6)
  obtain ⟨_, _, ⟨T8, LC8, kC8, nC8⟩, -, X8, ⟨Lc8, hQ8, lq8, yq8, zq8⟩, st8⟩ := X6.specialBack hx (y := oM11) rfl hown (mvT hZ (own_hw hw 9)) (mvT hZ (own_hw hw 10)) (mvT hZ (own_hw hw 11)) (by decide) (backOf (W := 1) (rsc_1 l Z a0 hw [] b2 b5 k5 zc u0 h6 n0 (by omega) c9 c10 c11 v7 c12 (by assumption) hl_u0 (by omega) (own_ne (by omega))) hZ (own_hw hw 11) (own_hw hw 7) (by decide) (by decide)) (g := (mkF m 16 #[oi 1, oi u0, oi u1] [(.ref b5), (.ref b2), (.ref b2)])) rfl (by rw [hml]; rfl) (Steps.refl _) (a := b2) (argsL := [(.ref b5)]) (rest := [(.ref b2)]) (lenOf pd_7 rfl) rfl (by show 2 * 0 + _ ≤ _; exact Nat.le_of_eq rfl) (hb hby d1_16) (fun _ _ => ⟨rfl, e6, (by decide : 2 + 1 ≤ _), (by decide : 5 + 1 ≤ _)⟩)
  dsimp only [Pt.U, Pt.locs, Pt.cells, Pt.slots] at X8 lq8 yq8 zq8 st8 hQ8
  subst lq8 yq8 zq8
  obtain ⟨h8, e8⟩ : ∃ z, T8.heap = z := ⟨_, rfl⟩
  rw [e8] at hQ8
  obtain ⟨r_8, kr_8, rfl, Nq8, K8, g8_0, g8_1, g8_2, g8_3, g8_4⟩ := hQ8
  have sz8 : h6.size ≤ h8.size := K8.1
  have N8 := Fr.app N6 Nq8
  have lt8_1 : @LT.lt Nat _ b2 h8.size := g8_0.lt
  have lt8_2 : @LT.lt Nat _ r_8 h8.size := g8_3.lt
  refine own_go (st' := T8.setTop (mkF m 19 #[oi 1, oi u0, oi u1] [(.ref b2)])) (fun _ k => st8.trans k) ?_
  obtain ⟨fs, hr, hrun, hended, hW, hsame⟩ := X8.leave (v := some (.ref b2)) (fun h => by rw [Bd.returns] at h; cases h)
  refine ⟨_, _, ?_, hP _ _ hrun hended ⟨_, _, rfl, ?_, ⟨_, rfl⟩, hW, hsame.mono (by decide) (by decide)⟩⟩
  · exact retOut X8 hx Bd.returns rfl (Or.inr (Or.inr (Or.inr (Or.inr ⟨rfl, rfl, rfl⟩)))) (hb hby d1_19) hr
  · show Qrmk_1 Z zc u0 u1 h0 n0 _ T8.heap _
    rw [e8]
    exact ⟨b2, r_8, kr_8, rfl, N8, (((((Keep.refl h0 []).ext E2).ext E5).wr W6 (Or.inr (by omega))).trans K8 (allS (P := fun x => x ∈ [] ∨ h0.size ≤ x) (Or.inr (by omega)) all0)), g8_0, g8_1, g8_2, g8_3, (by omega), (by omega), (own_ne (by omega))⟩
theorem d1_20 : decode method_2_code 20 = .ok (.new 7, 3) := by decide +kernel
theorem d1_23 : decode method_2_code 23 = .ok (.dup, 1) := by decide +kernel
theorem d1_24 : decode method_2_code 24 = .ok (.iconst 2, 1) := by decide +kernel
theorem d1_25 : decode method_2_code 25 = .ok (.newarray .char, 2) := by decide +kernel
theorem d1_27 : decode method_2_code 27 = .ok (.dup, 1) := by decide +kernel
theorem d1_28 : decode method_2_code 28 = .ok (.iconst 0, 1) := by decide +kernel
theorem d1_29 : decode method_2_code 29 = .ok (.iload_n 1, 1) := by decide +kernel
theorem d1_30 : decode method_2_code 30 = .ok (.castore, 1) := by decide +kernel
theorem d1_31 : decode method_2_code 31 = .ok (.dup, 1) := by decide +kernel
theorem d1_32 : decode method_2_code 32 = .ok (.iconst 1, 1) := by decide +kernel
theorem d1_33 : decode method_2_code 33 = .ok (.iload_n 2, 1) := by decide +kernel
theorem d1_34 : decode method_2_code 34 = .ok (.castore, 1) := by decide +kernel
theorem d1_35 : decode method_2_code 35 = .ok (.invokespecial 9, 3) := by decide +kernel
theorem d1_38 : decode method_2_code 38 = .ok (.areturn, 1) := by decide +kernel
theorem ef_rmk_2 (m : MethodId) (x0 : Int32) (x1 : Int32) (x2 : Int32) : entryFrame m #[(.int x0), (.int x1), (.int x2)] 3 = mkF m 0 #[.val (.int x0), .val (.int x1), .val (.int x2)] [] := by first | (simp [entryFrame, mkF, argsToLocals, Value.category]; done) | rfl
def Qrmk_2 (Z : State) (zc : Int32) (u0 : Int32) (u1 : Int32) (h0 : Heap) (n0 : Nat) (v : Option Value) (h : Heap) (L : List Loc) : Prop := ∃ (a1 : Addr) (r : Addr) (kr : ClassId), (v = some (.ref a1)) ∧ (Fr n0 L) ∧ (Keep h0 h []) ∧ (Exa Z h a1 "java/lang/String") ∧ (Fld Z h a1 "java/lang/String" "value" "[B" (.ref r)) ∧ (Fld Z h a1 "java/lang/String" "coder" "B" (.int (0 : Int32))) ∧ (Arv Z h r kr .byte (2 : Int32) [(.int (own_by u0)), (.int (own_by u1))] (.int (0 : Int32))) ∧ (h0.size ≤ a1) ∧ (h0.size ≤ r) ∧ (@Ne Nat a1 r)
set_option maxRecDepth 65536 in
set_option maxHeartbeats 40000000 in
theorem rmk_2 (l : Launch) (Z : State) (a0 : Array Value) (hw : ∀ d ∈ tables_1, d.before a0 Z = true) (ws : List Jvm.Cond) (zc : Int32) (u0 : Int32) (u1 : Int32) (h0 : Heap) (n0 : Nat) (Z0 : n0 ≤ h0.size) (pr1 : Sta Z h0 "java/lang/String" "COMPACT_STRINGS" "Z" (.int zc)) (hzc : ¬ zc = (0 : Int32)) (hl_u0 : own_lat u0) (hl_u1 : own_lat u1) :
    MetFree l oM3 (head1 (Jvm.Cond.code oM3 method_2_code 3 (some (.object oS0)) :: ws) ({ frames := 4, cells := 3, slots := 8, locals := 66 } : Room)) (fun a U => a = #[(.int (2 : Int32)), (.int u0), (.int u1)] ∧ Z.Warmed39 U.vm ∧ U.heap = h0) (fun _ _ _ _ _ => True) (fun _ U o U' => ∃ v L, o = .returned v ∧ Qrmk_2 Z zc u0 u1 h0 n0 v U'.heap L ∧ FrameEnd U o U' L ({ frames := 4, cells := 3, slots := 8, locals := 66 } : Room).cells ({ frames := 4, cells := 3, slots := 8, locals := 66 } : Room).slots) := by
  refine MetFree.of_bodySF (plainFor_of_name pn_1) hisR ?_
  intro p e s m args below meth c s₁ Bd hml0 hP0 hK
  obtain ⟨rfl, hZ, hh⟩ := hP0
  have hx := Bd.exec
  have hby := Bd.bytes
  have hml : c.maxLocals = 3 := hml0
  have hown : s.vm.findClass oS3 = some m.cls := findClass_of_methodNamed Bd.named
  have hnm := (name_of_methodNamed Bd.named Bd.method).1
  have X0 : Stand p l e ({ frames := 4, cells := 3, slots := 8, locals := 66 } : Room) s m #[(.int (2 : Int32)), (.int u0), (.int u1)] below meth c s₁ [] 0 0 := Stand.of_body Bd
  have e0 : s₁.heap = h0 := by rw [← hh, Bd.state]; rfl
  have N0 := Fr.nil n0
  suffices own_H : ∀ (P : State → Outcome → Prop), (∀ U o, U.status = .running → Ended U below o → (∃ v L, o = .returned v ∧ Qrmk_2 Z zc u0 u1 h0 n0 v U.heap L ∧ FrameEnd s o U L ({ frames := 4, cells := 3, slots := 8, locals := 66 } : Room).cells ({ frames := 4, cells := 3, slots := 8, locals := 66 } : Room).slots) → P U o) → own_Go p.tables e below P (s₁.setTop (mkF m 0 #[oi 2, oi u0, oi u1] [])) from own_go (fun _ k => castTop (ef_rmk_2 m (2 : Int32) u0 u1) k) (own_H _ (fun U o h1 h2 h3 => ⟨h1, h2, h3⟩))
  intro P hP
  refine own_go (st' := s₁.setTop (mkF m 1 #[oi 2, oi u0, oi u1] [(.int (2 : Int32))])) (fun _ k => XS.iloadN X0.here hx rfl (hb hby d1_0) rfl k) ?_
  refine own_go (st' := s₁.setTop (mkF m 2 #[oi 2, oi u0, oi u1] [(.int (1 : Int32)), (.int (2 : Int32))])) (fun _ k => XS.iconst X0.here hx rfl (hb hby d1_1) k) ?_
  have hc1 : ¬ ((2 : Int32) = (1 : Int32)) := by decide
  refine own_go (st' := s₁.setTop (mkF m 20 #[oi 2, oi u0, oi u1] [])) (fun _ k => XS.icmpYes X0.here hx rfl (pc0 := 2) (pc' := 20) rfl (hb hby d1_2) rfl (feq hc1).2 (by decide) (by decide) k) ?_
  obtain ⟨T2, h2, X2, e2, E2, A2, D2, -, st2⟩ := newO X0 hx hZ hown (own_hw hw 5) (own_hw hw 6) (own_hw hw 7) e0 (g := (mkF m 20 #[oi 2, oi u0, oi u1] [])) rfl (hb hby d1_20) (by decide) (by decide)
  obtain ⟨b2, g2⟩ : ∃ z, z = h0.size := ⟨_, rfl⟩
  rw [← g2] at A2 D2 st2
  have sz2 : h0.size ≤ h2.size := E2.1
  have lt2 : @LT.lt Nat _ b2 h2.size := A2.lt
  have f3 : Fld Z h2 b2 oS0 "coder" "B" (.int (0 : Int32)) := D2 (Or.inr (own_hw hw 32)) (ty := .byte) (by decide)
  have f4 : Fld Z h2 b2 oS0 "value" "[B" .null := D2 (Or.inr (own_hw hw 34)) (ty := (.array .byte)) (by decide)
  refine own_go (st' := T2.setTop (mkF m 23 #[oi 2, oi u0, oi u1] [(.ref b2)])) (st2) ?_
  refine own_go (st' := T2.setTop (mkF m 24 #[oi 2, oi u0, oi u1] [(.ref b2), (.ref b2)])) (fun _ k => XS.dup X2.here hx rfl (hb hby d1_23) rfl rfl k) ?_
  refine own_go (st' := T2.setTop (mkF m 25 #[oi 2, oi u0, oi u1] [(.int (2 : Int32)), (.ref b2), (.ref b2)])) (fun _ k => XS.iconst X2.here hx rfl (hb hby d1_24) k) ?_
  obtain ⟨T5, h5, k5, X5, e5, E5, A5, st5⟩ := newP X2 hx hZ (own_hw hw 8) e2 (g := (mkF m 25 #[oi 2, oi u0, oi u1] [(.int (2 : Int32)), (.ref b2), (.ref b2)])) rfl (hb hby d1_25) rfl (by decide) (cap := 2) (by decide) (by decide) (by decide) (by decide)
  obtain ⟨b5, g5⟩ : ∃ z, z = h2.size := ⟨_, rfl⟩
  rw [← g5] at A5 st5
  have sz5 : h2.size ≤ h5.size := E5.1
  have lt5 : @LT.lt Nat _ b5 h5.size := A5.lt
  have v5 : Arv Z h5 b5 k5 .char (2 : Int32) [(.int (0 : Int32)), (.int (0 : Int32))] (.int (0 : Int32)) := (Arv.new A5 (by decide)).pad (pad_rep [] (.int (0 : Int32)) 2)
  refine own_go (st' := T5.setTop (mkF m 27 #[oi 2, oi u0, oi u1] [(.ref b5), (.ref b2), (.ref b2)])) (st5) ?_
  refine own_go (st' := T5.setTop (mkF m 28 #[oi 2, oi u0, oi u1] [(.ref b5), (.ref b5), (.ref b2), (.ref b2)])) (fun _ k => XS.dup X5.here hx rfl (hb hby d1_27) rfl rfl k) ?_
  refine own_go (st' := T5.setTop (mkF m 29 #[oi 2, oi u0, oi u1] [(.int (0 : Int32)), (.ref b5), (.ref b5), (.ref b2), (.ref b2)])) (fun _ k => XS.iconst X5.here hx rfl (hb hby d1_28) k) ?_
  refine own_go (st' := T5.setTop (mkF m 30 #[oi 2, oi u0, oi u1] [(.int u0), (.int (0 : Int32)), (.ref b5), (.ref b5), (.ref b2), (.ref b2)])) (fun _ k => XS.iloadN X5.here hx rfl (hb hby d1_29) rfl k) ?_
  obtain ⟨cl6, Ar6, qc6, S6, M6, H6, G6⟩ := id v5
  have hin6 : ¬ ((0 : Int32) < 0 ∨ cl6.slots.size ≤ ((0 : Int32)).toNatClampNeg) := (inb_of S6 ⟨by decide, by decide⟩)
  obtain ⟨T6, h6, X6, e6, W6, st6⟩ := stC X5 hx hZ e5 Ar6 (j := (0 : Int32)) hin6 (g := (mkF m 30 #[oi 2, oi u0, oi u1] [(.int u0), (.int (0 : Int32)), (.ref b5), (.ref b5), (.ref b2), (.ref b2)])) rfl rfl (hb hby d1_30)
  have sz6 : h6.size = h5.size := W6.size
  have N6 := Fr.snoc X6 N0 (by omega)
  have v6 : Arv Z h6 b5 k5 .char (2 : Int32) [(.int (nar .char u0)), (.int (0 : Int32))] (.int (0 : Int32)) := Arv.set Ar6 qc6 S6 M6 H6 G6 (fits_nar_char _) W6 0 rfl (Nat.le_of_ble_eq_true rfl)
  refine own_go (st' := T6.setTop (mkF m 31 #[oi 2, oi u0, oi u1] [(.ref b5), (.ref b2), (.ref b2)])) (st6) ?_
  refine own_go (st' := T6.setTop (mkF m 32 #[oi 2, oi u0, oi u1] [(.ref b5), (.ref b5), (.ref b2), (.ref b2)])) (fun _ k => XS.dup X6.here hx rfl (hb hby d1_31) rfl rfl k) ?_
  refine own_go (st' := T6.setTop (mkF m 33 #[oi 2, oi u0, oi u1] [(.int (1 : Int32)), (.ref b5), (.ref b5), (.ref b2), (.ref b2)])) (fun _ k => XS.iconst X6.here hx rfl (hb hby d1_32) k) ?_
  refine own_go (st' := T6.setTop (mkF m 34 #[oi 2, oi u0, oi u1] [(.int u1), (.int (1 : Int32)), (.ref b5), (.ref b5), (.ref b2), (.ref b2)])) (fun _ k => XS.iloadN X6.here hx rfl (hb hby d1_33) rfl k) ?_
  obtain ⟨cl7, Ar7, qc7, S7, M7, H7, G7⟩ := id v6
  have hin7 : ¬ ((1 : Int32) < 0 ∨ cl7.slots.size ≤ ((1 : Int32)).toNatClampNeg) := (inb_of S7 ⟨by decide, by decide⟩)
  obtain ⟨T7, h7, X7, e7, W7, st7⟩ := stC X6 hx hZ e6 Ar7 (j := (1 : Int32)) hin7 (g := (mkF m 34 #[oi 2, oi u0, oi u1] [(.int u1), (.int (1 : Int32)), (.ref b5), (.ref b5), (.ref b2), (.ref b2)])) rfl rfl (hb hby d1_34)
  have sz7 : h7.size = h6.size := W7.size
  have N7 := Fr.snoc X7 N6 (by omega)
  have v7 : Arv Z h7 b5 k5 .char (2 : Int32) [(.int (nar .char u0)), (.int (nar .char u1))] (.int (0 : Int32)) := Arv.set Ar7 qc7 S7 M7 H7 G7 (fits_nar_char _) W7 1 rfl (Nat.le_of_ble_eq_true rfl)
  refine own_go (st' := T7.setTop (mkF m 35 #[oi 2, oi u0, oi u1] [(.ref b5), (.ref b2), (.ref b2)])) (st7) ?_
  have v8 : Arv Z h7 b5 k5 .char (2 : Int32) [(.int u0), (.int u1)] (.int (0 : Int32)) := by rw [own_lat_ch hl_u0, own_lat_ch hl_u1] at v7; exact v7
  have c10 : Exa Z h7 b2 oS0 := (((A2.ext E5).wr W6).wr W7)
  have c11 : Fld Z h7 b2 oS0 "value" "[B" .null := (((f4.ext E5).other W6 (Or.inl (own_ne (by omega)))).other W7 (Or.inl (own_ne (by omega))))
  have c12 : Fld Z h7 b2 oS0 "coder" "B" (.int (0 : Int32)) := (((f3.ext E5).other W6 (Or.inl (own_ne (by omega)))).other W7 (Or.inl (own_ne (by omega))))
  have c13 : Sta Z h7 oS0 oS4 "Z" (.int zc) := ((((pr1.ext E2).ext E5).wr W6).wr W7)
  obtain ⟨_, _, ⟨T9, LC9, kC9, nC9⟩, -, X9, ⟨Lc9, hQ9, lq9, yq9, zq9⟩, st9⟩ := X7.specialBack hx (y := oM11) rfl hown (mvT hZ (own_hw hw 9)) (mvT hZ (own_hw hw 10)) (mvT hZ (own_hw hw 11)) (by decide) (backOf (W := 1) (rsc_2 l Z a0 hw [] b2 b5 k5 zc u0 u1 h7 n0 (by omega) c10 c11 c12 v8 c13 (by assumption) hl_u0 hl_u1 (by omega) (own_ne (by omega))) hZ (own_hw hw 11) (own_hw hw 7) (by decide) (by decide)) (g := (mkF m 35 #[oi 2, oi u0, oi u1] [(.ref b5), (.ref b2), (.ref b2)])) rfl (by rw [hml]; rfl) (Steps.refl _) (a := b2) (argsL := [(.ref b5)]) (rest := [(.ref b2)]) (lenOf pd_7 rfl) rfl (by show 2 * 0 + _ ≤ _; exact Nat.le_of_eq rfl) (hb hby d1_35) (fun _ _ => ⟨rfl, e7, (by decide : 2 + 1 ≤ _), (by decide : 6 + 2 ≤ _)⟩)
  dsimp only [Pt.U, Pt.locs, Pt.cells, Pt.slots] at X9 lq9 yq9 zq9 st9 hQ9
  subst lq9 yq9 zq9
  obtain ⟨h9, e9⟩ : ∃ z, T9.heap = z := ⟨_, rfl⟩
  rw [e9] at hQ9
  obtain ⟨r_9, kr_9, rfl, Nq9, K9, g9_0, g9_1, g9_2, g9_3, g9_4⟩ := hQ9
  have sz9 : h7.size ≤ h9.size := K9.1
  have N9 := Fr.app N7 Nq9
  have lt9_1 : @LT.lt Nat _ b2 h9.size := g9_0.lt
  have lt9_2 : @LT.lt Nat _ r_9 h9.size := g9_3.lt
  refine own_go (st' := T9.setTop (mkF m 38 #[oi 2, oi u0, oi u1] [(.ref b2)])) (fun _ k => st9.trans k) ?_
  obtain ⟨fs, hr, hrun, hended, hW, hsame⟩ := X9.leave (v := some (.ref b2)) (fun h => by rw [Bd.returns] at h; cases h)
  refine ⟨_, _, ?_, hP _ _ hrun hended ⟨_, _, rfl, ?_, ⟨_, rfl⟩, hW, hsame.mono (by decide) (by decide)⟩⟩
  · exact retOut X9 hx Bd.returns rfl (Or.inr (Or.inr (Or.inr (Or.inr ⟨rfl, rfl, rfl⟩)))) (hb hby d1_38) hr
  · show Qrmk_2 Z zc u0 u1 h0 n0 _ T9.heap _
    rw [e9]
    exact ⟨b2, r_9, kr_9, rfl, N9, ((((((Keep.refl h0 []).ext E2).ext E5).wr W6 (Or.inr (by omega))).wr W7 (Or.inr (by omega))).trans K9 (allS (P := fun x => x ∈ [] ∨ h0.size ≤ x) (Or.inr (by omega)) all0)), g9_0, g9_1, g9_2, g9_3, (by omega), (by omega), (own_ne (by omega))⟩
theorem d10_0 : decode jdk_31_method_11_code 0 = .ok (.aload_n 0, 1) := by decide +kernel
theorem d10_1 : decode jdk_31_method_11_code 1 = .ok (.ifnonnull 12, 3) := by decide +kernel
theorem d10_13 : decode jdk_31_method_11_code 13 = .ok (.aload_n 0, 1) := by decide +kernel
theorem d10_14 : decode jdk_31_method_11_code 14 = .ok (.areturn, 1) := by decide +kernel
theorem pn_10 : plainName "java/util/Objects" = true := by first | (simp [plainName, overriddenIn]; done) | decide +kernel
theorem ef_rm10 (m : MethodId) (x0 : Addr) (x1 : Addr) : entryFrame m #[(.ref x0), (.ref x1)] 2 = mkF m 0 #[.val (.ref x0), .val (.ref x1)] [] := by first | (simp [entryFrame, mkF, argsToLocals, Value.category]; done) | rfl
def Qrm10 (Z : State) (a1 : Addr) (a2 : Addr) (h0 : Heap) (n0 : Nat) (v : Option Value) (h : Heap) (L : List Loc) : Prop := (v = some (.ref a1)) ∧ (Fr n0 L) ∧ (h = h0)
set_option maxRecDepth 65536 in
set_option maxHeartbeats 40000000 in
theorem rm10 (l : Launch) (Z : State) (a0 : Array Value) (hw : ∀ d ∈ tables_1, d.before a0 Z = true) (ws : List Jvm.Cond) (a1 : Addr) (a2 : Addr) (h0 : Heap) (n0 : Nat) (Z0 : n0 ≤ h0.size)  :
    MetFree l oM14 (head1 (Jvm.Cond.code oM14 jdk_31_method_11_code 2 (some (.object "java/lang/Object")) :: ws) ({ frames := 0, cells := 0, slots := 0, locals := 0 } : Room)) (fun a U => a = #[(.ref a1), (.ref a2)] ∧ Z.Warmed39 U.vm ∧ U.heap = h0) (fun _ _ _ _ _ => True) (fun _ U o U' => ∃ v L, o = .returned v ∧ Qrm10 Z a1 a2 h0 n0 v U'.heap L ∧ FrameEnd U o U' L ({ frames := 0, cells := 0, slots := 0, locals := 0 } : Room).cells ({ frames := 0, cells := 0, slots := 0, locals := 0 } : Room).slots) := by
  refine MetFree.of_bodySF (plainFor_of_name pn_10) hisR ?_
  intro p e s m args below meth c s₁ Bd hml0 hP0 hK
  obtain ⟨rfl, hZ, hh⟩ := hP0
  have hx := Bd.exec
  have hby := Bd.bytes
  have hml : c.maxLocals = 2 := hml0
  have hown : s.vm.findClass "java/util/Objects" = some m.cls := findClass_of_methodNamed Bd.named
  have hnm := (name_of_methodNamed Bd.named Bd.method).1
  have X0 : Stand p l e ({ frames := 0, cells := 0, slots := 0, locals := 0 } : Room) s m #[(.ref a1), (.ref a2)] below meth c s₁ [] 0 0 := Stand.of_body Bd
  have e0 : s₁.heap = h0 := by rw [← hh, Bd.state]; rfl
  have N0 := Fr.nil n0
  suffices own_H : ∀ (P : State → Outcome → Prop), (∀ U o, U.status = .running → Ended U below o → (∃ v L, o = .returned v ∧ Qrm10 Z a1 a2 h0 n0 v U.heap L ∧ FrameEnd s o U L ({ frames := 0, cells := 0, slots := 0, locals := 0 } : Room).cells ({ frames := 0, cells := 0, slots := 0, locals := 0 } : Room).slots) → P U o) → own_Go p.tables e below P (s₁.setTop (mkF m 0 #[oR a1, oR a2] [])) from own_go (fun _ k => castTop (ef_rm10 m a1 a2) k) (own_H _ (fun U o h1 h2 h3 => ⟨h1, h2, h3⟩))
  intro P hP
  refine own_go (st' := s₁.setTop (mkF m 1 #[oR a1, oR a2] [(.ref a1)])) (fun _ k => XS.aloadN X0.here hx rfl (hb hby d10_0) rfl rfl k) ?_
  refine own_go (st' := s₁.setTop (mkF m 13 #[oR a1, oR a2] [])) (fun _ k => XS.ifnonnullYes X0.here hx rfl (pc0 := 1) (pc' := 13) rfl (hb hby d10_1) rfl (by decide) (by decide) k) ?_
  refine own_go (st' := s₁.setTop (mkF m 14 #[oR a1, oR a2] [(.ref a1)])) (fun _ k => XS.aloadN X0.here hx rfl (hb hby d10_13) rfl rfl k) ?_
  obtain ⟨fs, hr, hrun, hended, hW, hsame⟩ := X0.leave (v := some (.ref a1)) (fun h => by rw [Bd.returns] at h; cases h)
  refine ⟨_, _, ?_, hP _ _ hrun hended ⟨_, _, rfl, ?_, ⟨_, rfl⟩, hW, hsame.mono (by decide) (by decide)⟩⟩
  · exact retOut X0 hx Bd.returns rfl (Or.inr (Or.inr (Or.inr (Or.inr ⟨rfl, rfl, rfl⟩)))) (hb hby d10_14) hr
  · show Qrm10 Z a1 a2 h0 n0 _ s₁.heap _
    rw [e0]
    exact ⟨rfl, N0, rfl⟩
theorem own_wS {a0 : Array Value} {Z : State} (hw : ∀ d ∈ tables_1, d.before a0 Z = true) : ∀ a ∈ Bundle.stringAtoms, a.before a0 Z = true := by
  intro a h
  simp only [Bundle.stringAtoms, List.mem_cons, List.not_mem_nil, or_false] at h
  rcases h with rfl | rfl | rfl | rfl | rfl | rfl | rfl
  · exact (own_hw hw 7)
  · exact (own_hw hw 6)
  · exact (own_hw hw 24)
  · exact (own_hw hw 34)
  · exact (own_hw hw 32)
  · exact (own_hw hw 46)
  · exact (own_hw hw 47)
theorem pd_8 : parseMethodDescriptor "(Ljava/lang/Object;Ljava/lang/String;)Ljava/lang/Object;" = some ⟨[(.object "java/lang/Object"), (.object "java/lang/String")], some (.object "java/lang/Object")⟩ := by decide +kernel
theorem pd_9 : parseMethodDescriptor "()Z" = some ⟨[], some .boolean⟩ := by decide +kernel
theorem d9_0 : decode prog_38_method_3_code 0 = .ok (.aload_n 0, 1) := by decide +kernel
theorem d9_1 : decode prog_38_method_3_code 1 = .ok (.ldc 73, 2) := by decide +kernel
theorem d9_3 : decode prog_38_method_3_code 3 = .ok (.invokestatic 32, 3) := by decide +kernel
theorem d9_6 : decode prog_38_method_3_code 6 = .ok (.pop, 1) := by decide +kernel
theorem d9_7 : decode prog_38_method_3_code 7 = .ok (.aload_n 0, 1) := by decide +kernel
theorem d9_8 : decode prog_38_method_3_code 8 = .ok (.invokevirtual 74, 3) := by decide +kernel
theorem d9_11 : decode prog_38_method_3_code 11 = .ok (.ifCond .eq 13, 3) := by decide +kernel
theorem d9_24 : decode prog_38_method_3_code 24 = .ok (.aload_n 0, 1) := by decide +kernel
theorem d9_25 : decode prog_38_method_3_code 25 = .ok (.areturn, 1) := by decide +kernel
theorem pn_9 : plainName "com/example/limpet/limpet/TopicPartition" = true := by first | (simp [plainName, overriddenIn]; done) | decide +kernel
theorem ef_rrt_1 (m : MethodId) (x0 : Addr) : entryFrame m #[(.ref x0)] 1 = mkF m 0 #[.val (.ref x0)] [] := by first | (simp [entryFrame, mkF, argsToLocals, Value.category]; done) | rfl
def Qrrt_1 (Z : State) (a1 : Addr) (ax : Addr) (ka : ClassId) (vs : List Value) (h0 : Heap) (n0 : Nat) (v : Option Value) (h : Heap) (L : List Loc) : Prop := (v = some (.ref a1)) ∧ (Fr n0 L) ∧ (Keep h0 h [])
set_option maxRecDepth 65536 in
set_option maxHeartbeats 40000000 in
theorem rrt_1 (l : Launch) (Z : State) (a0 : Array Value) (hw : ∀ d ∈ tables_1, d.before a0 Z = true) (ws : List Jvm.Cond) (a1 : Addr) (ax : Addr) (ka : ClassId) (vs : List Value) (h0 : Heap) (n0 : Nat) (Z0 : n0 ≤ h0.size) (pr1 : Exa Z h0 a1 "java/lang/String") (pr2 : Fld Z h0 a1 "java/lang/String" "value" "[B" (.ref ax)) (pr3 : Arv Z h0 ax ka .byte (1 : Int32) vs (.int (0 : Int32))) :
    MetFree l oM12 (head1 (Jvm.Cond.code oM12 prog_38_method_3_code 1 (some (.object oS0)) :: ws) ({ frames := 1, cells := 2, slots := 24, locals := 13 } : Room)) (fun a U => a = #[(.ref a1)] ∧ Z.Warmed39 U.vm ∧ U.heap = h0) (fun _ _ _ _ _ => True) (fun _ U o U' => ∃ v L, o = .returned v ∧ Qrrt_1 Z a1 ax ka vs h0 n0 v U'.heap L ∧ ReturnedEndW U o U' L ({ frames := 1, cells := 2, slots := 24, locals := 13 } : Room).cells ({ frames := 1, cells := 2, slots := 24, locals := 13 } : Room).slots) := by
  refine MetFree.of_bodySF (plainFor_of_name pn_9) hisR ?_
  intro p e s m args below meth c s₁ Bd hml0 hP0 hK
  obtain ⟨rfl, hZ, hh⟩ := hP0
  have hx := Bd.exec
  have hby := Bd.bytes
  have hml : c.maxLocals = 1 := hml0
  have hown : s.vm.findClass oS1 = some m.cls := findClass_of_methodNamed Bd.named
  have hnm := (name_of_methodNamed Bd.named Bd.method).1
  have X0 : Stand p l e ({ frames := 1, cells := 2, slots := 24, locals := 13 } : Room) (s.setVm s.vm) m #[(.ref a1)] below meth c s₁ [] 0 0 := Stand.of_body Bd
  have hS0 : s.Since s.vm h0.size := (State.WarmedH.refl s).since _
  have hZ : Z.Warmed39 (s.setVm s.vm).vm := hZ
  have hown : (s.setVm s.vm).vm.findClass oS1 = some m.cls := hown
  have e0 : s₁.heap = h0 := by rw [← hh, Bd.state]; rfl
  have N0 := Fr.nil n0
  suffices own_H : ∀ (P : State → Outcome → Prop), (∀ U o, U.status = .running → Ended U below o → (∃ v L, o = .returned v ∧ Qrrt_1 Z a1 ax ka vs h0 n0 v U.heap L ∧ ReturnedEndW s o U L ({ frames := 1, cells := 2, slots := 24, locals := 13 } : Room).cells ({ frames := 1, cells := 2, slots := 24, locals := 13 } : Room).slots) → P U o) → own_Go p.tables e below P (s₁.setTop (mkF m 0 #[oR a1] [])) from own_go (fun _ k => castTop (ef_rrt_1 m a1) k) (own_H _ (fun U o h1 h2 h3 => ⟨h1, h2, h3⟩))
  intro P hP
  have lt_a1 : @LT.lt Nat _ a1 h0.size := pr1.lt
  have lt_ax : @LT.lt Nat _ ax h0.size := pr3.lt
  refine own_go (st' := s₁.setTop (mkF m 1 #[oR a1] [(.ref a1)])) (fun _ k => XS.aloadN X0.here hx rfl (hb hby d9_0) rfl rfl k) ?_
  obtain ⟨b1, T1, h1, k1, X1, e1, E1, hS1, hk1, hZ, hown, st1⟩ := ldcS X0 hx hZ hown (own_hw hw 45) (own_wS hw) e0 hS0 (by omega) (g := (mkF m 1 #[oR a1] [(.ref a1)])) rfl (hb hby d9_1) (n := 20) (by decide +kernel) (by decide) (by decide) (by decide)
  have sz1 : h0.size ≤ h1.size := E1.1
  refine own_go (st' := T1.setTop (mkF m 3 #[oR a1] [(.ref b1), (.ref a1)])) (st1) ?_
  obtain ⟨_, _, ⟨T2, LC2, kC2, nC2⟩, -, X2, ⟨Lc2, hQ2, lq2, yq2, zq2⟩, st2⟩ := Jvm.LawKit.callS X1 hx (y := oM14) hown (mvT hZ (own_hw hw 48)) (mvT hZ (own_hw hw 49)) (mvT hZ (own_hw hw 50)) (mvT hZ (own_hw hw 51)) (by decide) (backOf (W := 0) (rm10 l Z a0 hw [] a1 b1 h1 n0 (by omega) ) hZ (own_hw hw 51) (own_hw hw 50) (by decide) (by decide)) (g := (mkF m 3 #[oR a1] [(.ref b1), (.ref a1)])) rfl (by rw [hml]; rfl) (argsL := [(.ref a1), (.ref b1)]) (rest := []) (lenOf pd_8 rfl) rfl (by show 2 * 0 + _ ≤ _; exact Nat.le_of_eq rfl) (hb hby d9_3) (fun _ _ => ⟨rfl, e1, (by decide : 2 + 0 ≤ _), (by decide : 24 + 0 ≤ _)⟩)
  dsimp only [Pt.U, Pt.locs, Pt.cells, Pt.slots] at X2 lq2 yq2 zq2 st2 hQ2
  subst lq2 yq2 zq2
  obtain ⟨rfl, Nq2, eq2⟩ := hQ2
  have N2 := Fr.app N0 Nq2
  refine own_go (st' := T2.setTop (mkF m 6 #[oR a1] [(.ref a1)])) (fun t k => st2 t k) ?_
  refine own_go (st' := T2.setTop (mkF m 7 #[oR a1] [])) (fun _ k => XS.pop X2.here hx rfl (hb hby d9_6) rfl rfl k) ?_
  refine own_go (st' := T2.setTop (mkF m 8 #[oR a1] [(.ref a1)])) (fun _ k => XS.aloadN X2.here hx rfl (hb hby d9_7) rfl rfl k) ?_
  have c4 : Fld Z h1 a1 oS0 "value" "[B" (.ref ax) := (pr2.ext E1)
  have c5 : Arv Z h1 ax ka .byte (1 : Int32) vs (.int (0 : Int32)) := (pr3.ext E1)
  have c6 : Exa Z h1 a1 oS0 := (pr1.ext E1)
  obtain ⟨cq3, kq3, q3a, q3b, q3c⟩ := isOf hZ eq2 c6
  obtain ⟨_, _, ⟨T3, LC3, kC3, nC3⟩, -, X3, ⟨Lc3, hQ3, lq3, yq3, zq3⟩, st3⟩ := X2.virtualBack hx (y := oM5) (z := oM5) hown (mvT hZ (own_hw hw 52)) (mvT hZ (own_hw hw 53)) (notFace_of_selects (args := #[]) (mvT hZ (own_hw hw 55))) (mvT hZ (own_hw hw 55)) (mvT hZ (own_hw hw 54)) (by decide) (backOf (W := 0) (rie_1 l Z a0 hw [] a1 ax ka vs h1 n0 (by omega) c4 c5) hZ (own_hw hw 56) (own_hw hw 7) (by decide) (by decide)) q3a q3c (g := (mkF m 8 #[oR a1] [(.ref a1)])) rfl (by rw [hml]; rfl) (Steps.refl _) (argsL := []) (rest := []) (lenOf pd_9 rfl) rfl (by show 2 * 0 + _ ≤ _; exact Nat.le_of_eq rfl) (hb hby d9_8) (fun _ _ => ⟨rfl, eq2, (by decide : 2 + 0 ≤ _), (by decide : 24 + 0 ≤ _)⟩)
  dsimp only [Pt.U, Pt.locs, Pt.cells, Pt.slots] at X3 lq3 yq3 zq3 st3 hQ3
  subst lq3 yq3 zq3
  obtain ⟨rfl, Nq3, eq3⟩ := hQ3
  have N3 := Fr.app N2 Nq3
  refine own_go (st' := T3.setTop (mkF m 11 #[oR a1] [(.int (0 : Int32))])) (fun _ k => st3.trans k) ?_
  have hc7 : (0 : Int32) = (0 : Int32) := by decide
  refine own_go (st' := T3.setTop (mkF m 24 #[oR a1] [])) (fun _ k => XS.ifYes X3.here hx rfl (pc0 := 11) (pc' := 24) rfl (hb hby d9_11) rfl ((if0 _ _).trans (teq hc7).1) (by decide) (by decide) k) ?_
  refine own_go (st' := T3.setTop (mkF m 25 #[oR a1] [(.ref a1)])) (fun _ k => XS.aloadN X3.here hx rfl (hb hby d9_24) rfl rfl k) ?_
  obtain ⟨fs, hr, hrun, hended, hR1, hR2, hR3, hR4⟩ := X3.leaveW hS1 (by rw [eq3]; omega) (v := some (.ref a1)) (fun h => by rw [Bd.returns] at h; cases h)
  refine ⟨_, _, ?_, hP _ _ hrun hended ⟨_, _, rfl, ?_, hR1, hR2, hR3, hR4.mono (by decide) (by decide)⟩⟩
  · exact retOut X3 hx Bd.returns rfl (Or.inr (Or.inr (Or.inr (Or.inr ⟨rfl, rfl, rfl⟩)))) (hb hby d9_25) hr
  · show Qrrt_1 Z a1 ax ka vs h0 n0 _ T3.heap _
    rw [eq3]
    exact ⟨rfl, N3, ((Keep.refl h0 []).ext E1)⟩
theorem pd_10 : parseMethodDescriptor "(Ljava/lang/String;)Ljava/lang/String;" = some ⟨[(.object "java/lang/String")], some (.object "java/lang/String")⟩ := by decide +kernel
theorem d8_0 : decode prog_38_method_1_code 0 = .ok (.aload_n 0, 1) := by decide +kernel
theorem d8_1 : decode prog_38_method_1_code 1 = .ok (.invokespecial 1, 3) := by decide +kernel
theorem d8_4 : decode prog_38_method_1_code 4 = .ok (.aload_n 1, 1) := by decide +kernel
theorem d8_5 : decode prog_38_method_1_code 5 = .ok (.invokestatic 7, 3) := by decide +kernel
theorem d8_8 : decode prog_38_method_1_code 8 = .ok (.pop, 1) := by decide +kernel
theorem d8_9 : decode prog_38_method_1_code 9 = .ok (.iload_n 2, 1) := by decide +kernel
theorem d8_10 : decode prog_38_method_1_code 10 = .ok (.ifCond .ge 18, 3) := by decide +kernel
theorem d8_28 : decode prog_38_method_1_code 28 = .ok (.aload_n 0, 1) := by decide +kernel
theorem d8_29 : decode prog_38_method_1_code 29 = .ok (.aload_n 1, 1) := by decide +kernel
theorem d8_30 : decode prog_38_method_1_code 30 = .ok (.putfield 22, 3) := by decide +kernel
theorem d8_33 : decode prog_38_method_1_code 33 = .ok (.aload_n 0, 1) := by decide +kernel
theorem d8_34 : decode prog_38_method_1_code 34 = .ok (.iload_n 2, 1) := by decide +kernel
theorem d8_35 : decode prog_38_method_1_code 35 = .ok (.putfield 26, 3) := by decide +kernel
theorem d8_38 : decode prog_38_method_1_code 38 = .ok (.return_, 1) := by decide +kernel
theorem pn_8 : plainName "com/example/limpet/limpet/TopicPartition" = true := by first | (simp [plainName, overriddenIn]; done) | decide +kernel
theorem ef_rti_1 (m : MethodId) (x0 : Addr) (x1 : Addr) (x2 : Int32) : entryFrame m #[(.ref x0), (.ref x1), (.int x2)] 3 = mkF m 0 #[.val (.ref x0), .val (.ref x1), .val (.int x2)] [] := by first | (simp [entryFrame, mkF, argsToLocals, Value.category]; done) | rfl
def Qrti_1 (Z : State) (ap : Addr) (a1 : Addr) (ax : Addr) (ka : ClassId) (vs : List Value) (pn : Int32) (pm : Int32) (h0 : Heap) (n0 : Nat) (v : Option Value) (h : Heap) (L : List Loc) : Prop := (v = none) ∧ (Fr n0 L) ∧ (Keep h0 h [ap]) ∧ (Exa Z h ap "com/example/limpet/limpet/TopicPartition") ∧ (Fld Z h ap "com/example/limpet/limpet/TopicPartition" "topic" "Ljava/lang/String;" (.ref a1)) ∧ (Fld Z h ap "com/example/limpet/limpet/TopicPartition" "number" "I" (.int pn))
set_option maxRecDepth 65536 in
set_option maxHeartbeats 40000000 in
theorem rti_1 (l : Launch) (Z : State) (a0 : Array Value) (hw : ∀ d ∈ tables_1, d.before a0 Z = true) (ws : List Jvm.Cond) (ap : Addr) (a1 : Addr) (ax : Addr) (ka : ClassId) (vs : List Value) (pn : Int32) (pm : Int32) (h0 : Heap) (n0 : Nat) (Z0 : n0 ≤ h0.size) (pr1 : Exa Z h0 ap "com/example/limpet/limpet/TopicPartition") (pr2 : Fld Z h0 ap "com/example/limpet/limpet/TopicPartition" "topic" "Ljava/lang/String;" .null) (pr3 : Fld Z h0 ap "com/example/limpet/limpet/TopicPartition" "number" "I" (.int pm)) (pr4 : Exa Z h0 a1 "java/lang/String") (pr5 : Fld Z h0 a1 "java/lang/String" "value" "[B" (.ref ax)) (pr6 : Arv Z h0 ax ka .byte (1 : Int32) vs (.int (0 : Int32))) (pr7 : n0 ≤ ap) (pr8 : @Ne Nat ap a1) (pr9 : @Ne Nat ap ax) (hpn : ¬ pn < (0 : Int32)) :
    MetFree l oM4 (head1 (Jvm.Cond.code oM4 prog_38_method_1_code 3 none :: ws) ({ frames := 2, cells := 2, slots := 24, locals := 25 } : Room)) (fun a U => a = #[(.ref ap), (.ref a1), (.int pn)] ∧ Z.Warmed39 U.vm ∧ U.heap = h0) (fun _ _ _ _ _ => True) (fun _ U o U' => ∃ v L, o = .returned v ∧ Qrti_1 Z ap a1 ax ka vs pn pm h0 n0 v U'.heap L ∧ ReturnedEndW U o U' L ({ frames := 2, cells := 2, slots := 24, locals := 25 } : Room).cells ({ frames := 2, cells := 2, slots := 24, locals := 25 } : Room).slots) := by
  refine MetFree.of_bodySF (plainFor_of_name pn_8) hisR ?_
  intro p e s m args below meth c s₁ Bd hml0 hP0 hK
  obtain ⟨rfl, hZ, hh⟩ := hP0
  have hx := Bd.exec
  have hby := Bd.bytes
  have hml : c.maxLocals = 3 := hml0
  have hown : s.vm.findClass oS1 = some m.cls := findClass_of_methodNamed Bd.named
  have hnm := (name_of_methodNamed Bd.named Bd.method).1
  have X0 : Stand p l e ({ frames := 2, cells := 2, slots := 24, locals := 25 } : Room) (s.setVm s.vm) m #[(.ref ap), (.ref a1), (.int pn)] below meth c s₁ [] 0 0 := Stand.of_body Bd
  have hS0 : s.Since s.vm h0.size := (State.WarmedH.refl s).since _
  have hZ : Z.Warmed39 (s.setVm s.vm).vm := hZ
  have hown : (s.setVm s.vm).vm.findClass oS1 = some m.cls := hown
  have e0 : s₁.heap = h0 := by rw [← hh, Bd.state]; rfl
  have N0 := Fr.nil n0
  suffices own_H : ∀ (P : State → Outcome → Prop), (∀ U o, U.status = .running → Ended U below o → (∃ v L, o = .returned v ∧ Qrti_1 Z ap a1 ax ka vs pn pm h0 n0 v U.heap L ∧ ReturnedEndW s o U L ({ frames := 2, cells := 2, slots := 24, locals := 25 } : Room).cells ({ frames := 2, cells := 2, slots := 24, locals := 25 } : Room).slots) → P U o) → own_Go p.tables e below P (s₁.setTop (mkF m 0 #[oR ap, oR a1, oi pn] [])) from own_go (fun _ k => castTop (ef_rti_1 m ap a1 pn) k) (own_H _ (fun U o h1 h2 h3 => ⟨h1, h2, h3⟩))
  intro P hP
  have lt_ap : @LT.lt Nat _ ap h0.size := pr1.lt
  have lt_a1 : @LT.lt Nat _ a1 h0.size := pr4.lt
  have lt_ax : @LT.lt Nat _ ax h0.size := pr6.lt
  refine own_go (st' := s₁.setTop (mkF m 1 #[oR ap, oR a1, oi pn] [(.ref ap)])) (fun _ k => XS.aloadN X0.here hx rfl (hb hby d8_0) rfl rfl k) ?_
  obtain ⟨T1, X1, e1, st1⟩ := initO X0 hx hZ hown (own_hw hw 41) (own_hw hw 17) (own_hw hw 18) e0 (g := (mkF m 1 #[oR ap, oR a1, oi pn] [(.ref ap)])) rfl (by rw [hml]; rfl) rfl (hb hby d8_1) (by decide) (W := 0) (by show 2 * 0 + _ ≤ _; exact Nat.le_of_eq rfl) (by decide)
  refine own_go (st' := T1.setTop (mkF m 4 #[oR ap, oR a1, oi pn] [])) (st1) ?_
  refine own_go (st' := T1.setTop (mkF m 5 #[oR ap, oR a1, oi pn] [(.ref a1)])) (fun _ k => XS.aloadN X1.here hx rfl (hb hby d8_4) rfl rfl k) ?_
  obtain ⟨_, _, ⟨T2, LC2, kC2, nC2⟩, -, X2, hS2, hg2, ⟨Lc2, hQ2, lq2, yq2, zq2⟩, st2⟩ := Jvm.RoadKit.callSS X1 hx (y := oM12) hown (mvT hZ (own_hw hw 42)) (mvT hZ (own_hw hw 43)) (mvT hZ (own_hw hw 37)) (mvT hZ (own_hw hw 44)) (by decide) (backOfS (W := 0) (rrt_1 l Z a0 hw [] a1 ax ka vs h0 n0 (by omega) pr4 pr5 pr6) hZ (own_hw hw 44) (own_hw hw 37) (by decide) (by decide)) (g := (mkF m 5 #[oR ap, oR a1, oi pn] [(.ref a1)])) rfl (by rw [hml]; rfl) (argsL := [(.ref a1)]) (rest := []) (lenOf pd_10 rfl) rfl (by show 2 * 0 + _ ≤ _; exact Nat.le_of_eq rfl) (hb hby d8_5) (fun _ _ => ⟨rfl, e1, (by decide : 0 + 2 ≤ _), (by decide : 0 + 24 ≤ _)⟩)
  dsimp only [Pt.U, Pt.locs, Pt.cells, Pt.slots] at X2 lq2 yq2 zq2 st2 hQ2
  subst lq2 yq2 zq2
  dsimp only [Pt.U, Pt.locs, Pt.cells, Pt.slots] at hS2 hg2
  obtain ⟨X2, hS2, hZ, hown⟩ := rebS hS0 (by rw [e1]; omega) X2 hS2 hg2 hZ hown
  obtain ⟨h2, e2⟩ : ∃ z, T2.heap = z := ⟨_, rfl⟩
  rw [e2] at hQ2 hS2
  obtain ⟨rfl, Nq2, K2⟩ := hQ2
  have sz2 : h0.size ≤ h2.size := K2.1
  have N2 := Fr.app N0 Nq2
  refine own_go (st' := T2.setTop (mkF m 8 #[oR ap, oR a1, oi pn] [(.ref a1)])) (fun _ k => st2.trans k) ?_
  refine own_go (st' := T2.setTop (mkF m 9 #[oR ap, oR a1, oi pn] [])) (fun _ k => XS.pop X2.here hx rfl (hb hby d8_8) rfl rfl k) ?_
  refine own_go (st' := T2.setTop (mkF m 10 #[oR ap, oR a1, oi pn] [(.int pn)])) (fun _ k => XS.iloadN X2.here hx rfl (hb hby d8_9) rfl k) ?_
  have hc3 : ¬ (pn < (0 : Int32)) := hpn
  refine own_go (st' := T2.setTop (mkF m 28 #[oR ap, oR a1, oi pn] [])) (fun _ k => XS.ifYes X2.here hx rfl (pc0 := 10) (pc' := 28) rfl (hb hby d8_10) rfl ((if0 _ _).trans (flt hc3).2.1) (by decide) (by decide) k) ?_
  refine own_go (st' := T2.setTop (mkF m 29 #[oR ap, oR a1, oi pn] [(.ref ap)])) (fun _ k => XS.aloadN X2.here hx rfl (hb hby d8_28) rfl rfl k) ?_
  refine own_go (st' := T2.setTop (mkF m 30 #[oR ap, oR a1, oi pn] [(.ref a1), (.ref ap)])) (fun _ k => XS.aloadN X2.here hx rfl (hb hby d8_29) rfl rfl k) ?_
  have c4 : Fld Z h2 ap oS1 "topic" oS2 .null := (pr2.keep K2 nin0)
  have c5 : Exa Z h2 ap oS1 := (pr1.keep K2)
  obtain ⟨T6, h6, X6, e6, W6, st6⟩ := putF X2 hx hZ hown (host := "") (Or.inl (own_hw hw 57)) Via.refl e2 c4 c5 (Or.inr ⟨(own_hw hw 58), rfl, hnm⟩) (own_hw hw 36) (ty := (.object oS0)) (by decide) rfl rfl (g := (mkF m 30 #[oR ap, oR a1, oi pn] [(.ref a1), (.ref ap)])) rfl rfl (hb hby d8_30)
  have sz6 : h6.size = h2.size := W6.size
  have N6 := Fr.snoc X6 N2 (by omega)
  have f6 : Fld Z h6 ap oS1 "topic" oS2 (.ref a1) := c4.same W6
  refine own_go (st' := T6.setTop (mkF m 33 #[oR ap, oR a1, oi pn] [])) (st6) ?_
  refine own_go (st' := T6.setTop (mkF m 34 #[oR ap, oR a1, oi pn] [(.ref ap)])) (fun _ k => XS.aloadN X6.here hx rfl (hb hby d8_33) rfl rfl k) ?_
  refine own_go (st' := T6.setTop (mkF m 35 #[oR ap, oR a1, oi pn] [(.int pn), (.ref ap)])) (fun _ k => XS.iloadN X6.here hx rfl (hb hby d8_34) rfl k) ?_
  have c7 : Fld Z h6 ap oS1 "number" "I" (.int pm) := ((pr3.keep K2 nin0).other W6 (Or.inr (slot_ne (Or.inr (own_hw hw 60)) (Or.inr (own_hw hw 58)) (by decide) (t := .int) (t' := (.object oS0)) (by decide) (by decide))))
  have c8 : Exa Z h6 ap oS1 := (c5.wr W6)
  obtain ⟨T9, h9, X9, e9, W9, st9⟩ := putF X6 hx hZ hown (host := "") (Or.inl (own_hw hw 59)) Via.refl e6 c7 c8 (Or.inr ⟨(own_hw hw 60), rfl, hnm⟩) (own_hw hw 36) (ty := .int) (by decide) rfl rfl (g := (mkF m 35 #[oR ap, oR a1, oi pn] [(.int pn), (.ref ap)])) rfl rfl (hb hby d8_35)
  have sz9 : h9.size = h6.size := W9.size
  have N9 := Fr.snoc X9 N6 (by omega)
  have f9 : Fld Z h9 ap oS1 "number" "I" (.int pn) := c7.same W9
  refine own_go (st' := T9.setTop (mkF m 38 #[oR ap, oR a1, oi pn] [])) (st9) ?_
  obtain ⟨fs, hr, hrun, hended, hR1, hR2, hR3, hR4⟩ := X9.leaveW hS2 (by rw [e9]; omega) (v := none) (fun _ => rfl)
  refine ⟨_, _, ?_, hP _ _ hrun hended ⟨_, _, rfl, ?_, hR1, hR2, hR3, hR4.mono (by decide) (by decide)⟩⟩
  · exact X9.returnOut hx Bd.returns (hb hby d8_38) hr
  · show Qrti_1 Z ap a1 ax ka vs pn pm h0 n0 _ T9.heap _
    have c11 : Exa Z h9 ap oS1 := (c8.wr W9)
    have c12 : Fld Z h9 ap oS1 "topic" oS2 (.ref a1) := (f6.other W9 (Or.inr (slot_ne (Or.inr (own_hw hw 58)) (Or.inr (own_hw hw 60)) (by decide) (t := (.object oS0)) (t' := .int) (by decide) (by decide))))
    rw [e9]
    exact ⟨rfl, N9, ((((Keep.refl h0 [ap]).trans K2 all0).wr W6 (Or.inl (List.mem_of_getElem? (i := 0) rfl))).wr W9 (Or.inl (List.mem_of_getElem? (i := 0) rfl))), c11, c12, f9⟩
theorem ef_rrt_2 (m : MethodId) (x0 : Addr) : entryFrame m #[(.ref x0)] 1 = mkF m 0 #[.val (.ref x0)] [] := by first | (simp [entryFrame, mkF, argsToLocals, Value.category]; done) | rfl
def Qrrt_2 (Z : State) (a1 : Addr) (ax : Addr) (ka : ClassId) (vs : List Value) (h0 : Heap) (n0 : Nat) (v : Option Value) (h : Heap) (L : List Loc) : Prop := (v = some (.ref a1)) ∧ (Fr n0 L) ∧ (Keep h0 h [])
set_option maxRecDepth 65536 in
set_option maxHeartbeats 40000000 in
theorem rrt_2 (l : Launch) (Z : State) (a0 : Array Value) (hw : ∀ d ∈ tables_1, d.before a0 Z = true) (ws : List Jvm.Cond) (a1 : Addr) (ax : Addr) (ka : ClassId) (vs : List Value) (h0 : Heap) (n0 : Nat) (Z0 : n0 ≤ h0.size) (pr1 : Exa Z h0 a1 "java/lang/String") (pr2 : Fld Z h0 a1 "java/lang/String" "value" "[B" (.ref ax)) (pr3 : Arv Z h0 ax ka .byte (2 : Int32) vs (.int (0 : Int32))) :
    MetFree l oM12 (head1 (Jvm.Cond.code oM12 prog_38_method_3_code 1 (some (.object oS0)) :: ws) ({ frames := 1, cells := 2, slots := 24, locals := 13 } : Room)) (fun a U => a = #[(.ref a1)] ∧ Z.Warmed39 U.vm ∧ U.heap = h0) (fun _ _ _ _ _ => True) (fun _ U o U' => ∃ v L, o = .returned v ∧ Qrrt_2 Z a1 ax ka vs h0 n0 v U'.heap L ∧ ReturnedEndW U o U' L ({ frames := 1, cells := 2, slots := 24, locals := 13 } : Room).cells ({ frames := 1, cells := 2, slots := 24, locals := 13 } : Room).slots) := by
  refine MetFree.of_bodySF (plainFor_of_name pn_9) hisR ?_
  intro p e s m args below meth c s₁ Bd hml0 hP0 hK
  obtain ⟨rfl, hZ, hh⟩ := hP0
  have hx := Bd.exec
  have hby := Bd.bytes
  have hml : c.maxLocals = 1 := hml0
  have hown : s.vm.findClass oS1 = some m.cls := findClass_of_methodNamed Bd.named
  have hnm := (name_of_methodNamed Bd.named Bd.method).1
  have X0 : Stand p l e ({ frames := 1, cells := 2, slots := 24, locals := 13 } : Room) (s.setVm s.vm) m #[(.ref a1)] below meth c s₁ [] 0 0 := Stand.of_body Bd
  have hS0 : s.Since s.vm h0.size := (State.WarmedH.refl s).since _
  have hZ : Z.Warmed39 (s.setVm s.vm).vm := hZ
  have hown : (s.setVm s.vm).vm.findClass oS1 = some m.cls := hown
  have e0 : s₁.heap = h0 := by rw [← hh, Bd.state]; rfl
  have N0 := Fr.nil n0
  suffices own_H : ∀ (P : State → Outcome → Prop), (∀ U o, U.status = .running → Ended U below o → (∃ v L, o = .returned v ∧ Qrrt_2 Z a1 ax ka vs h0 n0 v U.heap L ∧ ReturnedEndW s o U L ({ frames := 1, cells := 2, slots := 24, locals := 13 } : Room).cells ({ frames := 1, cells := 2, slots := 24, locals := 13 } : Room).slots) → P U o) → own_Go p.tables e below P (s₁.setTop (mkF m 0 #[oR a1] [])) from own_go (fun _ k => castTop (ef_rrt_2 m a1) k) (own_H _ (fun U o h1 h2 h3 => ⟨h1, h2, h3⟩))
  intro P hP
  have lt_a1 : @LT.lt Nat _ a1 h0.size := pr1.lt
  have lt_ax : @LT.lt Nat _ ax h0.size := pr3.lt
  refine own_go (st' := s₁.setTop (mkF m 1 #[oR a1] [(.ref a1)])) (fun _ k => XS.aloadN X0.here hx rfl (hb hby d9_0) rfl rfl k) ?_
  obtain ⟨b1, T1, h1, k1, X1, e1, E1, hS1, hk1, hZ, hown, st1⟩ := ldcS X0 hx hZ hown (own_hw hw 45) (own_wS hw) e0 hS0 (by omega) (g := (mkF m 1 #[oR a1] [(.ref a1)])) rfl (hb hby d9_1) (n := 20) (by decide +kernel) (by decide) (by decide) (by decide)
  have sz1 : h0.size ≤ h1.size := E1.1
  refine own_go (st' := T1.setTop (mkF m 3 #[oR a1] [(.ref b1), (.ref a1)])) (st1) ?_
  obtain ⟨_, _, ⟨T2, LC2, kC2, nC2⟩, -, X2, ⟨Lc2, hQ2, lq2, yq2, zq2⟩, st2⟩ := Jvm.LawKit.callS X1 hx (y := oM14) hown (mvT hZ (own_hw hw 48)) (mvT hZ (own_hw hw 49)) (mvT hZ (own_hw hw 50)) (mvT hZ (own_hw hw 51)) (by decide) (backOf (W := 0) (rm10 l Z a0 hw [] a1 b1 h1 n0 (by omega) ) hZ (own_hw hw 51) (own_hw hw 50) (by decide) (by decide)) (g := (mkF m 3 #[oR a1] [(.ref b1), (.ref a1)])) rfl (by rw [hml]; rfl) (argsL := [(.ref a1), (.ref b1)]) (rest := []) (lenOf pd_8 rfl) rfl (by show 2 * 0 + _ ≤ _; exact Nat.le_of_eq rfl) (hb hby d9_3) (fun _ _ => ⟨rfl, e1, (by decide : 2 + 0 ≤ _), (by decide : 24 + 0 ≤ _)⟩)
  dsimp only [Pt.U, Pt.locs, Pt.cells, Pt.slots] at X2 lq2 yq2 zq2 st2 hQ2
  subst lq2 yq2 zq2
  obtain ⟨rfl, Nq2, eq2⟩ := hQ2
  have N2 := Fr.app N0 Nq2
  refine own_go (st' := T2.setTop (mkF m 6 #[oR a1] [(.ref a1)])) (fun t k => st2 t k) ?_
  refine own_go (st' := T2.setTop (mkF m 7 #[oR a1] [])) (fun _ k => XS.pop X2.here hx rfl (hb hby d9_6) rfl rfl k) ?_
  refine own_go (st' := T2.setTop (mkF m 8 #[oR a1] [(.ref a1)])) (fun _ k => XS.aloadN X2.here hx rfl (hb hby d9_7) rfl rfl k) ?_
  have c4 : Fld Z h1 a1 oS0 "value" "[B" (.ref ax) := (pr2.ext E1)
  have c5 : Arv Z h1 ax ka .byte (2 : Int32) vs (.int (0 : Int32)) := (pr3.ext E1)
  have c6 : Exa Z h1 a1 oS0 := (pr1.ext E1)
  obtain ⟨cq3, kq3, q3a, q3b, q3c⟩ := isOf hZ eq2 c6
  obtain ⟨_, _, ⟨T3, LC3, kC3, nC3⟩, -, X3, ⟨Lc3, hQ3, lq3, yq3, zq3⟩, st3⟩ := X2.virtualBack hx (y := oM5) (z := oM5) hown (mvT hZ (own_hw hw 52)) (mvT hZ (own_hw hw 53)) (notFace_of_selects (args := #[]) (mvT hZ (own_hw hw 55))) (mvT hZ (own_hw hw 55)) (mvT hZ (own_hw hw 54)) (by decide) (backOf (W := 0) (rie_2 l Z a0 hw [] a1 ax ka vs h1 n0 (by omega) c4 c5) hZ (own_hw hw 56) (own_hw hw 7) (by decide) (by decide)) q3a q3c (g := (mkF m 8 #[oR a1] [(.ref a1)])) rfl (by rw [hml]; rfl) (Steps.refl _) (argsL := []) (rest := []) (lenOf pd_9 rfl) rfl (by show 2 * 0 + _ ≤ _; exact Nat.le_of_eq rfl) (hb hby d9_8) (fun _ _ => ⟨rfl, eq2, (by decide : 2 + 0 ≤ _), (by decide : 24 + 0 ≤ _)⟩)
  dsimp only [Pt.U, Pt.locs, Pt.cells, Pt.slots] at X3 lq3 yq3 zq3 st3 hQ3
  subst lq3 yq3 zq3
  obtain ⟨rfl, Nq3, eq3⟩ := hQ3
  have N3 := Fr.app N2 Nq3
  refine own_go (st' := T3.setTop (mkF m 11 #[oR a1] [(.int (0 : Int32))])) (fun _ k => st3.trans k) ?_
  have hc7 : (0 : Int32) = (0 : Int32) := by decide
  refine own_go (st' := T3.setTop (mkF m 24 #[oR a1] [])) (fun _ k => XS.ifYes X3.here hx rfl (pc0 := 11) (pc' := 24) rfl (hb hby d9_11) rfl ((if0 _ _).trans (teq hc7).1) (by decide) (by decide) k) ?_
  refine own_go (st' := T3.setTop (mkF m 25 #[oR a1] [(.ref a1)])) (fun _ k => XS.aloadN X3.here hx rfl (hb hby d9_24) rfl rfl k) ?_
  obtain ⟨fs, hr, hrun, hended, hR1, hR2, hR3, hR4⟩ := X3.leaveW hS1 (by rw [eq3]; omega) (v := some (.ref a1)) (fun h => by rw [Bd.returns] at h; cases h)
  refine ⟨_, _, ?_, hP _ _ hrun hended ⟨_, _, rfl, ?_, hR1, hR2, hR3, hR4.mono (by decide) (by decide)⟩⟩
  · exact retOut X3 hx Bd.returns rfl (Or.inr (Or.inr (Or.inr (Or.inr ⟨rfl, rfl, rfl⟩)))) (hb hby d9_25) hr
  · show Qrrt_2 Z a1 ax ka vs h0 n0 _ T3.heap _
    rw [eq3]
    exact ⟨rfl, N3, ((Keep.refl h0 []).ext E1)⟩
theorem ef_rti_2 (m : MethodId) (x0 : Addr) (x1 : Addr) (x2 : Int32) : entryFrame m #[(.ref x0), (.ref x1), (.int x2)] 3 = mkF m 0 #[.val (.ref x0), .val (.ref x1), .val (.int x2)] [] := by first | (simp [entryFrame, mkF, argsToLocals, Value.category]; done) | rfl
def Qrti_2 (Z : State) (ap : Addr) (a1 : Addr) (ax : Addr) (ka : ClassId) (vs : List Value) (pn : Int32) (pm : Int32) (h0 : Heap) (n0 : Nat) (v : Option Value) (h : Heap) (L : List Loc) : Prop := (v = none) ∧ (Fr n0 L) ∧ (Keep h0 h [ap]) ∧ (Exa Z h ap "com/example/limpet/limpet/TopicPartition") ∧ (Fld Z h ap "com/example/limpet/limpet/TopicPartition" "topic" "Ljava/lang/String;" (.ref a1)) ∧ (Fld Z h ap "com/example/limpet/limpet/TopicPartition" "number" "I" (.int pn))
set_option maxRecDepth 65536 in
set_option maxHeartbeats 40000000 in
theorem rti_2 (l : Launch) (Z : State) (a0 : Array Value) (hw : ∀ d ∈ tables_1, d.before a0 Z = true) (ws : List Jvm.Cond) (ap : Addr) (a1 : Addr) (ax : Addr) (ka : ClassId) (vs : List Value) (pn : Int32) (pm : Int32) (h0 : Heap) (n0 : Nat) (Z0 : n0 ≤ h0.size) (pr1 : Exa Z h0 ap "com/example/limpet/limpet/TopicPartition") (pr2 : Fld Z h0 ap "com/example/limpet/limpet/TopicPartition" "topic" "Ljava/lang/String;" .null) (pr3 : Fld Z h0 ap "com/example/limpet/limpet/TopicPartition" "number" "I" (.int pm)) (pr4 : Exa Z h0 a1 "java/lang/String") (pr5 : Fld Z h0 a1 "java/lang/String" "value" "[B" (.ref ax)) (pr6 : Arv Z h0 ax ka .byte (2 : Int32) vs (.int (0 : Int32))) (pr7 : n0 ≤ ap) (pr8 : @Ne Nat ap a1) (pr9 : @Ne Nat ap ax) (hpn : ¬ pn < (0 : Int32)) :
    MetFree l oM4 (head1 (Jvm.Cond.code oM4 prog_38_method_1_code 3 none :: ws) ({ frames := 2, cells := 2, slots := 24, locals := 25 } : Room)) (fun a U => a = #[(.ref ap), (.ref a1), (.int pn)] ∧ Z.Warmed39 U.vm ∧ U.heap = h0) (fun _ _ _ _ _ => True) (fun _ U o U' => ∃ v L, o = .returned v ∧ Qrti_2 Z ap a1 ax ka vs pn pm h0 n0 v U'.heap L ∧ ReturnedEndW U o U' L ({ frames := 2, cells := 2, slots := 24, locals := 25 } : Room).cells ({ frames := 2, cells := 2, slots := 24, locals := 25 } : Room).slots) := by
  refine MetFree.of_bodySF (plainFor_of_name pn_8) hisR ?_
  intro p e s m args below meth c s₁ Bd hml0 hP0 hK
  obtain ⟨rfl, hZ, hh⟩ := hP0
  have hx := Bd.exec
  have hby := Bd.bytes
  have hml : c.maxLocals = 3 := hml0
  have hown : s.vm.findClass oS1 = some m.cls := findClass_of_methodNamed Bd.named
  have hnm := (name_of_methodNamed Bd.named Bd.method).1
  have X0 : Stand p l e ({ frames := 2, cells := 2, slots := 24, locals := 25 } : Room) (s.setVm s.vm) m #[(.ref ap), (.ref a1), (.int pn)] below meth c s₁ [] 0 0 := Stand.of_body Bd
  have hS0 : s.Since s.vm h0.size := (State.WarmedH.refl s).since _
  have hZ : Z.Warmed39 (s.setVm s.vm).vm := hZ
  have hown : (s.setVm s.vm).vm.findClass oS1 = some m.cls := hown
  have e0 : s₁.heap = h0 := by rw [← hh, Bd.state]; rfl
  have N0 := Fr.nil n0
  suffices own_H : ∀ (P : State → Outcome → Prop), (∀ U o, U.status = .running → Ended U below o → (∃ v L, o = .returned v ∧ Qrti_2 Z ap a1 ax ka vs pn pm h0 n0 v U.heap L ∧ ReturnedEndW s o U L ({ frames := 2, cells := 2, slots := 24, locals := 25 } : Room).cells ({ frames := 2, cells := 2, slots := 24, locals := 25 } : Room).slots) → P U o) → own_Go p.tables e below P (s₁.setTop (mkF m 0 #[oR ap, oR a1, oi pn] [])) from own_go (fun _ k => castTop (ef_rti_2 m ap a1 pn) k) (own_H _ (fun U o h1 h2 h3 => ⟨h1, h2, h3⟩))
  intro P hP
  have lt_ap : @LT.lt Nat _ ap h0.size := pr1.lt
  have lt_a1 : @LT.lt Nat _ a1 h0.size := pr4.lt
  have lt_ax : @LT.lt Nat _ ax h0.size := pr6.lt
  refine own_go (st' := s₁.setTop (mkF m 1 #[oR ap, oR a1, oi pn] [(.ref ap)])) (fun _ k => XS.aloadN X0.here hx rfl (hb hby d8_0) rfl rfl k) ?_
  obtain ⟨T1, X1, e1, st1⟩ := initO X0 hx hZ hown (own_hw hw 41) (own_hw hw 17) (own_hw hw 18) e0 (g := (mkF m 1 #[oR ap, oR a1, oi pn] [(.ref ap)])) rfl (by rw [hml]; rfl) rfl (hb hby d8_1) (by decide) (W := 0) (by show 2 * 0 + _ ≤ _; exact Nat.le_of_eq rfl) (by decide)
  refine own_go (st' := T1.setTop (mkF m 4 #[oR ap, oR a1, oi pn] [])) (st1) ?_
  refine own_go (st' := T1.setTop (mkF m 5 #[oR ap, oR a1, oi pn] [(.ref a1)])) (fun _ k => XS.aloadN X1.here hx rfl (hb hby d8_4) rfl rfl k) ?_
  obtain ⟨_, _, ⟨T2, LC2, kC2, nC2⟩, -, X2, hS2, hg2, ⟨Lc2, hQ2, lq2, yq2, zq2⟩, st2⟩ := Jvm.RoadKit.callSS X1 hx (y := oM12) hown (mvT hZ (own_hw hw 42)) (mvT hZ (own_hw hw 43)) (mvT hZ (own_hw hw 37)) (mvT hZ (own_hw hw 44)) (by decide) (backOfS (W := 0) (rrt_2 l Z a0 hw [] a1 ax ka vs h0 n0 (by omega) pr4 pr5 pr6) hZ (own_hw hw 44) (own_hw hw 37) (by decide) (by decide)) (g := (mkF m 5 #[oR ap, oR a1, oi pn] [(.ref a1)])) rfl (by rw [hml]; rfl) (argsL := [(.ref a1)]) (rest := []) (lenOf pd_10 rfl) rfl (by show 2 * 0 + _ ≤ _; exact Nat.le_of_eq rfl) (hb hby d8_5) (fun _ _ => ⟨rfl, e1, (by decide : 0 + 2 ≤ _), (by decide : 0 + 24 ≤ _)⟩)
  dsimp only [Pt.U, Pt.locs, Pt.cells, Pt.slots] at X2 lq2 yq2 zq2 st2 hQ2
  subst lq2 yq2 zq2
  dsimp only [Pt.U, Pt.locs, Pt.cells, Pt.slots] at hS2 hg2
  obtain ⟨X2, hS2, hZ, hown⟩ := rebS hS0 (by rw [e1]; omega) X2 hS2 hg2 hZ hown
  obtain ⟨h2, e2⟩ : ∃ z, T2.heap = z := ⟨_, rfl⟩
  rw [e2] at hQ2 hS2
  obtain ⟨rfl, Nq2, K2⟩ := hQ2
  have sz2 : h0.size ≤ h2.size := K2.1
  have N2 := Fr.app N0 Nq2
  refine own_go (st' := T2.setTop (mkF m 8 #[oR ap, oR a1, oi pn] [(.ref a1)])) (fun _ k => st2.trans k) ?_
  refine own_go (st' := T2.setTop (mkF m 9 #[oR ap, oR a1, oi pn] [])) (fun _ k => XS.pop X2.here hx rfl (hb hby d8_8) rfl rfl k) ?_
  refine own_go (st' := T2.setTop (mkF m 10 #[oR ap, oR a1, oi pn] [(.int pn)])) (fun _ k => XS.iloadN X2.here hx rfl (hb hby d8_9) rfl k) ?_
  have hc3 : ¬ (pn < (0 : Int32)) := hpn
  refine own_go (st' := T2.setTop (mkF m 28 #[oR ap, oR a1, oi pn] [])) (fun _ k => XS.ifYes X2.here hx rfl (pc0 := 10) (pc' := 28) rfl (hb hby d8_10) rfl ((if0 _ _).trans (flt hc3).2.1) (by decide) (by decide) k) ?_
  refine own_go (st' := T2.setTop (mkF m 29 #[oR ap, oR a1, oi pn] [(.ref ap)])) (fun _ k => XS.aloadN X2.here hx rfl (hb hby d8_28) rfl rfl k) ?_
  refine own_go (st' := T2.setTop (mkF m 30 #[oR ap, oR a1, oi pn] [(.ref a1), (.ref ap)])) (fun _ k => XS.aloadN X2.here hx rfl (hb hby d8_29) rfl rfl k) ?_
  have c4 : Fld Z h2 ap oS1 "topic" oS2 .null := (pr2.keep K2 nin0)
  have c5 : Exa Z h2 ap oS1 := (pr1.keep K2)
  obtain ⟨T6, h6, X6, e6, W6, st6⟩ := putF X2 hx hZ hown (host := "") (Or.inl (own_hw hw 57)) Via.refl e2 c4 c5 (Or.inr ⟨(own_hw hw 58), rfl, hnm⟩) (own_hw hw 36) (ty := (.object oS0)) (by decide) rfl rfl (g := (mkF m 30 #[oR ap, oR a1, oi pn] [(.ref a1), (.ref ap)])) rfl rfl (hb hby d8_30)
  have sz6 : h6.size = h2.size := W6.size
  have N6 := Fr.snoc X6 N2 (by omega)
  have f6 : Fld Z h6 ap oS1 "topic" oS2 (.ref a1) := c4.same W6
  refine own_go (st' := T6.setTop (mkF m 33 #[oR ap, oR a1, oi pn] [])) (st6) ?_
  refine own_go (st' := T6.setTop (mkF m 34 #[oR ap, oR a1, oi pn] [(.ref ap)])) (fun _ k => XS.aloadN X6.here hx rfl (hb hby d8_33) rfl rfl k) ?_
  refine own_go (st' := T6.setTop (mkF m 35 #[oR ap, oR a1, oi pn] [(.int pn), (.ref ap)])) (fun _ k => XS.iloadN X6.here hx rfl (hb hby d8_34) rfl k) ?_
  have c7 : Fld Z h6 ap oS1 "number" "I" (.int pm) := ((pr3.keep K2 nin0).other W6 (Or.inr (slot_ne (Or.inr (own_hw hw 60)) (Or.inr (own_hw hw 58)) (by decide) (t := .int) (t' := (.object oS0)) (by decide) (by decide))))
  have c8 : Exa Z h6 ap oS1 := (c5.wr W6)
  obtain ⟨T9, h9, X9, e9, W9, st9⟩ := putF X6 hx hZ hown (host := "") (Or.inl (own_hw hw 59)) Via.refl e6 c7 c8 (Or.inr ⟨(own_hw hw 60), rfl, hnm⟩) (own_hw hw 36) (ty := .int) (by decide) rfl rfl (g := (mkF m 35 #[oR ap, oR a1, oi pn] [(.int pn), (.ref ap)])) rfl rfl (hb hby d8_35)
  have sz9 : h9.size = h6.size := W9.size
  have N9 := Fr.snoc X9 N6 (by omega)
  have f9 : Fld Z h9 ap oS1 "number" "I" (.int pn) := c7.same W9
  refine own_go (st' := T9.setTop (mkF m 38 #[oR ap, oR a1, oi pn] [])) (st9) ?_
  obtain ⟨fs, hr, hrun, hended, hR1, hR2, hR3, hR4⟩ := X9.leaveW hS2 (by rw [e9]; omega) (v := none) (fun _ => rfl)
  refine ⟨_, _, ?_, hP _ _ hrun hended ⟨_, _, rfl, ?_, hR1, hR2, hR3, hR4.mono (by decide) (by decide)⟩⟩
  · exact X9.returnOut hx Bd.returns (hb hby d8_38) hr
  · show Qrti_2 Z ap a1 ax ka vs pn pm h0 n0 _ T9.heap _
    have c11 : Exa Z h9 ap oS1 := (c8.wr W9)
    have c12 : Fld Z h9 ap oS1 "topic" oS2 (.ref a1) := (f6.other W9 (Or.inr (slot_ne (Or.inr (own_hw hw 58)) (Or.inr (own_hw hw 60)) (by decide) (t := (.object oS0)) (t' := .int) (by decide) (by decide))))
    rw [e9]
    exact ⟨rfl, N9, ((((Keep.refl h0 [ap]).trans K2 all0).wr W6 (Or.inl (List.mem_of_getElem? (i := 0) rfl))).wr W9 (Or.inl (List.mem_of_getElem? (i := 0) rfl))), c11, c12, f9⟩
theorem pd_11 : parseMethodDescriptor "(Ljava/lang/Object;)Z" = some ⟨[(.object "java/lang/Object")], some .boolean⟩ := by decide +kernel
theorem d12_0 : decode prog_38_method_8_code 0 = .ok (.aload_n 1, 1) := by decide +kernel
theorem d12_1 : decode prog_38_method_8_code 1 = .ok (.instanceof 8, 3) := by decide +kernel
theorem d12_4 : decode prog_38_method_8_code 4 = .ok (.ifCond .eq 37, 3) := by decide +kernel
theorem d12_7 : decode prog_38_method_8_code 7 = .ok (.aload_n 1, 1) := by decide +kernel
theorem d12_8 : decode prog_38_method_8_code 8 = .ok (.checkcast 8, 3) := by decide +kernel
theorem d12_11 : decode prog_38_method_8_code 11 = .ok (.astore_n 2, 1) := by decide +kernel
theorem d12_12 : decode prog_38_method_8_code 12 = .ok (.aload_n 0, 1) := by decide +kernel
theorem d12_13 : decode prog_38_method_8_code 13 = .ok (.getfield 26, 3) := by decide +kernel
theorem d12_16 : decode prog_38_method_8_code 16 = .ok (.aload_n 2, 1) := by decide +kernel
theorem d12_17 : decode prog_38_method_8_code 17 = .ok (.getfield 26, 3) := by decide +kernel
theorem d12_20 : decode prog_38_method_8_code 20 = .ok (.if_icmp .ne 21, 3) := by decide +kernel
theorem d12_23 : decode prog_38_method_8_code 23 = .ok (.aload_n 0, 1) := by decide +kernel
theorem d12_24 : decode prog_38_method_8_code 24 = .ok (.getfield 22, 3) := by decide +kernel
theorem d12_27 : decode prog_38_method_8_code 27 = .ok (.aload_n 2, 1) := by decide +kernel
theorem d12_28 : decode prog_38_method_8_code 28 = .ok (.getfield 22, 3) := by decide +kernel
theorem d12_31 : decode prog_38_method_8_code 31 = .ok (.invokevirtual 95, 3) := by decide +kernel
theorem d12_34 : decode prog_38_method_8_code 34 = .ok (.ifCond .eq 7, 3) := by decide +kernel
theorem d12_37 : decode prog_38_method_8_code 37 = .ok (.iconst 1, 1) := by decide +kernel
theorem d12_38 : decode prog_38_method_8_code 38 = .ok (.goto 4, 3) := by decide +kernel
theorem d12_42 : decode prog_38_method_8_code 42 = .ok (.ireturn, 1) := by decide +kernel
theorem pn_12 : plainName "com/example/limpet/limpet/TopicPartition" = true := by first | (simp [plainName, overriddenIn]; done) | decide +kernel
theorem ef_rte_self (m : MethodId) (x0 : Addr) (x1 : Addr) : entryFrame m #[(.ref x0), (.ref x1)] 3 = mkF m 0 #[.val (.ref x0), .val (.ref x1), .unset] [] := by first | (simp [entryFrame, mkF, argsToLocals, Value.category]; done) | rfl
def Qrte_self (Z : State) (ap : Addr) (a1 : Addr) (pn : Int32) (h0 : Heap) (n0 : Nat) (v : Option Value) (h : Heap) (L : List Loc) : Prop := (v = some (.int (1 : Int32))) ∧ (Fr n0 L) ∧ (h = h0)
set_option maxRecDepth 65536 in
set_option maxHeartbeats 40000000 in
theorem rte_self (l : Launch) (Z : State) (a0 : Array Value) (hw : ∀ d ∈ tables_1, d.before a0 Z = true) (ws : List Jvm.Cond) (ap : Addr) (a1 : Addr) (pn : Int32) (h0 : Heap) (n0 : Nat) (Z0 : n0 ≤ h0.size) (pr1 : Exa Z h0 ap "com/example/limpet/limpet/TopicPartition") (pr2 : Fld Z h0 ap "com/example/limpet/limpet/TopicPartition" "topic" "Ljava/lang/String;" (.ref a1)) (pr3 : Fld Z h0 ap "com/example/limpet/limpet/TopicPartition" "number" "I" (.int pn)) (pr4 : Exa Z h0 a1 "java/lang/String") :
    MetFree l oM0 (head1 (Jvm.Cond.code oM0 prog_38_method_8_code 3 (some .boolean) :: ws) ({ frames := 1, cells := 0, slots := 0, locals := 14 } : Room)) (fun a U => a = #[(.ref ap), (.ref ap)] ∧ Z.Warmed39 U.vm ∧ U.heap = h0) (fun _ _ _ _ _ => True) (fun _ U o U' => ∃ v L, o = .returned v ∧ Qrte_self Z ap a1 pn h0 n0 v U'.heap L ∧ FrameEnd U o U' L ({ frames := 1, cells := 0, slots := 0, locals := 14 } : Room).cells ({ frames := 1, cells := 0, slots := 0, locals := 14 } : Room).slots) := by
  refine MetFree.of_bodySF (plainFor_of_name pn_12) hisR ?_
  intro p e s m args below meth c s₁ Bd hml0 hP0 hK
  obtain ⟨rfl, hZ, hh⟩ := hP0
  have hx := Bd.exec
  have hby := Bd.bytes
  have hml : c.maxLocals = 3 := hml0
  have hown : s.vm.findClass oS1 = some m.cls := findClass_of_methodNamed Bd.named
  have hnm := (name_of_methodNamed Bd.named Bd.method).1
  have X0 : Stand p l e ({ frames := 1, cells := 0, slots := 0, locals := 14 } : Room) s m #[(.ref ap), (.ref ap)] below meth c s₁ [] 0 0 := Stand.of_body Bd
  have e0 : s₁.heap = h0 := by rw [← hh, Bd.state]; rfl
  have N0 := Fr.nil n0
  suffices own_H : ∀ (P : State → Outcome → Prop), (∀ U o, U.status = .running → Ended U below o → (∃ v L, o = .returned v ∧ Qrte_self Z ap a1 pn h0 n0 v U.heap L ∧ FrameEnd s o U L ({ frames := 1, cells := 0, slots := 0, locals := 14 } : Room).cells ({ frames := 1, cells := 0, slots := 0, locals := 14 } : Room).slots) → P U o) → own_Go p.tables e below P (s₁.setTop (mkF m 0 #[oR ap, oR ap, .unset] [])) from own_go (fun _ k => castTop (ef_rte_self m ap ap) k) (own_H _ (fun U o h1 h2 h3 => ⟨h1, h2, h3⟩))
  intro P hP
  have lt_ap : @LT.lt Nat _ ap h0.size := pr1.lt
  have lt_a1 : @LT.lt Nat _ a1 h0.size := pr4.lt
  refine own_go (st' := s₁.setTop (mkF m 1 #[oR ap, oR ap, .unset] [(.ref ap)])) (fun _ k => XS.aloadN X0.here hx rfl (hb hby d12_0) rfl rfl k) ?_
  obtain ⟨T1, X1, e1, st1⟩ := instY X0 hx hZ hown (own_hw hw 66) e0 (Ins.self pr1) (g := (mkF m 1 #[oR ap, oR ap, .unset] [(.ref ap)])) rfl rfl (hb hby d12_1)
  refine own_go (st' := T1.setTop (mkF m 4 #[oR ap, oR ap, .unset] [(.int (1 : Int32))])) (st1) ?_
  have hc2 : ¬ ((1 : Int32) = (0 : Int32)) := by decide
  refine own_go (st' := T1.setTop (mkF m 7 #[oR ap, oR ap, .unset] [])) (fun _ k => XS.ifNo X1.here hx rfl (hb hby d12_4) rfl ((if0 _ _).trans (feq hc2).1) k) ?_
  refine own_go (st' := T1.setTop (mkF m 8 #[oR ap, oR ap, .unset] [(.ref ap)])) (fun _ k => XS.aloadN X1.here hx rfl (hb hby d12_7) rfl rfl k) ?_
  obtain ⟨T3, X3, e3, st3⟩ := castY X1 hx hZ hown (own_hw hw 66) e1 (Ins.self pr1) (g := (mkF m 8 #[oR ap, oR ap, .unset] [(.ref ap)])) rfl rfl (hb hby d12_8)
  refine own_go (st' := T3.setTop (mkF m 11 #[oR ap, oR ap, .unset] [(.ref ap)])) (st3) ?_
  refine own_go (st' := T3.setTop (mkF m 12 #[oR ap, oR ap, oR ap] [])) (fun _ k => XS.astoreN X3.here hx rfl (hb hby d12_11) rfl rfl (l' := #[oR ap, oR ap, oR ap]) rfl k) ?_
  refine own_go (st' := T3.setTop (mkF m 13 #[oR ap, oR ap, oR ap] [(.ref ap)])) (fun _ k => XS.aloadN X3.here hx rfl (hb hby d12_12) rfl rfl k) ?_
  obtain ⟨T4, X4, e4, st4⟩ := getF X3 hx hZ hown (host := "") (Or.inl (own_hw hw 59)) Via.refl e3 pr3 (g := (mkF m 13 #[oR ap, oR ap, oR ap] [(.ref ap)])) rfl rfl (hb hby d12_13)
  refine own_go (st' := T4.setTop (mkF m 16 #[oR ap, oR ap, oR ap] [(.int pn)])) (st4) ?_
  refine own_go (st' := T4.setTop (mkF m 17 #[oR ap, oR ap, oR ap] [(.ref ap), (.int pn)])) (fun _ k => XS.aloadN X4.here hx rfl (hb hby d12_16) rfl rfl k) ?_
  obtain ⟨T5, X5, e5, st5⟩ := getF X4 hx hZ hown (host := "") (Or.inl (own_hw hw 59)) Via.refl e4 pr3 (g := (mkF m 17 #[oR ap, oR ap, oR ap] [(.ref ap), (.int pn)])) rfl rfl (hb hby d12_17)
  refine own_go (st' := T5.setTop (mkF m 20 #[oR ap, oR ap, oR ap] [(.int pn), (.int pn)])) (st5) ?_
  have hc6 : pn = pn := rfl
  refine own_go (st' := T5.setTop (mkF m 23 #[oR ap, oR ap, oR ap] [])) (fun _ k => XS.icmpNo X5.here hx rfl (hb hby d12_20) rfl (teq hc6).2 k) ?_
  refine own_go (st' := T5.setTop (mkF m 24 #[oR ap, oR ap, oR ap] [(.ref ap)])) (fun _ k => XS.aloadN X5.here hx rfl (hb hby d12_23) rfl rfl k) ?_
  obtain ⟨T7, X7, e7, st7⟩ := getF X5 hx hZ hown (host := "") (Or.inl (own_hw hw 57)) Via.refl e5 pr2 (g := (mkF m 24 #[oR ap, oR ap, oR ap] [(.ref ap)])) rfl rfl (hb hby d12_24)
  refine own_go (st' := T7.setTop (mkF m 27 #[oR ap, oR ap, oR ap] [(.ref a1)])) (st7) ?_
  refine own_go (st' := T7.setTop (mkF m 28 #[oR ap, oR ap, oR ap] [(.ref ap), (.ref a1)])) (fun _ k => XS.aloadN X7.here hx rfl (hb hby d12_27) rfl rfl k) ?_
  obtain ⟨T8, X8, e8, st8⟩ := getF X7 hx hZ hown (host := "") (Or.inl (own_hw hw 57)) Via.refl e7 pr2 (g := (mkF m 28 #[oR ap, oR ap, oR ap] [(.ref ap), (.ref a1)])) rfl rfl (hb hby d12_28)
  refine own_go (st' := T8.setTop (mkF m 31 #[oR ap, oR ap, oR ap] [(.ref a1), (.ref a1)])) (st8) ?_
  obtain ⟨cq9, kq9, q9a, q9b, q9c⟩ := isOf hZ e8 pr4
  obtain ⟨_, _, ⟨T9, LC9, kC9, nC9⟩, -, X9, ⟨Lc9, hQ9, lq9, yq9, zq9⟩, st9⟩ := X8.virtualBack hx (y := oM1) (z := oM1) hown (mvT hZ (own_hw hw 68)) (mvT hZ (own_hw hw 69)) (notFace_of_selects (args := #[]) (mvT hZ (own_hw hw 71))) (mvT hZ (own_hw hw 71)) (mvT hZ (own_hw hw 70)) (by decide) (backOf (W := 0) (rse_same l Z a0 hw [] a1 h0 n0 (by omega) ) hZ (own_hw hw 72) (own_hw hw 7) (by decide) (by decide)) q9a q9c (g := (mkF m 31 #[oR ap, oR ap, oR ap] [(.ref a1), (.ref a1)])) rfl (by rw [hml]; rfl) (Steps.refl _) (argsL := [(.ref a1)]) (rest := []) (lenOf pd_11 rfl) rfl (by show 2 * 0 + _ ≤ _; exact Nat.le_of_eq rfl) (hb hby d12_31) (fun _ _ => ⟨rfl, e8, (by decide : 0 + 0 ≤ _), (by decide : 0 + 0 ≤ _)⟩)
  dsimp only [Pt.U, Pt.locs, Pt.cells, Pt.slots] at X9 lq9 yq9 zq9 st9 hQ9
  subst lq9 yq9 zq9
  obtain ⟨rfl, Nq9, eq9⟩ := hQ9
  have N9 := Fr.app N0 Nq9
  refine own_go (st' := T9.setTop (mkF m 34 #[oR ap, oR ap, oR ap] [(.int (1 : Int32))])) (fun _ k => st9.trans k) ?_
  have hc10 : ¬ ((1 : Int32) = (0 : Int32)) := by decide
  refine own_go (st' := T9.setTop (mkF m 37 #[oR ap, oR ap, oR ap] [])) (fun _ k => XS.ifNo X9.here hx rfl (hb hby d12_34) rfl ((if0 _ _).trans (feq hc10).1) k) ?_
  refine own_go (st' := T9.setTop (mkF m 38 #[oR ap, oR ap, oR ap] [(.int (1 : Int32))])) (fun _ k => XS.iconst X9.here hx rfl (hb hby d12_37) k) ?_
  refine own_go (st' := T9.setTop (mkF m 42 #[oR ap, oR ap, oR ap] [(.int (1 : Int32))])) (fun _ k => XS.goto X9.here hx rfl (pc0 := 38) (pc' := 42) rfl (hb hby d12_38) (by decide) (by decide) k) ?_
  obtain ⟨fs, hr, hrun, hended, hW, hsame⟩ := X9.leave (v := some (.int (1 : Int32))) (fun h => by rw [Bd.returns] at h; cases h)
  refine ⟨_, _, ?_, hP _ _ hrun hended ⟨_, _, rfl, ?_, ⟨_, rfl⟩, hW, hsame.mono (by decide) (by decide)⟩⟩
  · exact retN X9 hx (t := .boolean) Bd.returns (by simp) (hb hby d12_42) hr
  · show Qrte_self Z ap a1 pn h0 n0 _ T9.heap _
    rw [eq9]
    exact ⟨rfl, N9, rfl⟩
theorem d12_41 : decode prog_38_method_8_code 41 = .ok (.iconst 0, 1) := by decide +kernel
theorem ef_rte_null (m : MethodId) (x0 : Addr) : entryFrame m #[(.ref x0), .null] 3 = mkF m 0 #[.val (.ref x0), .val .null, .unset] [] := by first | (simp [entryFrame, mkF, argsToLocals, Value.category]; done) | rfl
def Qrte_null (Z : State) (ap : Addr) (h0 : Heap) (n0 : Nat) (v : Option Value) (h : Heap) (L : List Loc) : Prop := (v = some (.int (0 : Int32))) ∧ (Fr n0 L) ∧ (h = h0)
set_option maxRecDepth 65536 in
set_option maxHeartbeats 40000000 in
theorem rte_null (l : Launch) (Z : State) (a0 : Array Value) (hw : ∀ d ∈ tables_1, d.before a0 Z = true) (ws : List Jvm.Cond) (ap : Addr) (h0 : Heap) (n0 : Nat) (Z0 : n0 ≤ h0.size)  :
    MetFree l oM0 (head1 (Jvm.Cond.code oM0 prog_38_method_8_code 3 (some .boolean) :: ws) ({ frames := 0, cells := 0, slots := 0, locals := 0 } : Room)) (fun a U => a = #[(.ref ap), .null] ∧ Z.Warmed39 U.vm ∧ U.heap = h0) (fun _ _ _ _ _ => True) (fun _ U o U' => ∃ v L, o = .returned v ∧ Qrte_null Z ap h0 n0 v U'.heap L ∧ FrameEnd U o U' L ({ frames := 0, cells := 0, slots := 0, locals := 0 } : Room).cells ({ frames := 0, cells := 0, slots := 0, locals := 0 } : Room).slots) := by
  refine MetFree.of_bodySF (plainFor_of_name pn_12) hisR ?_
  intro p e s m args below meth c s₁ Bd hml0 hP0 hK
  obtain ⟨rfl, hZ, hh⟩ := hP0
  have hx := Bd.exec
  have hby := Bd.bytes
  have hml : c.maxLocals = 3 := hml0
  have hown : s.vm.findClass oS1 = some m.cls := findClass_of_methodNamed Bd.named
  have hnm := (name_of_methodNamed Bd.named Bd.method).1
  have X0 : Stand p l e ({ frames := 0, cells := 0, slots := 0, locals := 0 } : Room) s m #[(.ref ap), .null] below meth c s₁ [] 0 0 := Stand.of_body Bd
  have e0 : s₁.heap = h0 := by rw [← hh, Bd.state]; rfl
  have N0 := Fr.nil n0
  suffices own_H : ∀ (P : State → Outcome → Prop), (∀ U o, U.status = .running → Ended U below o → (∃ v L, o = .returned v ∧ Qrte_null Z ap h0 n0 v U.heap L ∧ FrameEnd s o U L ({ frames := 0, cells := 0, slots := 0, locals := 0 } : Room).cells ({ frames := 0, cells := 0, slots := 0, locals := 0 } : Room).slots) → P U o) → own_Go p.tables e below P (s₁.setTop (mkF m 0 #[oR ap, .val .null, .unset] [])) from own_go (fun _ k => castTop (ef_rte_null m ap) k) (own_H _ (fun U o h1 h2 h3 => ⟨h1, h2, h3⟩))
  intro P hP
  refine own_go (st' := s₁.setTop (mkF m 1 #[oR ap, .val .null, .unset] [.null])) (fun _ k => XS.aloadN X0.here hx rfl (hb hby d12_0) rfl rfl k) ?_
  refine own_go (st' := s₁.setTop (mkF m 4 #[oR ap, .val .null, .unset] [(.int (0 : Int32))])) (X0.instanceofNull hx (g := (mkF m 1 #[oR ap, .val .null, .unset] [.null])) rfl rfl (hb hby d12_1)) ?_
  have hc1 : (0 : Int32) = (0 : Int32) := by decide
  refine own_go (st' := s₁.setTop (mkF m 41 #[oR ap, .val .null, .unset] [])) (fun _ k => XS.ifYes X0.here hx rfl (pc0 := 4) (pc' := 41) rfl (hb hby d12_4) rfl ((if0 _ _).trans (teq hc1).1) (by decide) (by decide) k) ?_
  refine own_go (st' := s₁.setTop (mkF m 42 #[oR ap, .val .null, .unset] [(.int (0 : Int32))])) (fun _ k => XS.iconst X0.here hx rfl (hb hby d12_41) k) ?_
  obtain ⟨fs, hr, hrun, hended, hW, hsame⟩ := X0.leave (v := some (.int (0 : Int32))) (fun h => by rw [Bd.returns] at h; cases h)
  refine ⟨_, _, ?_, hP _ _ hrun hended ⟨_, _, rfl, ?_, ⟨_, rfl⟩, hW, hsame.mono (by decide) (by decide)⟩⟩
  · exact retN X0 hx (t := .boolean) Bd.returns (by simp) (hb hby d12_42) hr
  · show Qrte_null Z ap h0 n0 _ s₁.heap _
    rw [e0]
    exact ⟨rfl, N0, rfl⟩
theorem ef_rte_str (m : MethodId) (x0 : Addr) (x1 : Addr) : entryFrame m #[(.ref x0), (.ref x1)] 3 = mkF m 0 #[.val (.ref x0), .val (.ref x1), .unset] [] := by first | (simp [entryFrame, mkF, argsToLocals, Value.category]; done) | rfl
def Qrte_str (Z : State) (ap : Addr) (aq : Addr) (h0 : Heap) (n0 : Nat) (v : Option Value) (h : Heap) (L : List Loc) : Prop := (v = some (.int (0 : Int32))) ∧ (Fr n0 L) ∧ (h = h0)
set_option maxRecDepth 65536 in
set_option maxHeartbeats 40000000 in
theorem rte_str (l : Launch) (Z : State) (a0 : Array Value) (hw : ∀ d ∈ tables_1, d.before a0 Z = true) (ws : List Jvm.Cond) (ap : Addr) (aq : Addr) (h0 : Heap) (n0 : Nat) (Z0 : n0 ≤ h0.size) (pr1 : Exa Z h0 aq "java/lang/String") :
    MetFree l oM0 (head1 (Jvm.Cond.code oM0 prog_38_method_8_code 3 (some .boolean) :: ws) ({ frames := 0, cells := 0, slots := 0, locals := 0 } : Room)) (fun a U => a = #[(.ref ap), (.ref aq)] ∧ Z.Warmed39 U.vm ∧ U.heap = h0) (fun _ _ _ _ _ => True) (fun _ U o U' => ∃ v L, o = .returned v ∧ Qrte_str Z ap aq h0 n0 v U'.heap L ∧ FrameEnd U o U' L ({ frames := 0, cells := 0, slots := 0, locals := 0 } : Room).cells ({ frames := 0, cells := 0, slots := 0, locals := 0 } : Room).slots) := by
  refine MetFree.of_bodySF (plainFor_of_name pn_12) hisR ?_
  intro p e s m args below meth c s₁ Bd hml0 hP0 hK
  obtain ⟨rfl, hZ, hh⟩ := hP0
  have hx := Bd.exec
  have hby := Bd.bytes
  have hml : c.maxLocals = 3 := hml0
  have hown : s.vm.findClass oS1 = some m.cls := findClass_of_methodNamed Bd.named
  have hnm := (name_of_methodNamed Bd.named Bd.method).1
  have X0 : Stand p l e ({ frames := 0, cells := 0, slots := 0, locals := 0 } : Room) s m #[(.ref ap), (.ref aq)] below meth c s₁ [] 0 0 := Stand.of_body Bd
  have e0 : s₁.heap = h0 := by rw [← hh, Bd.state]; rfl
  have N0 := Fr.nil n0
  suffices own_H : ∀ (P : State → Outcome → Prop), (∀ U o, U.status = .running → Ended U below o → (∃ v L, o = .returned v ∧ Qrte_str Z ap aq h0 n0 v U.heap L ∧ FrameEnd s o U L ({ frames := 0, cells := 0, slots := 0, locals := 0 } : Room).cells ({ frames := 0, cells := 0, slots := 0, locals := 0 } : Room).slots) → P U o) → own_Go p.tables e below P (s₁.setTop (mkF m 0 #[oR ap, oR aq, .unset] [])) from own_go (fun _ k => castTop (ef_rte_str m ap aq) k) (own_H _ (fun U o h1 h2 h3 => ⟨h1, h2, h3⟩))
  intro P hP
  have lt_aq : @LT.lt Nat _ aq h0.size := pr1.lt
  refine own_go (st' := s₁.setTop (mkF m 1 #[oR ap, oR aq, .unset] [(.ref aq)])) (fun _ k => XS.aloadN X0.here hx rfl (hb hby d12_0) rfl rfl k) ?_
  obtain ⟨T1, X1, e1, st1⟩ := instNo X0 hx hZ hown (own_hw hw 66) e0 pr1 (own_NS_no (own_hw hw 73) (own_hw hw 36) (NS.step (own_hw hw 73) (own_NS_root (own_hw hw 74) (own_hw hw 36) (by decide)) (by decide)) (by decide)) (g := (mkF m 1 #[oR ap, oR aq, .unset] [(.ref aq)])) rfl rfl (hb hby d12_1)
  refine own_go (st' := T1.setTop (mkF m 4 #[oR ap, oR aq, .unset] [(.int (0 : Int32))])) (st1) ?_
  have hc2 : (0 : Int32) = (0 : Int32) := by decide
  refine own_go (st' := T1.setTop (mkF m 41 #[oR ap, oR aq, .unset] [])) (fun _ k => XS.ifYes X1.here hx rfl (pc0 := 4) (pc' := 41) rfl (hb hby d12_4) rfl ((if0 _ _).trans (teq hc2).1) (by decide) (by decide) k) ?_
  refine own_go (st' := T1.setTop (mkF m 42 #[oR ap, oR aq, .unset] [(.int (0 : Int32))])) (fun _ k => XS.iconst X1.here hx rfl (hb hby d12_41) k) ?_
  obtain ⟨fs, hr, hrun, hended, hW, hsame⟩ := X1.leave (v := some (.int (0 : Int32))) (fun h => by rw [Bd.returns] at h; cases h)
  refine ⟨_, _, ?_, hP _ _ hrun hended ⟨_, _, rfl, ?_, ⟨_, rfl⟩, hW, hsame.mono (by decide) (by decide)⟩⟩
  · exact retN X1 hx (t := .boolean) Bd.returns (by simp) (hb hby d12_42) hr
  · show Qrte_str Z ap aq h0 n0 _ T1.heap _
    rw [e1]
    exact ⟨rfl, N0, rfl⟩
theorem ef_rte_int (m : MethodId) (x0 : Addr) (x1 : Addr) : entryFrame m #[(.ref x0), (.ref x1)] 3 = mkF m 0 #[.val (.ref x0), .val (.ref x1), .unset] [] := by first | (simp [entryFrame, mkF, argsToLocals, Value.category]; done) | rfl
def Qrte_int (Z : State) (ap : Addr) (aq : Addr) (h0 : Heap) (n0 : Nat) (v : Option Value) (h : Heap) (L : List Loc) : Prop := (v = some (.int (0 : Int32))) ∧ (Fr n0 L) ∧ (h = h0)
set_option maxRecDepth 65536 in
set_option maxHeartbeats 40000000 in
theorem rte_int (l : Launch) (Z : State) (a0 : Array Value) (hw : ∀ d ∈ tables_1, d.before a0 Z = true) (ws : List Jvm.Cond) (ap : Addr) (aq : Addr) (h0 : Heap) (n0 : Nat) (Z0 : n0 ≤ h0.size) (pr1 : Exa Z h0 aq "java/lang/Integer") :
    MetFree l oM0 (head1 (Jvm.Cond.code oM0 prog_38_method_8_code 3 (some .boolean) :: ws) ({ frames := 0, cells := 0, slots := 0, locals := 0 } : Room)) (fun a U => a = #[(.ref ap), (.ref aq)] ∧ Z.Warmed39 U.vm ∧ U.heap = h0) (fun _ _ _ _ _ => True) (fun _ U o U' => ∃ v L, o = .returned v ∧ Qrte_int Z ap aq h0 n0 v U'.heap L ∧ FrameEnd U o U' L ({ frames := 0, cells := 0, slots := 0, locals := 0 } : Room).cells ({ frames := 0, cells := 0, slots := 0, locals := 0 } : Room).slots) := by
  refine MetFree.of_bodySF (plainFor_of_name pn_12) hisR ?_
  intro p e s m args below meth c s₁ Bd hml0 hP0 hK
  obtain ⟨rfl, hZ, hh⟩ := hP0
  have hx := Bd.exec
  have hby := Bd.bytes
  have hml : c.maxLocals = 3 := hml0
  have hown : s.vm.findClass oS1 = some m.cls := findClass_of_methodNamed Bd.named
  have hnm := (name_of_methodNamed Bd.named Bd.method).1
  have X0 : Stand p l e ({ frames := 0, cells := 0, slots := 0, locals := 0 } : Room) s m #[(.ref ap), (.ref aq)] below meth c s₁ [] 0 0 := Stand.of_body Bd
  have e0 : s₁.heap = h0 := by rw [← hh, Bd.state]; rfl
  have N0 := Fr.nil n0
  suffices own_H : ∀ (P : State → Outcome → Prop), (∀ U o, U.status = .running → Ended U below o → (∃ v L, o = .returned v ∧ Qrte_int Z ap aq h0 n0 v U.heap L ∧ FrameEnd s o U L ({ frames := 0, cells := 0, slots := 0, locals := 0 } : Room).cells ({ frames := 0, cells := 0, slots := 0, locals := 0 } : Room).slots) → P U o) → own_Go p.tables e below P (s₁.setTop (mkF m 0 #[oR ap, oR aq, .unset] [])) from own_go (fun _ k => castTop (ef_rte_int m ap aq) k) (own_H _ (fun U o h1 h2 h3 => ⟨h1, h2, h3⟩))
  intro P hP
  have lt_aq : @LT.lt Nat _ aq h0.size := pr1.lt
  refine own_go (st' := s₁.setTop (mkF m 1 #[oR ap, oR aq, .unset] [(.ref aq)])) (fun _ k => XS.aloadN X0.here hx rfl (hb hby d12_0) rfl rfl k) ?_
  obtain ⟨T1, X1, e1, st1⟩ := instNo X0 hx hZ hown (own_hw hw 66) e0 pr1 (own_NS_no (own_hw hw 82) (own_hw hw 36) (NS.step (own_hw hw 82) (NS.step (own_hw hw 83) (own_NS_root (own_hw hw 74) (own_hw hw 36) (by decide)) (by decide)) (by decide)) (by decide)) (g := (mkF m 1 #[oR ap, oR aq, .unset] [(.ref aq)])) rfl rfl (hb hby d12_1)
  refine own_go (st' := T1.setTop (mkF m 4 #[oR ap, oR aq, .unset] [(.int (0 : Int32))])) (st1) ?_
  have hc2 : (0 : Int32) = (0 : Int32) := by decide
  refine own_go (st' := T1.setTop (mkF m 41 #[oR ap, oR aq, .unset] [])) (fun _ k => XS.ifYes X1.here hx rfl (pc0 := 4) (pc' := 41) rfl (hb hby d12_4) rfl ((if0 _ _).trans (teq hc2).1) (by decide) (by decide) k) ?_
  refine own_go (st' := T1.setTop (mkF m 42 #[oR ap, oR aq, .unset] [(.int (0 : Int32))])) (fun _ k => XS.iconst X1.here hx rfl (hb hby d12_41) k) ?_
  obtain ⟨fs, hr, hrun, hended, hW, hsame⟩ := X1.leave (v := some (.int (0 : Int32))) (fun h => by rw [Bd.returns] at h; cases h)
  refine ⟨_, _, ?_, hP _ _ hrun hended ⟨_, _, rfl, ?_, ⟨_, rfl⟩, hW, hsame.mono (by decide) (by decide)⟩⟩
  · exact retN X1 hx (t := .boolean) Bd.returns (by simp) (hb hby d12_42) hr
  · show Qrte_int Z ap aq h0 n0 _ T1.heap _
    rw [e1]
    exact ⟨rfl, N0, rfl⟩
theorem ef_rte_11 (m : MethodId) (x0 : Addr) (x1 : Addr) : entryFrame m #[(.ref x0), (.ref x1)] 3 = mkF m 0 #[.val (.ref x0), .val (.ref x1), .unset] [] := by first | (simp [entryFrame, mkF, argsToLocals, Value.category]; done) | rfl
def Qrte_11 (Z : State) (ap : Addr) (aq : Addr) (a1 : Addr) (a2 : Addr) (pn : Int32) (pm : Int32) (zc : Int32) (ax : Addr) (ka : ClassId) (ay : Addr) (kb : ClassId) (w0 : Int32) (z0 : Int32) (h0 : Heap) (n0 : Nat) (v : Option Value) (h : Heap) (L : List Loc) : Prop := (v = some (.int (own_tp pn pm (own_eq1 w0 z0)))) ∧ (Fr n0 L) ∧ (h = h0)
set_option maxRecDepth 65536 in
set_option maxHeartbeats 40000000 in
theorem rte_11 (l : Launch) (Z : State) (a0 : Array Value) (hw : ∀ d ∈ tables_1, d.before a0 Z = true) (ws : List Jvm.Cond) (ap : Addr) (aq : Addr) (a1 : Addr) (a2 : Addr) (pn : Int32) (pm : Int32) (zc : Int32) (ax : Addr) (ka : ClassId) (ay : Addr) (kb : ClassId) (w0 : Int32) (z0 : Int32) (h0 : Heap) (n0 : Nat) (Z0 : n0 ≤ h0.size) (pr1 : Sta Z h0 "java/lang/String" "COMPACT_STRINGS" "Z" (.int zc)) (hzc : ¬ zc = (0 : Int32)) (pr2 : Exa Z h0 ap "com/example/limpet/limpet/TopicPartition") (pr3 : Fld Z h0 ap "com/example/limpet/limpet/TopicPartition" "topic" "Ljava/lang/String;" (.ref a1)) (pr4 : Fld Z h0 ap "com/example/limpet/limpet/TopicPartition" "number" "I" (.int pn)) (pr5 : Exa Z h0 aq "com/example/limpet/limpet/TopicPartition") (pr6 : Fld Z h0 aq "com/example/limpet/limpet/TopicPartition" "topic" "Ljava/lang/String;" (.ref a2)) (pr7 : Fld Z h0 aq "com/example/limpet/limpet/TopicPartition" "number" "I" (.int pm)) (pr8 : @Ne Nat a1 a2) (pr9 : Exa Z h0 a1 "java/lang/String") (pr10 : Fld Z h0 a1 "java/lang/String" "value" "[B" (.ref ax)) (pr11 : Fld Z h0 a1 "java/lang/String" "coder" "B" (.int (0 : Int32))) (pr12 : Exa Z h0 a2 "java/lang/String") (pr13 : Fld Z h0 a2 "java/lang/String" "value" "[B" (.ref ay)) (pr14 : Fld Z h0 a2 "java/lang/String" "coder" "B" (.int (0 : Int32))) (pr15 : Arv Z h0 ax ka .byte (1 : Int32) [(.int w0)] (.int (0 : Int32))) (pr16 : Arv Z h0 ay kb .byte (1 : Int32) [(.int z0)] (.int (0 : Int32))) :
    MetFree l oM0 (head1 (Jvm.Cond.code oM0 prog_38_method_8_code 3 (some .boolean) :: ws) ({ frames := 2, cells := 0, slots := 0, locals := 28 } : Room)) (fun a U => a = #[(.ref ap), (.ref aq)] ∧ Z.Warmed39 U.vm ∧ U.heap = h0) (fun _ _ _ _ _ => True) (fun _ U o U' => ∃ v L, o = .returned v ∧ Qrte_11 Z ap aq a1 a2 pn pm zc ax ka ay kb w0 z0 h0 n0 v U'.heap L ∧ FrameEnd U o U' L ({ frames := 2, cells := 0, slots := 0, locals := 28 } : Room).cells ({ frames := 2, cells := 0, slots := 0, locals := 28 } : Room).slots) := by
  refine MetFree.of_bodySF (plainFor_of_name pn_12) hisR ?_
  intro p e s m args below meth c s₁ Bd hml0 hP0 hK
  obtain ⟨rfl, hZ, hh⟩ := hP0
  have hx := Bd.exec
  have hby := Bd.bytes
  have hml : c.maxLocals = 3 := hml0
  have hown : s.vm.findClass oS1 = some m.cls := findClass_of_methodNamed Bd.named
  have hnm := (name_of_methodNamed Bd.named Bd.method).1
  have X0 : Stand p l e ({ frames := 2, cells := 0, slots := 0, locals := 28 } : Room) s m #[(.ref ap), (.ref aq)] below meth c s₁ [] 0 0 := Stand.of_body Bd
  have e0 : s₁.heap = h0 := by rw [← hh, Bd.state]; rfl
  have N0 := Fr.nil n0
  suffices own_H : ∀ (P : State → Outcome → Prop), (∀ U o, U.status = .running → Ended U below o → (∃ v L, o = .returned v ∧ Qrte_11 Z ap aq a1 a2 pn pm zc ax ka ay kb w0 z0 h0 n0 v U.heap L ∧ FrameEnd s o U L ({ frames := 2, cells := 0, slots := 0, locals := 28 } : Room).cells ({ frames := 2, cells := 0, slots := 0, locals := 28 } : Room).slots) → P U o) → own_Go p.tables e below P (s₁.setTop (mkF m 0 #[oR ap, oR aq, .unset] [])) from own_go (fun _ k => castTop (ef_rte_11 m ap aq) k) (own_H _ (fun U o h1 h2 h3 => ⟨h1, h2, h3⟩))
  intro P hP
  have lt_ap : @LT.lt Nat _ ap h0.size := pr2.lt
  have lt_aq : @LT.lt Nat _ aq h0.size := pr5.lt
  have lt_a1 : @LT.lt Nat _ a1 h0.size := pr9.lt
  have lt_a2 : @LT.lt Nat _ a2 h0.size := pr12.lt
  have lt_ax : @LT.lt Nat _ ax h0.size := pr15.lt
  have lt_ay : @LT.lt Nat _ ay h0.size := pr16.lt
  refine own_go (st' := s₁.setTop (mkF m 1 #[oR ap, oR aq, .unset] [(.ref aq)])) (fun _ k => XS.aloadN X0.here hx rfl (hb hby d12_0) rfl rfl k) ?_
  obtain ⟨T1, X1, e1, st1⟩ := instY X0 hx hZ hown (own_hw hw 66) e0 (Ins.self pr5) (g := (mkF m 1 #[oR ap, oR aq, .unset] [(.ref aq)])) rfl rfl (hb hby d12_1)
  refine own_go (st' := T1.setTop (mkF m 4 #[oR ap, oR aq, .unset] [(.int (1 : Int32))])) (st1) ?_
  have hc2 : ¬ ((1 : Int32) = (0 : Int32)) := by decide
  refine own_go (st' := T1.setTop (mkF m 7 #[oR ap, oR aq, .unset] [])) (fun _ k => XS.ifNo X1.here hx rfl (hb hby d12_4) rfl ((if0 _ _).trans (feq hc2).1) k) ?_
  refine own_go (st' := T1.setTop (mkF m 8 #[oR ap, oR aq, .unset] [(.ref aq)])) (fun _ k => XS.aloadN X1.here hx rfl (hb hby d12_7) rfl rfl k) ?_
  obtain ⟨T3, X3, e3, st3⟩ := castY X1 hx hZ hown (own_hw hw 66) e1 (Ins.self pr5) (g := (mkF m 8 #[oR ap, oR aq, .unset] [(.ref aq)])) rfl rfl (hb hby d12_8)
  refine own_go (st' := T3.setTop (mkF m 11 #[oR ap, oR aq, .unset] [(.ref aq)])) (st3) ?_
  refine own_go (st' := T3.setTop (mkF m 12 #[oR ap, oR aq, oR aq] [])) (fun _ k => XS.astoreN X3.here hx rfl (hb hby d12_11) rfl rfl (l' := #[oR ap, oR aq, oR aq]) rfl k) ?_
  refine own_go (st' := T3.setTop (mkF m 13 #[oR ap, oR aq, oR aq] [(.ref ap)])) (fun _ k => XS.aloadN X3.here hx rfl (hb hby d12_12) rfl rfl k) ?_
  obtain ⟨T4, X4, e4, st4⟩ := getF X3 hx hZ hown (host := "") (Or.inl (own_hw hw 59)) Via.refl e3 pr4 (g := (mkF m 13 #[oR ap, oR aq, oR aq] [(.ref ap)])) rfl rfl (hb hby d12_13)
  refine own_go (st' := T4.setTop (mkF m 16 #[oR ap, oR aq, oR aq] [(.int pn)])) (st4) ?_
  refine own_go (st' := T4.setTop (mkF m 17 #[oR ap, oR aq, oR aq] [(.ref aq), (.int pn)])) (fun _ k => XS.aloadN X4.here hx rfl (hb hby d12_16) rfl rfl k) ?_
  obtain ⟨T5, X5, e5, st5⟩ := getF X4 hx hZ hown (host := "") (Or.inl (own_hw hw 59)) Via.refl e4 pr7 (g := (mkF m 17 #[oR ap, oR aq, oR aq] [(.ref aq), (.int pn)])) rfl rfl (hb hby d12_17)
  refine own_go (st' := T5.setTop (mkF m 20 #[oR ap, oR aq, oR aq] [(.int pm), (.int pn)])) (st5) ?_
  by_cases hc6 : pn = pm
  · --
    refine own_go (st' := T5.setTop (mkF m 23 #[oR ap, oR aq, oR aq] [])) (fun _ k => XS.icmpNo X5.here hx rfl (hb hby d12_20) rfl (teq hc6).2 k) ?_
    refine own_go (st' := T5.setTop (mkF m 24 #[oR ap, oR aq, oR aq] [(.ref ap)])) (fun _ k => XS.aloadN X5.here hx rfl (hb hby d12_23) rfl rfl k) ?_
    obtain ⟨T7, X7, e7, st7⟩ := getF X5 hx hZ hown (host := "") (Or.inl (own_hw hw 57)) Via.refl e5 pr3 (g := (mkF m 24 #[oR ap, oR aq, oR aq] [(.ref ap)])) rfl rfl (hb hby d12_24)
    refine own_go (st' := T7.setTop (mkF m 27 #[oR ap, oR aq, oR aq] [(.ref a1)])) (st7) ?_
    refine own_go (st' := T7.setTop (mkF m 28 #[oR ap, oR aq, oR aq] [(.ref aq), (.ref a1)])) (fun _ k => XS.aloadN X7.here hx rfl (hb hby d12_27) rfl rfl k) ?_
    obtain ⟨T8, X8, e8, st8⟩ := getF X7 hx hZ hown (host := "") (Or.inl (own_hw hw 57)) Via.refl e7 pr6 (g := (mkF m 28 #[oR ap, oR aq, oR aq] [(.ref aq), (.ref a1)])) rfl rfl (hb hby d12_28)
    refine own_go (st' := T8.setTop (mkF m 31 #[oR ap, oR aq, oR aq] [(.ref a2), (.ref a1)])) (st8) ?_
    obtain ⟨cq9, kq9, q9a, q9b, q9c⟩ := isOf hZ e8 pr9
    obtain ⟨_, _, ⟨T9, LC9, kC9, nC9⟩, -, X9, ⟨Lc9, hQ9, lq9, yq9, zq9⟩, st9⟩ := X8.virtualBack hx (y := oM1) (z := oM1) hown (mvT hZ (own_hw hw 68)) (mvT hZ (own_hw hw 69)) (notFace_of_selects (args := #[]) (mvT hZ (own_hw hw 71))) (mvT hZ (own_hw hw 71)) (mvT hZ (own_hw hw 70)) (by decide) (backOf (W := 0) (rse_11 l Z a0 hw [] a1 a2 zc ax ka ay kb w0 z0 h0 n0 (by omega) pr1 (by assumption) (own_ne (by omega)) pr9 pr10 pr11 pr12 pr13 pr14 pr15 pr16) hZ (own_hw hw 72) (own_hw hw 7) (by decide) (by decide)) q9a q9c (g := (mkF m 31 #[oR ap, oR aq, oR aq] [(.ref a2), (.ref a1)])) rfl (by rw [hml]; rfl) (Steps.refl _) (argsL := [(.ref a2)]) (rest := []) (lenOf pd_11 rfl) rfl (by show 2 * 0 + _ ≤ _; exact Nat.le_of_eq rfl) (hb hby d12_31) (fun _ _ => ⟨rfl, e8, (by decide : 0 + 0 ≤ _), (by decide : 0 + 0 ≤ _)⟩)
    dsimp only [Pt.U, Pt.locs, Pt.cells, Pt.slots] at X9 lq9 yq9 zq9 st9 hQ9
    subst lq9 yq9 zq9
    obtain ⟨rfl, Nq9, eq9⟩ := hQ9
    have N9 := Fr.app N0 Nq9
    refine own_go (st' := T9.setTop (mkF m 34 #[oR ap, oR aq, oR aq] [(.int (own_eq1 w0 z0))])) (fun _ k => st9.trans k) ?_
    by_cases hc10 : (own_eq1 w0 z0) = (0 : Int32)
    · --
      refine own_go (st' := T9.setTop (mkF m 41 #[oR ap, oR aq, oR aq] [])) (fun _ k => XS.ifYes X9.here hx rfl (pc0 := 34) (pc' := 41) rfl (hb hby d12_34) rfl ((if0 _ _).trans (teq hc10).1) (by decide) (by decide) k) ?_
      refine own_go (st' := T9.setTop (mkF m 42 #[oR ap, oR aq, oR aq] [(.int (0 : Int32))])) (fun _ k => XS.iconst X9.here hx rfl (hb hby d12_41) k) ?_
      obtain ⟨fs, hr, hrun, hended, hW, hsame⟩ := X9.leave (v := some (.int (0 : Int32))) (fun h => by rw [Bd.returns] at h; cases h)
      refine ⟨_, _, ?_, hP _ _ hrun hended ⟨_, _, rfl, ?_, ⟨_, rfl⟩, hW, hsame.mono (by decide) (by decide)⟩⟩
      · exact retN X9 hx (t := .boolean) Bd.returns (by simp) (hb hby d12_42) hr
      · show Qrte_11 Z ap aq a1 a2 pn pm zc ax ka ay kb w0 z0 h0 n0 _ T9.heap _
        rw [eq9]
        exact ⟨(by unfold own_tp; rw [if_pos hc6, hc10]), N9, rfl⟩
    · --
      refine own_go (st' := T9.setTop (mkF m 37 #[oR ap, oR aq, oR aq] [])) (fun _ k => XS.ifNo X9.here hx rfl (hb hby d12_34) rfl ((if0 _ _).trans (feq hc10).1) k) ?_
      refine own_go (st' := T9.setTop (mkF m 38 #[oR ap, oR aq, oR aq] [(.int (1 : Int32))])) (fun _ k => XS.iconst X9.here hx rfl (hb hby d12_37) k) ?_
      refine own_go (st' := T9.setTop (mkF m 42 #[oR ap, oR aq, oR aq] [(.int (1 : Int32))])) (fun _ k => XS.goto X9.here hx rfl (pc0 := 38) (pc' := 42) rfl (hb hby d12_38) (by decide) (by decide) k) ?_
      obtain ⟨fs, hr, hrun, hended, hW, hsame⟩ := X9.leave (v := some (.int (1 : Int32))) (fun h => by rw [Bd.returns] at h; cases h)
      refine ⟨_, _, ?_, hP _ _ hrun hended ⟨_, _, rfl, ?_, ⟨_, rfl⟩, hW, hsame.mono (by decide) (by decide)⟩⟩
      · exact retN X9 hx (t := .boolean) Bd.returns (by simp) (hb hby d12_42) hr
      · show Qrte_11 Z ap aq a1 a2 pn pm zc ax ka ay kb w0 z0 h0 n0 _ T9.heap _
        rw [eq9]
        exact ⟨(by unfold own_tp; rw [if_pos hc6, own_eq1_one hc10]), N9, rfl⟩
  · --
    refine own_go (st' := T5.setTop (mkF m 41 #[oR ap, oR aq, oR aq] [])) (fun _ k => XS.icmpYes X5.here hx rfl (pc0 := 20) (pc' := 41) rfl (hb hby d12_20) rfl (feq hc6).2 (by decide) (by decide) k) ?_
    refine own_go (st' := T5.setTop (mkF m 42 #[oR ap, oR aq, oR aq] [(.int (0 : Int32))])) (fun _ k => XS.iconst X5.here hx rfl (hb hby d12_41) k) ?_
    obtain ⟨fs, hr, hrun, hended, hW, hsame⟩ := X5.leave (v := some (.int (0 : Int32))) (fun h => by rw [Bd.returns] at h; cases h)
    refine ⟨_, _, ?_, hP _ _ hrun hended ⟨_, _, rfl, ?_, ⟨_, rfl⟩, hW, hsame.mono (by decide) (by decide)⟩⟩
    · exact retN X5 hx (t := .boolean) Bd.returns (by simp) (hb hby d12_42) hr
    · show Qrte_11 Z ap aq a1 a2 pn pm zc ax ka ay kb w0 z0 h0 n0 _ T5.heap _
      rw [e5]
      exact ⟨(by unfold own_tp; rw [if_neg hc6]), N0, rfl⟩
theorem ef_rte_12 (m : MethodId) (x0 : Addr) (x1 : Addr) : entryFrame m #[(.ref x0), (.ref x1)] 3 = mkF m 0 #[.val (.ref x0), .val (.ref x1), .unset] [] := by first | (simp [entryFrame, mkF, argsToLocals, Value.category]; done) | rfl
def Qrte_12 (Z : State) (ap : Addr) (aq : Addr) (a1 : Addr) (a2 : Addr) (pn : Int32) (pm : Int32) (zc : Int32) (ax : Addr) (ka : ClassId) (ay : Addr) (kb : ClassId) (w0 : Int32) (z0 : Int32) (z1 : Int32) (h0 : Heap) (n0 : Nat) (v : Option Value) (h : Heap) (L : List Loc) : Prop := (v = some (.int (own_tp pn pm (0 : Int32)))) ∧ (Fr n0 L) ∧ (h = h0)
set_option maxRecDepth 65536 in
set_option maxHeartbeats 40000000 in
theorem rte_12 (l : Launch) (Z : State) (a0 : Array Value) (hw : ∀ d ∈ tables_1, d.before a0 Z = true) (ws : List Jvm.Cond) (ap : Addr) (aq : Addr) (a1 : Addr) (a2 : Addr) (pn : Int32) (pm : Int32) (zc : Int32) (ax : Addr) (ka : ClassId) (ay : Addr) (kb : ClassId) (w0 : Int32) (z0 : Int32) (z1 : Int32) (h0 : Heap) (n0 : Nat) (Z0 : n0 ≤ h0.size) (pr1 : Sta Z h0 "java/lang/String" "COMPACT_STRINGS" "Z" (.int zc)) (hzc : ¬ zc = (0 : Int32)) (pr2 : Exa Z h0 ap "com/example/limpet/limpet/TopicPartition") (pr3 : Fld Z h0 ap "com/example/limpet/limpet/TopicPartition" "topic" "Ljava/lang/String;" (.ref a1)) (pr4 : Fld Z h0 ap "com/example/limpet/limpet/TopicPartition" "number" "I" (.int pn)) (pr5 : Exa Z h0 aq "com/example/limpet/limpet/TopicPartition") (pr6 : Fld Z h0 aq "com/example/limpet/limpet/TopicPartition" "topic" "Ljava/lang/String;" (.ref a2)) (pr7 : Fld Z h0 aq "com/example/limpet/limpet/TopicPartition" "number" "I" (.int pm)) (pr8 : @Ne Nat a1 a2) (pr9 : Exa Z h0 a1 "java/lang/String") (pr10 : Fld Z h0 a1 "java/lang/String" "value" "[B" (.ref ax)) (pr11 : Fld Z h0 a1 "java/lang/String" "coder" "B" (.int (0 : Int32))) (pr12 : Exa Z h0 a2 "java/lang/String") (pr13 : Fld Z h0 a2 "java/lang/String" "value" "[B" (.ref ay)) (pr14 : Fld Z h0 a2 "java/lang/String" "coder" "B" (.int (0 : Int32))) (pr15 : Arv Z h0 ax ka .byte (1 : Int32) [(.int w0)] (.int (0 : Int32))) (pr16 : Arv Z h0 ay kb .byte (2 : Int32) [(.int z0), (.int z1)] (.int (0 : Int32))) :
    MetFree l oM0 (head1 (Jvm.Cond.code oM0 prog_38_method_8_code 3 (some .boolean) :: ws) ({ frames := 2, cells := 0, slots := 0, locals := 28 } : Room)) (fun a U => a = #[(.ref ap), (.ref aq)] ∧ Z.Warmed39 U.vm ∧ U.heap = h0) (fun _ _ _ _ _ => True) (fun _ U o U' => ∃ v L, o = .returned v ∧ Qrte_12 Z ap aq a1 a2 pn pm zc ax ka ay kb w0 z0 z1 h0 n0 v U'.heap L ∧ FrameEnd U o U' L ({ frames := 2, cells := 0, slots := 0, locals := 28 } : Room).cells ({ frames := 2, cells := 0, slots := 0, locals := 28 } : Room).slots) := by
  refine MetFree.of_bodySF (plainFor_of_name pn_12) hisR ?_
  intro p e s m args below meth c s₁ Bd hml0 hP0 hK
  obtain ⟨rfl, hZ, hh⟩ := hP0
  have hx := Bd.exec
  have hby := Bd.bytes
  have hml : c.maxLocals = 3 := hml0
  have hown : s.vm.findClass oS1 = some m.cls := findClass_of_methodNamed Bd.named
  have hnm := (name_of_methodNamed Bd.named Bd.method).1
  have X0 : Stand p l e ({ frames := 2, cells := 0, slots := 0, locals := 28 } : Room) s m #[(.ref ap), (.ref aq)] below meth c s₁ [] 0 0 := Stand.of_body Bd
  have e0 : s₁.heap = h0 := by rw [← hh, Bd.state]; rfl
  have N0 := Fr.nil n0
  suffices own_H : ∀ (P : State → Outcome → Prop), (∀ U o, U.status = .running → Ended U below o → (∃ v L, o = .returned v ∧ Qrte_12 Z ap aq a1 a2 pn pm zc ax ka ay kb w0 z0 z1 h0 n0 v U.heap L ∧ FrameEnd s o U L ({ frames := 2, cells := 0, slots := 0, locals := 28 } : Room).cells ({ frames := 2, cells := 0, slots := 0, locals := 28 } : Room).slots) → P U o) → own_Go p.tables e below P (s₁.setTop (mkF m 0 #[oR ap, oR aq, .unset] [])) from own_go (fun _ k => castTop (ef_rte_12 m ap aq) k) (own_H _ (fun U o h1 h2 h3 => ⟨h1, h2, h3⟩))
  intro P hP
  have lt_ap : @LT.lt Nat _ ap h0.size := pr2.lt
  have lt_aq : @LT.lt Nat _ aq h0.size := pr5.lt
  have lt_a1 : @LT.lt Nat _ a1 h0.size := pr9.lt
  have lt_a2 : @LT.lt Nat _ a2 h0.size := pr12.lt
  have lt_ax : @LT.lt Nat _ ax h0.size := pr15.lt
  have lt_ay : @LT.lt Nat _ ay h0.size := pr16.lt
  refine own_go (st' := s₁.setTop (mkF m 1 #[oR ap, oR aq, .unset] [(.ref aq)])) (fun _ k => XS.aloadN X0.here hx rfl (hb hby d12_0) rfl rfl k) ?_
  obtain ⟨T1, X1, e1, st1⟩ := instY X0 hx hZ hown (own_hw hw 66) e0 (Ins.self pr5) (g := (mkF m 1 #[oR ap, oR aq, .unset] [(.ref aq)])) rfl rfl (hb hby d12_1)
  refine own_go (st' := T1.setTop (mkF m 4 #[oR ap, oR aq, .unset] [(.int (1 : Int32))])) (st1) ?_
  have hc2 : ¬ ((1 : Int32) = (0 : Int32)) := by decide
  refine own_go (st' := T1.setTop (mkF m 7 #[oR ap, oR aq, .unset] [])) (fun _ k => XS.ifNo X1.here hx rfl (hb hby d12_4) rfl ((if0 _ _).trans (feq hc2).1) k) ?_
  refine own_go (st' := T1.setTop (mkF m 8 #[oR ap, oR aq, .unset] [(.ref aq)])) (fun _ k => XS.aloadN X1.here hx rfl (hb hby d12_7) rfl rfl k) ?_
  obtain ⟨T3, X3, e3, st3⟩ := castY X1 hx hZ hown (own_hw hw 66) e1 (Ins.self pr5) (g := (mkF m 8 #[oR ap, oR aq, .unset] [(.ref aq)])) rfl rfl (hb hby d12_8)
  refine own_go (st' := T3.setTop (mkF m 11 #[oR ap, oR aq, .unset] [(.ref aq)])) (st3) ?_
  refine own_go (st' := T3.setTop (mkF m 12 #[oR ap, oR aq, oR aq] [])) (fun _ k => XS.astoreN X3.here hx rfl (hb hby d12_11) rfl rfl (l' := #[oR ap, oR aq, oR aq]) rfl k) ?_
  refine own_go (st' := T3.setTop (mkF m 13 #[oR ap, oR aq, oR aq] [(.ref ap)])) (fun _ k => XS.aloadN X3.here hx rfl (hb hby d12_12) rfl rfl k) ?_
  obtain ⟨T4, X4, e4, st4⟩ := getF X3 hx hZ hown (host := "") (Or.inl (own_hw hw 59)) Via.refl e3 pr4 (g := (mkF m 13 #[oR ap, oR aq, oR aq] [(.ref ap)])) rfl rfl (hb hby d12_13)
  refine own_go (st' := T4.setTop (mkF m 16 #[oR ap, oR aq, oR aq] [(.int pn)])) (st4) ?_
  refine own_go (st' := T4.setTop (mkF m 17 #[oR ap, oR aq, oR aq] [(.ref aq), (.int pn)])) (fun _ k => XS.aloadN X4.here hx rfl (hb hby d12_16) rfl rfl k) ?_
  obtain ⟨T5, X5, e5, st5⟩ := getF X4 hx hZ hown (host := "") (Or.inl (own_hw hw 59)) Via.refl e4 pr7 (g := (mkF m 17 #[oR ap, oR aq, oR aq] [(.ref aq), (.int pn)])) rfl rfl (hb hby d12_17)
  refine own_go (st' := T5.setTop (mkF m 20 #[oR ap, oR aq, oR aq] [(.int pm), (.int pn)])) (st5) ?_
  by_cases hc6 : pn = pm
  · --
    refine own_go (st' := T5.setTop (mkF m 23 #[oR ap, oR aq, oR aq] [])) (fun _ k => XS.icmpNo X5.here hx rfl (hb hby d12_20) rfl (teq hc6).2 k) ?_
    refine own_go (st' := T5.setTop (mkF m 24 #[oR ap, oR aq, oR aq] [(.ref ap)])) (fun _ k => XS.aloadN X5.here hx rfl (hb hby d12_23) rfl rfl k) ?_
    obtain ⟨T7, X7, e7, st7⟩ := getF X5 hx hZ hown (host := "") (Or.inl (own_hw hw 57)) Via.refl e5 pr3 (g := (mkF m 24 #[oR ap, oR aq, oR aq] [(.ref ap)])) rfl rfl (hb hby d12_24)
    refine own_go (st' := T7.setTop (mkF m 27 #[oR ap, oR aq, oR aq] [(.ref a1)])) (st7) ?_
    refine own_go (st' := T7.setTop (mkF m 28 #[oR ap, oR aq, oR aq] [(.ref aq), (.ref a1)])) (fun _ k => XS.aloadN X7.here hx rfl (hb hby d12_27) rfl rfl k) ?_
    obtain ⟨T8, X8, e8, st8⟩ := getF X7 hx hZ hown (host := "") (Or.inl (own_hw hw 57)) Via.refl e7 pr6 (g := (mkF m 28 #[oR ap, oR aq, oR aq] [(.ref aq), (.ref a1)])) rfl rfl (hb hby d12_28)
    refine own_go (st' := T8.setTop (mkF m 31 #[oR ap, oR aq, oR aq] [(.ref a2), (.ref a1)])) (st8) ?_
    obtain ⟨cq9, kq9, q9a, q9b, q9c⟩ := isOf hZ e8 pr9
    obtain ⟨_, _, ⟨T9, LC9, kC9, nC9⟩, -, X9, ⟨Lc9, hQ9, lq9, yq9, zq9⟩, st9⟩ := X8.virtualBack hx (y := oM1) (z := oM1) hown (mvT hZ (own_hw hw 68)) (mvT hZ (own_hw hw 69)) (notFace_of_selects (args := #[]) (mvT hZ (own_hw hw 71))) (mvT hZ (own_hw hw 71)) (mvT hZ (own_hw hw 70)) (by decide) (backOf (W := 0) (rse_12 l Z a0 hw [] a1 a2 zc ax ka ay kb w0 z0 z1 h0 n0 (by omega) pr1 (by assumption) (own_ne (by omega)) pr9 pr10 pr11 pr12 pr13 pr14 pr15 pr16) hZ (own_hw hw 72) (own_hw hw 7) (by decide) (by decide)) q9a q9c (g := (mkF m 31 #[oR ap, oR aq, oR aq] [(.ref a2), (.ref a1)])) rfl (by rw [hml]; rfl) (Steps.refl _) (argsL := [(.ref a2)]) (rest := []) (lenOf pd_11 rfl) rfl (by show 2 * 0 + _ ≤ _; exact Nat.le_of_eq rfl) (hb hby d12_31) (fun _ _ => ⟨rfl, e8, (by decide : 0 + 0 ≤ _), (by decide : 0 + 0 ≤ _)⟩)
    dsimp only [Pt.U, Pt.locs, Pt.cells, Pt.slots] at X9 lq9 yq9 zq9 st9 hQ9
    subst lq9 yq9 zq9
    obtain ⟨rfl, Nq9, eq9⟩ := hQ9
    have N9 := Fr.app N0 Nq9
    refine own_go (st' := T9.setTop (mkF m 34 #[oR ap, oR aq, oR aq] [(.int (0 : Int32))])) (fun _ k => st9.trans k) ?_
    have hc10 : (0 : Int32) = (0 : Int32) := by decide
    refine own_go (st' := T9.setTop (mkF m 41 #[oR ap, oR aq, oR aq] [])) (fun _ k => XS.ifYes X9.here hx rfl (pc0 := 34) (pc' := 41) rfl (hb hby d12_34) rfl ((if0 _ _).trans (teq hc10).1) (by decide) (by decide) k) ?_
    refine own_go (st' := T9.setTop (mkF m 42 #[oR ap, oR aq, oR aq] [(.int (0 : Int32))])) (fun _ k => XS.iconst X9.here hx rfl (hb hby d12_41) k) ?_
    obtain ⟨fs, hr, hrun, hended, hW, hsame⟩ := X9.leave (v := some (.int (0 : Int32))) (fun h => by rw [Bd.returns] at h; cases h)
    refine ⟨_, _, ?_, hP _ _ hrun hended ⟨_, _, rfl, ?_, ⟨_, rfl⟩, hW, hsame.mono (by decide) (by decide)⟩⟩
    · exact retN X9 hx (t := .boolean) Bd.returns (by simp) (hb hby d12_42) hr
    · show Qrte_12 Z ap aq a1 a2 pn pm zc ax ka ay kb w0 z0 z1 h0 n0 _ T9.heap _
      rw [eq9]
      exact ⟨(by unfold own_tp; rw [if_pos hc6]), N9, rfl⟩
  · --
    refine own_go (st' := T5.setTop (mkF m 41 #[oR ap, oR aq, oR aq] [])) (fun _ k => XS.icmpYes X5.here hx rfl (pc0 := 20) (pc' := 41) rfl (hb hby d12_20) rfl (feq hc6).2 (by decide) (by decide) k) ?_
    refine own_go (st' := T5.setTop (mkF m 42 #[oR ap, oR aq, oR aq] [(.int (0 : Int32))])) (fun _ k => XS.iconst X5.here hx rfl (hb hby d12_41) k) ?_
    obtain ⟨fs, hr, hrun, hended, hW, hsame⟩ := X5.leave (v := some (.int (0 : Int32))) (fun h => by rw [Bd.returns] at h; cases h)
    refine ⟨_, _, ?_, hP _ _ hrun hended ⟨_, _, rfl, ?_, ⟨_, rfl⟩, hW, hsame.mono (by decide) (by decide)⟩⟩
    · exact retN X5 hx (t := .boolean) Bd.returns (by simp) (hb hby d12_42) hr
    · show Qrte_12 Z ap aq a1 a2 pn pm zc ax ka ay kb w0 z0 z1 h0 n0 _ T5.heap _
      rw [e5]
      exact ⟨(by unfold own_tp; rw [if_neg hc6]), N0, rfl⟩
theorem ef_rte_21 (m : MethodId) (x0 : Addr) (x1 : Addr) : entryFrame m #[(.ref x0), (.ref x1)] 3 = mkF m 0 #[.val (.ref x0), .val (.ref x1), .unset] [] := by first | (simp [entryFrame, mkF, argsToLocals, Value.category]; done) | rfl
def Qrte_21 (Z : State) (ap : Addr) (aq : Addr) (a1 : Addr) (a2 : Addr) (pn : Int32) (pm : Int32) (zc : Int32) (ax : Addr) (ka : ClassId) (ay : Addr) (kb : ClassId) (w0 : Int32) (w1 : Int32) (z0 : Int32) (h0 : Heap) (n0 : Nat) (v : Option Value) (h : Heap) (L : List Loc) : Prop := (v = some (.int (own_tp pn pm (0 : Int32)))) ∧ (Fr n0 L) ∧ (h = h0)
set_option maxRecDepth 65536 in
set_option maxHeartbeats 40000000 in
theorem rte_21 (l : Launch) (Z : State) (a0 : Array Value) (hw : ∀ d ∈ tables_1, d.before a0 Z = true) (ws : List Jvm.Cond) (ap : Addr) (aq : Addr) (a1 : Addr) (a2 : Addr) (pn : Int32) (pm : Int32) (zc : Int32) (ax : Addr) (ka : ClassId) (ay : Addr) (kb : ClassId) (w0 : Int32) (w1 : Int32) (z0 : Int32) (h0 : Heap) (n0 : Nat) (Z0 : n0 ≤ h0.size) (pr1 : Sta Z h0 "java/lang/String" "COMPACT_STRINGS" "Z" (.int zc)) (hzc : ¬ zc = (0 : Int32)) (pr2 : Exa Z h0 ap "com/example/limpet/limpet/TopicPartition") (pr3 : Fld Z h0 ap "com/example/limpet/limpet/TopicPartition" "topic" "Ljava/lang/String;" (.ref a1)) (pr4 : Fld Z h0 ap "com/example/limpet/limpet/TopicPartition" "number" "I" (.int pn)) (pr5 : Exa Z h0 aq "com/example/limpet/limpet/TopicPartition") (pr6 : Fld Z h0 aq "com/example/limpet/limpet/TopicPartition" "topic" "Ljava/lang/String;" (.ref a2)) (pr7 : Fld Z h0 aq "com/example/limpet/limpet/TopicPartition" "number" "I" (.int pm)) (pr8 : @Ne Nat a1 a2) (pr9 : Exa Z h0 a1 "java/lang/String") (pr10 : Fld Z h0 a1 "java/lang/String" "value" "[B" (.ref ax)) (pr11 : Fld Z h0 a1 "java/lang/String" "coder" "B" (.int (0 : Int32))) (pr12 : Exa Z h0 a2 "java/lang/String") (pr13 : Fld Z h0 a2 "java/lang/String" "value" "[B" (.ref ay)) (pr14 : Fld Z h0 a2 "java/lang/String" "coder" "B" (.int (0 : Int32))) (pr15 : Arv Z h0 ax ka .byte (2 : Int32) [(.int w0), (.int w1)] (.int (0 : Int32))) (pr16 : Arv Z h0 ay kb .byte (1 : Int32) [(.int z0)] (.int (0 : Int32))) :
    MetFree l oM0 (head1 (Jvm.Cond.code oM0 prog_38_method_8_code 3 (some .boolean) :: ws) ({ frames := 2, cells := 0, slots := 0, locals := 28 } : Room)) (fun a U => a = #[(.ref ap), (.ref aq)] ∧ Z.Warmed39 U.vm ∧ U.heap = h0) (fun _ _ _ _ _ => True) (fun _ U o U' => ∃ v L, o = .returned v ∧ Qrte_21 Z ap aq a1 a2 pn pm zc ax ka ay kb w0 w1 z0 h0 n0 v U'.heap L ∧ FrameEnd U o U' L ({ frames := 2, cells := 0, slots := 0, locals := 28 } : Room).cells ({ frames := 2, cells := 0, slots := 0, locals := 28 } : Room).slots) := by
  refine MetFree.of_bodySF (plainFor_of_name pn_12) hisR ?_
  intro p e s m args below meth c s₁ Bd hml0 hP0 hK
  obtain ⟨rfl, hZ, hh⟩ := hP0
  have hx := Bd.exec
  have hby := Bd.bytes
  have hml : c.maxLocals = 3 := hml0
  have hown : s.vm.findClass oS1 = some m.cls := findClass_of_methodNamed Bd.named
  have hnm := (name_of_methodNamed Bd.named Bd.method).1
  have X0 : Stand p l e ({ frames := 2, cells := 0, slots := 0, locals := 28 } : Room) s m #[(.ref ap), (.ref aq)] below meth c s₁ [] 0 0 := Stand.of_body Bd
  have e0 : s₁.heap = h0 := by rw [← hh, Bd.state]; rfl
  have N0 := Fr.nil n0
  suffices own_H : ∀ (P : State → Outcome → Prop), (∀ U o, U.status = .running → Ended U below o → (∃ v L, o = .returned v ∧ Qrte_21 Z ap aq a1 a2 pn pm zc ax ka ay kb w0 w1 z0 h0 n0 v U.heap L ∧ FrameEnd s o U L ({ frames := 2, cells := 0, slots := 0, locals := 28 } : Room).cells ({ frames := 2, cells := 0, slots := 0, locals := 28 } : Room).slots) → P U o) → own_Go p.tables e below P (s₁.setTop (mkF m 0 #[oR ap, oR aq, .unset] [])) from own_go (fun _ k => castTop (ef_rte_21 m ap aq) k) (own_H _ (fun U o h1 h2 h3 => ⟨h1, h2, h3⟩))
  intro P hP
  have lt_ap : @LT.lt Nat _ ap h0.size := pr2.lt
  have lt_aq : @LT.lt Nat _ aq h0.size := pr5.lt
  have lt_a1 : @LT.lt Nat _ a1 h0.size := pr9.lt
  have lt_a2 : @LT.lt Nat _ a2 h0.size := pr12.lt
  have lt_ax : @LT.lt Nat _ ax h0.size := pr15.lt
  have lt_ay : @LT.lt Nat _ ay h0.size := pr16.lt
  refine own_go (st' := s₁.setTop (mkF m 1 #[oR ap, oR aq, .unset] [(.ref aq)])) (fun _ k => XS.aloadN X0.here hx rfl (hb hby d12_0) rfl rfl k) ?_
  obtain ⟨T1, X1, e1, st1⟩ := instY X0 hx hZ hown (own_hw hw 66) e0 (Ins.self pr5) (g := (mkF m 1 #[oR ap, oR aq, .unset] [(.ref aq)])) rfl rfl (hb hby d12_1)
  refine own_go (st' := T1.setTop (mkF m 4 #[oR ap, oR aq, .unset] [(.int (1 : Int32))])) (st1) ?_
  have hc2 : ¬ ((1 : Int32) = (0 : Int32)) := by decide
  refine own_go (st' := T1.setTop (mkF m 7 #[oR ap, oR aq, .unset] [])) (fun _ k => XS.ifNo X1.here hx rfl (hb hby d12_4) rfl ((if0 _ _).trans (feq hc2).1) k) ?_
  refine own_go (st' := T1.setTop (mkF m 8 #[oR ap, oR aq, .unset] [(.ref aq)])) (fun _ k => XS.aloadN X1.here hx rfl (hb hby d12_7) rfl rfl k) ?_
  obtain ⟨T3, X3, e3, st3⟩ := castY X1 hx hZ hown (own_hw hw 66) e1 (Ins.self pr5) (g := (mkF m 8 #[oR ap, oR aq, .unset] [(.ref aq)])) rfl rfl (hb hby d12_8)
  refine own_go (st' := T3.setTop (mkF m 11 #[oR ap, oR aq, .unset] [(.ref aq)])) (st3) ?_
  refine own_go (st' := T3.setTop (mkF m 12 #[oR ap, oR aq, oR aq] [])) (fun _ k => XS.astoreN X3.here hx rfl (hb hby d12_11) rfl rfl (l' := #[oR ap, oR aq, oR aq]) rfl k) ?_
  refine own_go (st' := T3.setTop (mkF m 13 #[oR ap, oR aq, oR aq] [(.ref ap)])) (fun _ k => XS.aloadN X3.here hx rfl (hb hby d12_12) rfl rfl k) ?_
  obtain ⟨T4, X4, e4, st4⟩ := getF X3 hx hZ hown (host := "") (Or.inl (own_hw hw 59)) Via.refl e3 pr4 (g := (mkF m 13 #[oR ap, oR aq, oR aq] [(.ref ap)])) rfl rfl (hb hby d12_13)
  refine own_go (st' := T4.setTop (mkF m 16 #[oR ap, oR aq, oR aq] [(.int pn)])) (st4) ?_
  refine own_go (st' := T4.setTop (mkF m 17 #[oR ap, oR aq, oR aq] [(.ref aq), (.int pn)])) (fun _ k => XS.aloadN X4.here hx rfl (hb hby d12_16) rfl rfl k) ?_
  obtain ⟨T5, X5, e5, st5⟩ := getF X4 hx hZ hown (host := "") (Or.inl (own_hw hw 59)) Via.refl e4 pr7 (g := (mkF m 17 #[oR ap, oR aq, oR aq] [(.ref aq), (.int pn)])) rfl rfl (hb hby d12_17)
  refine own_go (st' := T5.setTop (mkF m 20 #[oR ap, oR aq, oR aq] [(.int pm), (.int pn)])) (st5) ?_
  by_cases hc6 : pn = pm
  · --
    refine own_go (st' := T5.setTop (mkF m 23 #[oR ap, oR aq, oR aq] [])) (fun _ k => XS.icmpNo X5.here hx rfl (hb hby d12_20) rfl (teq hc6).2 k) ?_
    refine own_go (st' := T5.setTop (mkF m 24 #[oR ap, oR aq, oR aq] [(.ref ap)])) (fun _ k => XS.aloadN X5.here hx rfl (hb hby d12_23) rfl rfl k) ?_
    obtain ⟨T7, X7, e7, st7⟩ := getF X5 hx hZ hown (host := "") (Or.inl (own_hw hw 57)) Via.refl e5 pr3 (g := (mkF m 24 #[oR ap, oR aq, oR aq] [(.ref ap)])) rfl rfl (hb hby d12_24)
    refine own_go (st' := T7.setTop (mkF m 27 #[oR ap, oR aq, oR aq] [(.ref a1)])) (st7) ?_
    refine own_go (st' := T7.setTop (mkF m 28 #[oR ap, oR aq, oR aq] [(.ref aq), (.ref a1)])) (fun _ k => XS.aloadN X7.here hx rfl (hb hby d12_27) rfl rfl k) ?_
    obtain ⟨T8, X8, e8, st8⟩ := getF X7 hx hZ hown (host := "") (Or.inl (own_hw hw 57)) Via.refl e7 pr6 (g := (mkF m 28 #[oR ap, oR aq, oR aq] [(.ref aq), (.ref a1)])) rfl rfl (hb hby d12_28)
    refine own_go (st' := T8.setTop (mkF m 31 #[oR ap, oR aq, oR aq] [(.ref a2), (.ref a1)])) (st8) ?_
    obtain ⟨cq9, kq9, q9a, q9b, q9c⟩ := isOf hZ e8 pr9
    obtain ⟨_, _, ⟨T9, LC9, kC9, nC9⟩, -, X9, ⟨Lc9, hQ9, lq9, yq9, zq9⟩, st9⟩ := X8.virtualBack hx (y := oM1) (z := oM1) hown (mvT hZ (own_hw hw 68)) (mvT hZ (own_hw hw 69)) (notFace_of_selects (args := #[]) (mvT hZ (own_hw hw 71))) (mvT hZ (own_hw hw 71)) (mvT hZ (own_hw hw 70)) (by decide) (backOf (W := 0) (rse_21 l Z a0 hw [] a1 a2 zc ax ka ay kb w0 w1 z0 h0 n0 (by omega) pr1 (by assumption) (own_ne (by omega)) pr9 pr10 pr11 pr12 pr13 pr14 pr15 pr16) hZ (own_hw hw 72) (own_hw hw 7) (by decide) (by decide)) q9a q9c (g := (mkF m 31 #[oR ap, oR aq, oR aq] [(.ref a2), (.ref a1)])) rfl (by rw [hml]; rfl) (Steps.refl _) (argsL := [(.ref a2)]) (rest := []) (lenOf pd_11 rfl) rfl (by show 2 * 0 + _ ≤ _; exact Nat.le_of_eq rfl) (hb hby d12_31) (fun _ _ => ⟨rfl, e8, (by decide : 0 + 0 ≤ _), (by decide : 0 + 0 ≤ _)⟩)
    dsimp only [Pt.U, Pt.locs, Pt.cells, Pt.slots] at X9 lq9 yq9 zq9 st9 hQ9
    subst lq9 yq9 zq9
    obtain ⟨rfl, Nq9, eq9⟩ := hQ9
    have N9 := Fr.app N0 Nq9
    refine own_go (st' := T9.setTop (mkF m 34 #[oR ap, oR aq, oR aq] [(.int (0 : Int32))])) (fun _ k => st9.trans k) ?_
    have hc10 : (0 : Int32) = (0 : Int32) := by decide
    refine own_go (st' := T9.setTop (mkF m 41 #[oR ap, oR aq, oR aq] [])) (fun _ k => XS.ifYes X9.here hx rfl (pc0 := 34) (pc' := 41) rfl (hb hby d12_34) rfl ((if0 _ _).trans (teq hc10).1) (by decide) (by decide) k) ?_
    refine own_go (st' := T9.setTop (mkF m 42 #[oR ap, oR aq, oR aq] [(.int (0 : Int32))])) (fun _ k => XS.iconst X9.here hx rfl (hb hby d12_41) k) ?_
    obtain ⟨fs, hr, hrun, hended, hW, hsame⟩ := X9.leave (v := some (.int (0 : Int32))) (fun h => by rw [Bd.returns] at h; cases h)
    refine ⟨_, _, ?_, hP _ _ hrun hended ⟨_, _, rfl, ?_, ⟨_, rfl⟩, hW, hsame.mono (by decide) (by decide)⟩⟩
    · exact retN X9 hx (t := .boolean) Bd.returns (by simp) (hb hby d12_42) hr
    · show Qrte_21 Z ap aq a1 a2 pn pm zc ax ka ay kb w0 w1 z0 h0 n0 _ T9.heap _
      rw [eq9]
      exact ⟨(by unfold own_tp; rw [if_pos hc6]), N9, rfl⟩
  · --
    refine own_go (st' := T5.setTop (mkF m 41 #[oR ap, oR aq, oR aq] [])) (fun _ k => XS.icmpYes X5.here hx rfl (pc0 := 20) (pc' := 41) rfl (hb hby d12_20) rfl (feq hc6).2 (by decide) (by decide) k) ?_
    refine own_go (st' := T5.setTop (mkF m 42 #[oR ap, oR aq, oR aq] [(.int (0 : Int32))])) (fun _ k => XS.iconst X5.here hx rfl (hb hby d12_41) k) ?_
    obtain ⟨fs, hr, hrun, hended, hW, hsame⟩ := X5.leave (v := some (.int (0 : Int32))) (fun h => by rw [Bd.returns] at h; cases h)
    refine ⟨_, _, ?_, hP _ _ hrun hended ⟨_, _, rfl, ?_, ⟨_, rfl⟩, hW, hsame.mono (by decide) (by decide)⟩⟩
    · exact retN X5 hx (t := .boolean) Bd.returns (by simp) (hb hby d12_42) hr
    · show Qrte_21 Z ap aq a1 a2 pn pm zc ax ka ay kb w0 w1 z0 h0 n0 _ T5.heap _
      rw [e5]
      exact ⟨(by unfold own_tp; rw [if_neg hc6]), N0, rfl⟩
theorem ef_rte_22 (m : MethodId) (x0 : Addr) (x1 : Addr) : entryFrame m #[(.ref x0), (.ref x1)] 3 = mkF m 0 #[.val (.ref x0), .val (.ref x1), .unset] [] := by first | (simp [entryFrame, mkF, argsToLocals, Value.category]; done) | rfl
def Qrte_22 (Z : State) (ap : Addr) (aq : Addr) (a1 : Addr) (a2 : Addr) (pn : Int32) (pm : Int32) (zc : Int32) (ax : Addr) (ka : ClassId) (ay : Addr) (kb : ClassId) (w0 : Int32) (w1 : Int32) (z0 : Int32) (z1 : Int32) (h0 : Heap) (n0 : Nat) (v : Option Value) (h : Heap) (L : List Loc) : Prop := (v = some (.int (own_tp pn pm (own_eq2 w0 w1 z0 z1)))) ∧ (Fr n0 L) ∧ (h = h0)
set_option maxRecDepth 65536 in
set_option maxHeartbeats 40000000 in
theorem rte_22 (l : Launch) (Z : State) (a0 : Array Value) (hw : ∀ d ∈ tables_1, d.before a0 Z = true) (ws : List Jvm.Cond) (ap : Addr) (aq : Addr) (a1 : Addr) (a2 : Addr) (pn : Int32) (pm : Int32) (zc : Int32) (ax : Addr) (ka : ClassId) (ay : Addr) (kb : ClassId) (w0 : Int32) (w1 : Int32) (z0 : Int32) (z1 : Int32) (h0 : Heap) (n0 : Nat) (Z0 : n0 ≤ h0.size) (pr1 : Sta Z h0 "java/lang/String" "COMPACT_STRINGS" "Z" (.int zc)) (hzc : ¬ zc = (0 : Int32)) (pr2 : Exa Z h0 ap "com/example/limpet/limpet/TopicPartition") (pr3 : Fld Z h0 ap "com/example/limpet/limpet/TopicPartition" "topic" "Ljava/lang/String;" (.ref a1)) (pr4 : Fld Z h0 ap "com/example/limpet/limpet/TopicPartition" "number" "I" (.int pn)) (pr5 : Exa Z h0 aq "com/example/limpet/limpet/TopicPartition") (pr6 : Fld Z h0 aq "com/example/limpet/limpet/TopicPartition" "topic" "Ljava/lang/String;" (.ref a2)) (pr7 : Fld Z h0 aq "com/example/limpet/limpet/TopicPartition" "number" "I" (.int pm)) (pr8 : @Ne Nat a1 a2) (pr9 : Exa Z h0 a1 "java/lang/String") (pr10 : Fld Z h0 a1 "java/lang/String" "value" "[B" (.ref ax)) (pr11 : Fld Z h0 a1 "java/lang/String" "coder" "B" (.int (0 : Int32))) (pr12 : Exa Z h0 a2 "java/lang/String") (pr13 : Fld Z h0 a2 "java/lang/String" "value" "[B" (.ref ay)) (pr14 : Fld Z h0 a2 "java/lang/String" "coder" "B" (.int (0 : Int32))) (pr15 : Arv Z h0 ax ka .byte (2 : Int32) [(.int w0), (.int w1)] (.int (0 : Int32))) (pr16 : Arv Z h0 ay kb .byte (2 : Int32) [(.int z0), (.int z1)] (.int (0 : Int32))) :
    MetFree l oM0 (head1 (Jvm.Cond.code oM0 prog_38_method_8_code 3 (some .boolean) :: ws) ({ frames := 2, cells := 0, slots := 0, locals := 28 } : Room)) (fun a U => a = #[(.ref ap), (.ref aq)] ∧ Z.Warmed39 U.vm ∧ U.heap = h0) (fun _ _ _ _ _ => True) (fun _ U o U' => ∃ v L, o = .returned v ∧ Qrte_22 Z ap aq a1 a2 pn pm zc ax ka ay kb w0 w1 z0 z1 h0 n0 v U'.heap L ∧ FrameEnd U o U' L ({ frames := 2, cells := 0, slots := 0, locals := 28 } : Room).cells ({ frames := 2, cells := 0, slots := 0, locals := 28 } : Room).slots) := by
  refine MetFree.of_bodySF (plainFor_of_name pn_12) hisR ?_
  intro p e s m args below meth c s₁ Bd hml0 hP0 hK
  obtain ⟨rfl, hZ, hh⟩ := hP0
  have hx := Bd.exec
  have hby := Bd.bytes
  have hml : c.maxLocals = 3 := hml0
  have hown : s.vm.findClass oS1 = some m.cls := findClass_of_methodNamed Bd.named
  have hnm := (name_of_methodNamed Bd.named Bd.method).1
  have X0 : Stand p l e ({ frames := 2, cells := 0, slots := 0, locals := 28 } : Room) s m #[(.ref ap), (.ref aq)] below meth c s₁ [] 0 0 := Stand.of_body Bd
  have e0 : s₁.heap = h0 := by rw [← hh, Bd.state]; rfl
  have N0 := Fr.nil n0
  suffices own_H : ∀ (P : State → Outcome → Prop), (∀ U o, U.status = .running → Ended U below o → (∃ v L, o = .returned v ∧ Qrte_22 Z ap aq a1 a2 pn pm zc ax ka ay kb w0 w1 z0 z1 h0 n0 v U.heap L ∧ FrameEnd s o U L ({ frames := 2, cells := 0, slots := 0, locals := 28 } : Room).cells ({ frames := 2, cells := 0, slots := 0, locals := 28 } : Room).slots) → P U o) → own_Go p.tables e below P (s₁.setTop (mkF m 0 #[oR ap, oR aq, .unset] [])) from own_go (fun _ k => castTop (ef_rte_22 m ap aq) k) (own_H _ (fun U o h1 h2 h3 => ⟨h1, h2, h3⟩))
  intro P hP
  have lt_ap : @LT.lt Nat _ ap h0.size := pr2.lt
  have lt_aq : @LT.lt Nat _ aq h0.size := pr5.lt
  have lt_a1 : @LT.lt Nat _ a1 h0.size := pr9.lt
  have lt_a2 : @LT.lt Nat _ a2 h0.size := pr12.lt
  have lt_ax : @LT.lt Nat _ ax h0.size := pr15.lt
  have lt_ay : @LT.lt Nat _ ay h0.size := pr16.lt
  refine own_go (st' := s₁.setTop (mkF m 1 #[oR ap, oR aq, .unset] [(.ref aq)])) (fun _ k => XS.aloadN X0.here hx rfl (hb hby d12_0) rfl rfl k) ?_
  obtain ⟨T1, X1, e1, st1⟩ := instY X0 hx hZ hown (own_hw hw 66) e0 (Ins.self pr5) (g := (mkF m 1 #[oR ap, oR aq, .unset] [(.ref aq)])) rfl rfl (hb hby d12_1)
  refine own_go (st' := T1.setTop (mkF m 4 #[oR ap, oR aq, .unset] [(.int (1 : Int32))])) (st1) ?_
  have hc2 : ¬ ((1 : Int32) = (0 : Int32)) := by decide
  refine own_go (st' := T1.setTop (mkF m 7 #[oR ap, oR aq, .unset] [])) (fun _ k => XS.ifNo X1.here hx rfl (hb hby d12_4) rfl ((if0 _ _).trans (feq hc2).1) k) ?_
  refine own_go (st' := T1.setTop (mkF m 8 #[oR ap, oR aq, .unset] [(.ref aq)])) (fun _ k => XS.aloadN X1.here hx rfl (hb hby d12_7) rfl rfl k) ?_
  obtain ⟨T3, X3, e3, st3⟩ := castY X1 hx hZ hown (own_hw hw 66) e1 (Ins.self pr5) (g := (mkF m 8 #[oR ap, oR aq, .unset] [(.ref aq)])) rfl rfl (hb hby d12_8)
  refine own_go (st' := T3.setTop (mkF m 11 #[oR ap, oR aq, .unset] [(.ref aq)])) (st3) ?_
  refine own_go (st' := T3.setTop (mkF m 12 #[oR ap, oR aq, oR aq] [])) (fun _ k => XS.astoreN X3.here hx rfl (hb hby d12_11) rfl rfl (l' := #[oR ap, oR aq, oR aq]) rfl k) ?_
  refine own_go (st' := T3.setTop (mkF m 13 #[oR ap, oR aq, oR aq] [(.ref ap)])) (fun _ k => XS.aloadN X3.here hx rfl (hb hby d12_12) rfl rfl k) ?_
  obtain ⟨T4, X4, e4, st4⟩ := getF X3 hx hZ hown (host := "") (Or.inl (own_hw hw 59)) Via.refl e3 pr4 (g := (mkF m 13 #[oR ap, oR aq, oR aq] [(.ref ap)])) rfl rfl (hb hby d12_13)
  refine own_go (st' := T4.setTop (mkF m 16 #[oR ap, oR aq, oR aq] [(.int pn)])) (st4) ?_
  refine own_go (st' := T4.setTop (mkF m 17 #[oR ap, oR aq, oR aq] [(.ref aq), (.int pn)])) (fun _ k => XS.aloadN X4.here hx rfl (hb hby d12_16) rfl rfl k) ?_
  obtain ⟨T5, X5, e5, st5⟩ := getF X4 hx hZ hown (host := "") (Or.inl (own_hw hw 59)) Via.refl e4 pr7 (g := (mkF m 17 #[oR ap, oR aq, oR aq] [(.ref aq), (.int pn)])) rfl rfl (hb hby d12_17)
  refine own_go (st' := T5.setTop (mkF m 20 #[oR ap, oR aq, oR aq] [(.int pm), (.int pn)])) (st5) ?_
  by_cases hc6 : pn = pm
  · --
    refine own_go (st' := T5.setTop (mkF m 23 #[oR ap, oR aq, oR aq] [])) (fun _ k => XS.icmpNo X5.here hx rfl (hb hby d12_20) rfl (teq hc6).2 k) ?_
    refine own_go (st' := T5.setTop (mkF m 24 #[oR ap, oR aq, oR aq] [(.ref ap)])) (fun _ k => XS.aloadN X5.here hx rfl (hb hby d12_23) rfl rfl k) ?_
    obtain ⟨T7, X7, e7, st7⟩ := getF X5 hx hZ hown (host := "") (Or.inl (own_hw hw 57)) Via.refl e5 pr3 (g := (mkF m 24 #[oR ap, oR aq, oR aq] [(.ref ap)])) rfl rfl (hb hby d12_24)
    refine own_go (st' := T7.setTop (mkF m 27 #[oR ap, oR aq, oR aq] [(.ref a1)])) (st7) ?_
    refine own_go (st' := T7.setTop (mkF m 28 #[oR ap, oR aq, oR aq] [(.ref aq), (.ref a1)])) (fun _ k => XS.aloadN X7.here hx rfl (hb hby d12_27) rfl rfl k) ?_
    obtain ⟨T8, X8, e8, st8⟩ := getF X7 hx hZ hown (host := "") (Or.inl (own_hw hw 57)) Via.refl e7 pr6 (g := (mkF m 28 #[oR ap, oR aq, oR aq] [(.ref aq), (.ref a1)])) rfl rfl (hb hby d12_28)
    refine own_go (st' := T8.setTop (mkF m 31 #[oR ap, oR aq, oR aq] [(.ref a2), (.ref a1)])) (st8) ?_
    obtain ⟨cq9, kq9, q9a, q9b, q9c⟩ := isOf hZ e8 pr9
    obtain ⟨_, _, ⟨T9, LC9, kC9, nC9⟩, -, X9, ⟨Lc9, hQ9, lq9, yq9, zq9⟩, st9⟩ := X8.virtualBack hx (y := oM1) (z := oM1) hown (mvT hZ (own_hw hw 68)) (mvT hZ (own_hw hw 69)) (notFace_of_selects (args := #[]) (mvT hZ (own_hw hw 71))) (mvT hZ (own_hw hw 71)) (mvT hZ (own_hw hw 70)) (by decide) (backOf (W := 0) (rse_22 l Z a0 hw [] a1 a2 zc ax ka ay kb w0 w1 z0 z1 h0 n0 (by omega) pr1 (by assumption) (own_ne (by omega)) pr9 pr10 pr11 pr12 pr13 pr14 pr15 pr16) hZ (own_hw hw 72) (own_hw hw 7) (by decide) (by decide)) q9a q9c (g := (mkF m 31 #[oR ap, oR aq, oR aq] [(.ref a2), (.ref a1)])) rfl (by rw [hml]; rfl) (Steps.refl _) (argsL := [(.ref a2)]) (rest := []) (lenOf pd_11 rfl) rfl (by show 2 * 0 + _ ≤ _; exact Nat.le_of_eq rfl) (hb hby d12_31) (fun _ _ => ⟨rfl, e8, (by decide : 0 + 0 ≤ _), (by decide : 0 + 0 ≤ _)⟩)
    dsimp only [Pt.U, Pt.locs, Pt.cells, Pt.slots] at X9 lq9 yq9 zq9 st9 hQ9
    subst lq9 yq9 zq9
    obtain ⟨rfl, Nq9, eq9⟩ := hQ9
    have N9 := Fr.app N0 Nq9
    refine own_go (st' := T9.setTop (mkF m 34 #[oR ap, oR aq, oR aq] [(.int (own_eq2 w0 w1 z0 z1))])) (fun _ k => st9.trans k) ?_
    by_cases hc10 : (own_eq2 w0 w1 z0 z1) = (0 : Int32)
    · --
      refine own_go (st' := T9.setTop (mkF m 41 #[oR ap, oR aq, oR aq] [])) (fun _ k => XS.ifYes X9.here hx rfl (pc0 := 34) (pc' := 41) rfl (hb hby d12_34) rfl ((if0 _ _).trans (teq hc10).1) (by decide) (by decide) k) ?_
      refine own_go (st' := T9.setTop (mkF m 42 #[oR ap, oR aq, oR aq] [(.int (0 : Int32))])) (fun _ k => XS.iconst X9.here hx rfl (hb hby d12_41) k) ?_
      obtain ⟨fs, hr, hrun, hended, hW, hsame⟩ := X9.leave (v := some (.int (0 : Int32))) (fun h => by rw [Bd.returns] at h; cases h)
      refine ⟨_, _, ?_, hP _ _ hrun hended ⟨_, _, rfl, ?_, ⟨_, rfl⟩, hW, hsame.mono (by decide) (by decide)⟩⟩
      · exact retN X9 hx (t := .boolean) Bd.returns (by simp) (hb hby d12_42) hr
      · show Qrte_22 Z ap aq a1 a2 pn pm zc ax ka ay kb w0 w1 z0 z1 h0 n0 _ T9.heap _
        rw [eq9]
        exact ⟨(by unfold own_tp; rw [if_pos hc6, hc10]), N9, rfl⟩
    · --
      refine own_go (st' := T9.setTop (mkF m 37 #[oR ap, oR aq, oR aq] [])) (fun _ k => XS.ifNo X9.here hx rfl (hb hby d12_34) rfl ((if0 _ _).trans (feq hc10).1) k) ?_
      refine own_go (st' := T9.setTop (mkF m 38 #[oR ap, oR aq, oR aq] [(.int (1 : Int32))])) (fun _ k => XS.iconst X9.here hx rfl (hb hby d12_37) k) ?_
      refine own_go (st' := T9.setTop (mkF m 42 #[oR ap, oR aq, oR aq] [(.int (1 : Int32))])) (fun _ k => XS.goto X9.here hx rfl (pc0 := 38) (pc' := 42) rfl (hb hby d12_38) (by decide) (by decide) k) ?_
      obtain ⟨fs, hr, hrun, hended, hW, hsame⟩ := X9.leave (v := some (.int (1 : Int32))) (fun h => by rw [Bd.returns] at h; cases h)
      refine ⟨_, _, ?_, hP _ _ hrun hended ⟨_, _, rfl, ?_, ⟨_, rfl⟩, hW, hsame.mono (by decide) (by decide)⟩⟩
      · exact retN X9 hx (t := .boolean) Bd.returns (by simp) (hb hby d12_42) hr
      · show Qrte_22 Z ap aq a1 a2 pn pm zc ax ka ay kb w0 w1 z0 z1 h0 n0 _ T9.heap _
        rw [eq9]
        exact ⟨(by unfold own_tp; rw [if_pos hc6, own_eq2_one hc10]), N9, rfl⟩
  · --
    refine own_go (st' := T5.setTop (mkF m 41 #[oR ap, oR aq, oR aq] [])) (fun _ k => XS.icmpYes X5.here hx rfl (pc0 := 20) (pc' := 41) rfl (hb hby d12_20) rfl (feq hc6).2 (by decide) (by decide) k) ?_
    refine own_go (st' := T5.setTop (mkF m 42 #[oR ap, oR aq, oR aq] [(.int (0 : Int32))])) (fun _ k => XS.iconst X5.here hx rfl (hb hby d12_41) k) ?_
    obtain ⟨fs, hr, hrun, hended, hW, hsame⟩ := X5.leave (v := some (.int (0 : Int32))) (fun h => by rw [Bd.returns] at h; cases h)
    refine ⟨_, _, ?_, hP _ _ hrun hended ⟨_, _, rfl, ?_, ⟨_, rfl⟩, hW, hsame.mono (by decide) (by decide)⟩⟩
    · exact retN X5 hx (t := .boolean) Bd.returns (by simp) (hb hby d12_42) hr
    · show Qrte_22 Z ap aq a1 a2 pn pm zc ax ka ay kb w0 w1 z0 z1 h0 n0 _ T5.heap _
      rw [e5]
      exact ⟨(by unfold own_tp; rw [if_neg hc6]), N0, rfl⟩
theorem pd_12 : parseMethodDescriptor "(ICC)Ljava/lang/String;" = some ⟨[.int, .char, .char], some (.object "java/lang/String")⟩ := by decide +kernel
theorem pd_13 : parseMethodDescriptor "(Ljava/lang/String;I)V" = some ⟨[(.object "java/lang/String"), .int], none⟩ := by decide +kernel
theorem pd_14 : parseMethodDescriptor "(I)Ljava/lang/Integer;" = some ⟨[.int], some (.object "java/lang/Integer")⟩ := by decide +kernel
theorem pn_0 : plainName "com/example/limpet/limpet/TopicPartitionEqualsPinLaw" = true := by first | (simp [plainName, overriddenIn]; done) | decide +kernel
theorem ef_rm0 (m : MethodId) (x0 : Int32) (x1 : Int32) (x2 : Int32) (x3 : Int32) : entryFrame m #[(.int x0), (.int x1), (.int x2), (.int x3)] maxLocals = mkF m 0 #[.val (.int x0), .val (.int x1), .val (.int x2), .val (.int x3), .unset, .unset, .unset, .unset, .unset, .unset, .unset, .unset, .unset, .unset, .unset, .unset, .unset, .unset, .unset] [] := by first | (simp [entryFrame, mkF, argsToLocals, Value.category, maxLocals]; done) | rfl
def Qrm0 (Z : State) (p0 : Int32) (p1 : Int32) (p2 : Int32) (p3 : Int32) (ca : Addr) (zc : Int32) (h0 : Heap) (n0 : Nat) (v : Option Value) (h : Heap) (L : List Loc) : Prop := v = some (.int 1) ∧ Fr n0 L ∧ True
set_option maxRecDepth 65536 in
set_option maxHeartbeats 40000000 in
theorem rm0 (l : Launch) (Z : State) (a0 : Array Value) (hw : ∀ d ∈ tables_1, d.before a0 Z = true) (ws : List Jvm.Cond) (p0 : Int32) (p1 : Int32) (p2 : Int32) (p3 : Int32) (ca : Addr) (zc : Int32) (h0 : Heap) (n0 : Nat) (Z0 : n0 ≤ h0.size) (pr1 : Sta Z h0 "java/lang/Integer$IntegerCache" "high" "I" (.int (127 : Int32))) (pr2 : Sta Z h0 "java/lang/Integer$IntegerCache" "cache" "[Ljava/lang/Integer;" (.ref ca)) (pr3 : own_Cache Z h0 ca) (pr4 : Sta Z h0 "java/lang/String" "COMPACT_STRINGS" "Z" (.int zc)) (hzc : ¬ zc = (0 : Int32)) :
    MetFree l x (head1 (Jvm.Cond.code x code maxLocals ret :: ws) room_1) (fun a U => a = #[(.int p0), (.int p1), (.int p2), (.int p3)] ∧ Z.Warmed39 U.vm ∧ U.heap = h0) (fun _ _ _ _ _ => True) (fun _ U o U' => ∃ v L, o = .returned v ∧ Qrm0 Z p0 p1 p2 p3 ca zc h0 n0 v U'.heap L ∧ ReturnedEndW U o U' L 32 1152) := by
  refine MetFree.of_bodySF (plainFor_of_name pn_0) hisR ?_
  intro p e s m args below meth c s₁ Bd hml0 hP0 hK
  obtain ⟨rfl, hZ, hh⟩ := hP0
  have hx := Bd.exec
  have hby := Bd.bytes
  have hml : c.maxLocals = 19 := hml0
  have hown : s.vm.findClass oS3 = some m.cls := findClass_of_methodNamed Bd.named
  have hnm := (name_of_methodNamed Bd.named Bd.method).1
  have X0 : Stand p l e room_1 (s.setVm s.vm) m #[(.int p0), (.int p1), (.int p2), (.int p3)] below meth c s₁ [] 0 0 := Stand.of_body Bd
  have hS0 : s.Since s.vm h0.size := (State.WarmedH.refl s).since _
  have hZ : Z.Warmed39 (s.setVm s.vm).vm := hZ
  have hown : (s.setVm s.vm).vm.findClass oS3 = some m.cls := hown
  have e0 : s₁.heap = h0 := by rw [← hh, Bd.state]; rfl
  have N0 := Fr.nil n0
  suffices own_H : ∀ (P : State → Outcome → Prop), (∀ U o, U.status = .running → Ended U below o → (∃ v L, o = .returned v ∧ Qrm0 Z p0 p1 p2 p3 ca zc h0 n0 v U.heap L ∧ ReturnedEndW s o U L 32 1152) → P U o) → own_Go p.tables e below P (s₁.setTop (mkF m 0 #[oi p0, oi p1, oi p2, oi p3, .unset, .unset, .unset, .unset, .unset, .unset, .unset, .unset, .unset, .unset, .unset, .unset, .unset, .unset, .unset] [])) from own_go (fun _ k => castTop (ef_rm0 m p0 p1 p2 p3) k) (own_H _ (fun U o h1 h2 h3 => ⟨h1, h2, h3⟩))
  intro P hP
  have lt_ca : @LT.lt Nat _ ca h0.size := own_Cache_lt pr3
  refine own_go (st' := s₁.setTop (mkF m 1 #[oi p0, oi p1, oi p2, oi p3, .unset, .unset, .unset, .unset, .unset, .unset, .unset, .unset, .unset, .unset, .unset, .unset, .unset, .unset, .unset] [(.int (1 : Int32))])) (fun _ k => XS.iconst X0.here hx rfl (hb hby at_0) k) ?_
  refine own_go (st' := s₁.setTop (mkF m 2 #[oi p0, oi p1, oi p2, oi p3, .unset, .unset, .unset, .unset, .unset, .unset, .unset, .unset, .unset, .unset, .unset, .unset, .unset, .unset, .unset] [(.int p0), (.int (1 : Int32))])) (fun _ k => XS.iloadN X0.here hx rfl (hb hby at_1) rfl k) ?_
  refine own_go (st' := s₁.setTop (mkF m 3 #[oi p0, oi p1, oi p2, oi p3, .unset, .unset, .unset, .unset, .unset, .unset, .unset, .unset, .unset, .unset, .unset, .unset, .unset, .unset, .unset] [(.int (1 : Int32)), (.int p0), (.int (1 : Int32))])) (fun _ k => XS.iconst X0.here hx rfl (hb hby at_2) k) ?_
  refine own_go (st' := s₁.setTop (mkF m 4 #[oi p0, oi p1, oi p2, oi p3, .unset, .unset, .unset, .unset, .unset, .unset, .unset, .unset, .unset, .unset, .unset, .unset, .unset, .unset, .unset] [(.int ((p0.toUInt32 >>> ((1 : Int32) &&& 31).toUInt32).toInt32)), (.int (1 : Int32))])) (fun _ k => XS.iushr X0.here hx rfl (hb hby at_3) rfl k) ?_
  refine own_go (st' := s₁.setTop (mkF m 5 #[oi p0, oi p1, oi p2, oi p3, .unset, .unset, .unset, .unset, .unset, .unset, .unset, .unset, .unset, .unset, .unset, .unset, .unset, .unset, .unset] [(.int (1 : Int32)), (.int ((p0.toUInt32 >>> ((1 : Int32) &&& 31).toUInt32).toInt32)), (.int (1 : Int32))])) (fun _ k => XS.iconst X0.here hx rfl (hb hby at_4) k) ?_
  refine own_go (st' := s₁.setTop (mkF m 6 #[oi p0, oi p1, oi p2, oi p3, .unset, .unset, .unset, .unset, .unset, .unset, .unset, .unset, .unset, .unset, .unset, .unset, .unset, .unset, .unset] [(.int (((p0.toUInt32 >>> ((1 : Int32) &&& 31).toUInt32).toInt32) &&& (1 : Int32))), (.int (1 : Int32))])) (fun _ k => XS.iand X0.here hx rfl (hb hby at_5) rfl k) ?_
  obtain ⟨n4, hn4⟩ : ∃ z : Int32, z = ((1 : Int32) + (((p0.toUInt32 >>> ((1 : Int32) &&& 31).toUInt32).toInt32) &&& (1 : Int32))) := ⟨_, rfl⟩
  refine own_go (st' := s₁.setTop (mkF m 7 #[oi p0, oi p1, oi p2, oi p3, .unset, .unset, .unset, .unset, .unset, .unset, .unset, .unset, .unset, .unset, .unset, .unset, .unset, .unset, .unset] [(.int n4)])) (fun _ k => XS.iadd X0.here hx rfl (hb hby at_6) rfl (by rw [hn4] at k; exact k)) ?_
  refine own_go (st' := s₁.setTop (mkF m 9 #[oi p0, oi p1, oi p2, oi p3, oi n4, .unset, .unset, .unset, .unset, .unset, .unset, .unset, .unset, .unset, .unset, .unset, .unset, .unset, .unset] [])) (fun _ k => XS.istore X0.here hx rfl (hb hby at_7) rfl (l' := #[oi p0, oi p1, oi p2, oi p3, oi n4, .unset, .unset, .unset, .unset, .unset, .unset, .unset, .unset, .unset, .unset, .unset, .unset, .unset, .unset]) rfl k) ?_
  have ht_n4 : n4 = 1 ∨ n4 = 2 := by rw [hn4]; exact own_n12 _
  refine own_go (st' := s₁.setTop (mkF m 10 #[oi p0, oi p1, oi p2, oi p3, oi n4, .unset, .unset, .unset, .unset, .unset, .unset, .unset, .unset, .unset, .unset, .unset, .unset, .unset, .unset] [(.int (1 : Int32))])) (fun _ k => XS.iconst X0.here hx rfl (hb hby at_9) k) ?_
  refine own_go (st' := s₁.setTop (mkF m 11 #[oi p0, oi p1, oi p2, oi p3, oi n4, .unset, .unset, .unset, .unset, .unset, .unset, .unset, .unset, .unset, .unset, .unset, .unset, .unset, .unset] [(.int p0), (.int (1 : Int32))])) (fun _ k => XS.iloadN X0.here hx rfl (hb hby at_10) rfl k) ?_
  refine own_go (st' := s₁.setTop (mkF m 12 #[oi p0, oi p1, oi p2, oi p3, oi n4, .unset, .unset, .unset, .unset, .unset, .unset, .unset, .unset, .unset, .unset, .unset, .unset, .unset, .unset] [(.int (2 : Int32)), (.int p0), (.int (1 : Int32))])) (fun _ k => XS.iconst X0.here hx rfl (hb hby at_11) k) ?_
  refine own_go (st' := s₁.setTop (mkF m 13 #[oi p0, oi p1, oi p2, oi p3, oi n4, .unset, .unset, .unset, .unset, .unset, .unset, .unset, .unset, .unset, .unset, .unset, .unset, .unset, .unset] [(.int ((p0.toUInt32 >>> ((2 : Int32) &&& 31).toUInt32).toInt32)), (.int (1 : Int32))])) (fun _ k => XS.iushr X0.here hx rfl (hb hby at_12) rfl k) ?_
  refine own_go (st' := s₁.setTop (mkF m 14 #[oi p0, oi p1, oi p2, oi p3, oi n4, .unset, .unset, .unset, .unset, .unset, .unset, .unset, .unset, .unset, .unset, .unset, .unset, .unset, .unset] [(.int (1 : Int32)), (.int ((p0.toUInt32 >>> ((2 : Int32) &&& 31).toUInt32).toInt32)), (.int (1 : Int32))])) (fun _ k => XS.iconst X0.here hx rfl (hb hby at_13) k) ?_
  refine own_go (st' := s₁.setTop (mkF m 15 #[oi p0, oi p1, oi p2, oi p3, oi n4, .unset, .unset, .unset, .unset, .unset, .unset, .unset, .unset, .unset, .unset, .unset, .unset, .unset, .unset] [(.int (((p0.toUInt32 >>> ((2 : Int32) &&& 31).toUInt32).toInt32) &&& (1 : Int32))), (.int (1 : Int32))])) (fun _ k => XS.iand X0.here hx rfl (hb hby at_14) rfl k) ?_
  obtain ⟨n5, hn5⟩ : ∃ z : Int32, z = ((1 : Int32) + (((p0.toUInt32 >>> ((2 : Int32) &&& 31).toUInt32).toInt32) &&& (1 : Int32))) := ⟨_, rfl⟩
  refine own_go (st' := s₁.setTop (mkF m 16 #[oi p0, oi p1, oi p2, oi p3, oi n4, .unset, .unset, .unset, .unset, .unset, .unset, .unset, .unset, .unset, .unset, .unset, .unset, .unset, .unset] [(.int n5)])) (fun _ k => XS.iadd X0.here hx rfl (hb hby at_15) rfl (by rw [hn5] at k; exact k)) ?_
  refine own_go (st' := s₁.setTop (mkF m 18 #[oi p0, oi p1, oi p2, oi p3, oi n4, oi n5, .unset, .unset, .unset, .unset, .unset, .unset, .unset, .unset, .unset, .unset, .unset, .unset, .unset] [])) (fun _ k => XS.istore X0.here hx rfl (hb hby at_16) rfl (l' := #[oi p0, oi p1, oi p2, oi p3, oi n4, oi n5, .unset, .unset, .unset, .unset, .unset, .unset, .unset, .unset, .unset, .unset, .unset, .unset, .unset]) rfl k) ?_
  have ht_n5 : n5 = 1 ∨ n5 = 2 := by rw [hn5]; exact own_n12 _
  refine own_go (st' := s₁.setTop (mkF m 19 #[oi p0, oi p1, oi p2, oi p3, oi n4, oi n5, .unset, .unset, .unset, .unset, .unset, .unset, .unset, .unset, .unset, .unset, .unset, .unset, .unset] [(.int p1)])) (fun _ k => XS.iloadN X0.here hx rfl (hb hby at_18) rfl k) ?_
  refine own_go (st' := s₁.setTop (mkF m 22 #[oi p0, oi p1, oi p2, oi p3, oi n4, oi n5, .unset, .unset, .unset, .unset, .unset, .unset, .unset, .unset, .unset, .unset, .unset, .unset, .unset] [(.int (255 : Int32)), (.int p1)])) (fun _ k => XS.sipush X0.here hx rfl (hb hby at_19) k) ?_
  refine own_go (st' := s₁.setTop (mkF m 23 #[oi p0, oi p1, oi p2, oi p3, oi n4, oi n5, .unset, .unset, .unset, .unset, .unset, .unset, .unset, .unset, .unset, .unset, .unset, .unset, .unset] [(.int (p1 &&& (255 : Int32)))])) (fun _ k => XS.iand X0.here hx rfl (hb hby at_22) rfl k) ?_
  obtain ⟨u6, hu6⟩ : ∃ z : Int32, z = (p1 &&& (255 : Int32)).toUInt32.toUInt16.toUInt32.toInt32 := ⟨_, rfl⟩
  refine own_go (st' := s₁.setTop (mkF m 24 #[oi p0, oi p1, oi p2, oi p3, oi n4, oi n5, .unset, .unset, .unset, .unset, .unset, .unset, .unset, .unset, .unset, .unset, .unset, .unset, .unset] [(.int u6)])) (fun _ k => XS.i2c X0.here hx rfl (hb hby at_23) rfl (by rw [hu6] at k; exact k)) ?_
  refine own_go (st' := s₁.setTop (mkF m 26 #[oi p0, oi p1, oi p2, oi p3, oi n4, oi n5, oi u6, .unset, .unset, .unset, .unset, .unset, .unset, .unset, .unset, .unset, .unset, .unset, .unset] [])) (fun _ k => XS.istore X0.here hx rfl (hb hby at_24) rfl (l' := #[oi p0, oi p1, oi p2, oi p3, oi n4, oi n5, oi u6, .unset, .unset, .unset, .unset, .unset, .unset, .unset, .unset, .unset, .unset, .unset, .unset]) rfl k) ?_
  have hl_u6 : own_lat u6 := by rw [hu6]; exact own_lat_and _
  refine own_go (st' := s₁.setTop (mkF m 27 #[oi p0, oi p1, oi p2, oi p3, oi n4, oi n5, oi u6, .unset, .unset, .unset, .unset, .unset, .unset, .unset, .unset, .unset, .unset, .unset, .unset] [(.int p1)])) (fun _ k => XS.iloadN X0.here hx rfl (hb hby at_26) rfl k) ?_
  refine own_go (st' := s₁.setTop (mkF m 29 #[oi p0, oi p1, oi p2, oi p3, oi n4, oi n5, oi u6, .unset, .unset, .unset, .unset, .unset, .unset, .unset, .unset, .unset, .unset, .unset, .unset] [(.int (8 : Int32)), (.int p1)])) (fun _ k => XS.bipush X0.here hx rfl (hb hby at_27) k) ?_
  refine own_go (st' := s₁.setTop (mkF m 30 #[oi p0, oi p1, oi p2, oi p3, oi n4, oi n5, oi u6, .unset, .unset, .unset, .unset, .unset, .unset, .unset, .unset, .unset, .unset, .unset, .unset] [(.int ((p1.toUInt32 >>> ((8 : Int32) &&& 31).toUInt32).toInt32))])) (fun _ k => XS.iushr X0.here hx rfl (hb hby at_29) rfl k) ?_
  refine own_go (st' := s₁.setTop (mkF m 33 #[oi p0, oi p1, oi p2, oi p3, oi n4, oi n5, oi u6, .unset, .unset, .unset, .unset, .unset, .unset, .unset, .unset, .unset, .unset, .unset, .unset] [(.int (255 : Int32)), (.int ((p1.toUInt32 >>> ((8 : Int32) &&& 31).toUInt32).toInt32))])) (fun _ k => XS.sipush X0.here hx rfl (hb hby at_30) k) ?_
  refine own_go (st' := s₁.setTop (mkF m 34 #[oi p0, oi p1, oi p2, oi p3, oi n4, oi n5, oi u6, .unset, .unset, .unset, .unset, .unset, .unset, .unset, .unset, .unset, .unset, .unset, .unset] [(.int (((p1.toUInt32 >>> ((8 : Int32) &&& 31).toUInt32).toInt32) &&& (255 : Int32)))])) (fun _ k => XS.iand X0.here hx rfl (hb hby at_33) rfl k) ?_
  obtain ⟨u7, hu7⟩ : ∃ z : Int32, z = (((p1.toUInt32 >>> ((8 : Int32) &&& 31).toUInt32).toInt32) &&& (255 : Int32)).toUInt32.toUInt16.toUInt32.toInt32 := ⟨_, rfl⟩
  refine own_go (st' := s₁.setTop (mkF m 35 #[oi p0, oi p1, oi p2, oi p3, oi n4, oi n5, oi u6, .unset, .unset, .unset, .unset, .unset, .unset, .unset, .unset, .unset, .unset, .unset, .unset] [(.int u7)])) (fun _ k => XS.i2c X0.here hx rfl (hb hby at_34) rfl (by rw [hu7] at k; exact k)) ?_
  refine own_go (st' := s₁.setTop (mkF m 37 #[oi p0, oi p1, oi p2, oi p3, oi n4, oi n5, oi u6, oi u7, .unset, .unset, .unset, .unset, .unset, .unset, .unset, .unset, .unset, .unset, .unset] [])) (fun _ k => XS.istore X0.here hx rfl (hb hby at_35) rfl (l' := #[oi p0, oi p1, oi p2, oi p3, oi n4, oi n5, oi u6, oi u7, .unset, .unset, .unset, .unset, .unset, .unset, .unset, .unset, .unset, .unset, .unset]) rfl k) ?_
  have hl_u7 : own_lat u7 := by rw [hu7]; exact own_lat_and _
  have J59_1 : ∀ (Tj1 : State) (lj1 : List Loc) (u8 : Int32) (vj1 : Vm) (kj1 : Nat) (Xj1 : Stand p l e room_1 (s.setVm vj1) m #[(.int p0), (.int p1), (.int p2), (.int p3)] below meth c Tj1 lj1 0 0) (ej1 : Tj1.heap = h0) (Nj1 : Fr n0 lj1) (hSj1 : s.Since vj1 kj1) (hkj1 : kj1 ≤ h0.size) (hZj1 : Z.Warmed39 (s.setVm vj1).vm) (hoj1 : (s.setVm vj1).vm.findClass oS3 = some m.cls) (hl_u8 : own_lat u8), own_Go p.tables e below P (Tj1.setTop (mkF m 59 #[oi p0, oi p1, oi p2, oi p3, oi n4, oi n5, oi u6, oi u7, .unset, .unset, .unset, .unset, .unset, .unset, .unset, .unset, .unset, .unset, .unset] [(.int u8)])) := by
    intro Tj1 lj1 u8 vj1 kj1 Xj1 ej1 Nj1 hSj1 hkj1 hZ hown hl_u8
    refine own_go (st' := Tj1.setTop (mkF m 61 #[oi p0, oi p1, oi p2, oi p3, oi n4, oi n5, oi u6, oi u7, oi u8, .unset, .unset, .unset, .unset, .unset, .unset, .unset, .unset, .unset, .unset] [])) (fun _ k => XS.istore Xj1.here hx rfl (hb hby at_59) rfl (l' := #[oi p0, oi p1, oi p2, oi p3, oi n4, oi n5, oi u6, oi u7, oi u8, .unset, .unset, .unset, .unset, .unset, .unset, .unset, .unset, .unset, .unset]) rfl k) ?_
    have J83_2 : ∀ (Tj2 : State) (lj2 : List Loc) (u9 : Int32) (vj2 : Vm) (kj2 : Nat) (Xj2 : Stand p l e room_1 (s.setVm vj2) m #[(.int p0), (.int p1), (.int p2), (.int p3)] below meth c Tj2 lj2 0 0) (ej2 : Tj2.heap = h0) (Nj2 : Fr n0 lj2) (hSj2 : s.Since vj2 kj2) (hkj2 : kj2 ≤ h0.size) (hZj2 : Z.Warmed39 (s.setVm vj2).vm) (hoj2 : (s.setVm vj2).vm.findClass oS3 = some m.cls) (hl_u9 : own_lat u9), own_Go p.tables e below P (Tj2.setTop (mkF m 83 #[oi p0, oi p1, oi p2, oi p3, oi n4, oi n5, oi u6, oi u7, oi u8, .unset, .unset, .unset, .unset, .unset, .unset, .unset, .unset, .unset, .unset] [(.int u9)])) := by
      intro Tj2 lj2 u9 vj2 kj2 Xj2 ej2 Nj2 hSj2 hkj2 hZ hown hl_u9
      refine own_go (st' := Tj2.setTop (mkF m 85 #[oi p0, oi p1, oi p2, oi p3, oi n4, oi n5, oi u6, oi u7, oi u8, oi u9, .unset, .unset, .unset, .unset, .unset, .unset, .unset, .unset, .unset] [])) (fun _ k => XS.istore Xj2.here hx rfl (hb hby at_83) rfl (l' := #[oi p0, oi p1, oi p2, oi p3, oi n4, oi n5, oi u6, oi u7, oi u8, oi u9, .unset, .unset, .unset, .unset, .unset, .unset, .unset, .unset, .unset]) rfl k) ?_
      refine own_go (st' := Tj2.setTop (mkF m 86 #[oi p0, oi p1, oi p2, oi p3, oi n4, oi n5, oi u6, oi u7, oi u8, oi u9, .unset, .unset, .unset, .unset, .unset, .unset, .unset, .unset, .unset] [(.int p2)])) (fun _ k => XS.iloadN Xj2.here hx rfl (hb hby at_85) rfl k) ?_
      refine own_go (st' := Tj2.setTop (mkF m 88 #[oi p0, oi p1, oi p2, oi p3, oi n4, oi n5, oi u6, oi u7, oi u8, oi u9, .unset, .unset, .unset, .unset, .unset, .unset, .unset, .unset, .unset] [(.int (2147483647 : Int32)), (.int p2)])) (Xj2.ldcInt hx hown (mvT hZ (own_hw hw 0)) (g := (mkF m 86 #[oi p0, oi p1, oi p2, oi p3, oi n4, oi n5, oi u6, oi u7, oi u8, oi u9, .unset, .unset, .unset, .unset, .unset, .unset, .unset, .unset, .unset] [(.int p2)])) rfl (hb hby at_86)) ?_
      obtain ⟨m10, hm10⟩ : ∃ z : Int32, z = (p2 &&& (2147483647 : Int32)) := ⟨_, rfl⟩
      refine own_go (st' := Tj2.setTop (mkF m 89 #[oi p0, oi p1, oi p2, oi p3, oi n4, oi n5, oi u6, oi u7, oi u8, oi u9, .unset, .unset, .unset, .unset, .unset, .unset, .unset, .unset, .unset] [(.int m10)])) (fun _ k => XS.iand Xj2.here hx rfl (hb hby at_88) rfl (by rw [hm10] at k; exact k)) ?_
      refine own_go (st' := Tj2.setTop (mkF m 91 #[oi p0, oi p1, oi p2, oi p3, oi n4, oi n5, oi u6, oi u7, oi u8, oi u9, oi m10, .unset, .unset, .unset, .unset, .unset, .unset, .unset, .unset] [])) (fun _ k => XS.istore Xj2.here hx rfl (hb hby at_89) rfl (l' := #[oi p0, oi p1, oi p2, oi p3, oi n4, oi n5, oi u6, oi u7, oi u8, oi u9, oi m10, .unset, .unset, .unset, .unset, .unset, .unset, .unset, .unset]) rfl k) ?_
      have hp_m10 : ¬ m10 < (0 : Int32) := by rw [hm10]; exact own_pos _
      have J108_3 : ∀ (Tj3 : State) (lj3 : List Loc) (m11 : Int32) (vj3 : Vm) (kj3 : Nat) (Xj3 : Stand p l e room_1 (s.setVm vj3) m #[(.int p0), (.int p1), (.int p2), (.int p3)] below meth c Tj3 lj3 0 0) (ej3 : Tj3.heap = h0) (Nj3 : Fr n0 lj3) (hSj3 : s.Since vj3 kj3) (hkj3 : kj3 ≤ h0.size) (hZj3 : Z.Warmed39 (s.setVm vj3).vm) (hoj3 : (s.setVm vj3).vm.findClass oS3 = some m.cls) (hp_m11 : ¬ m11 < (0 : Int32)), own_Go p.tables e below P (Tj3.setTop (mkF m 108 #[oi p0, oi p1, oi p2, oi p3, oi n4, oi n5, oi u6, oi u7, oi u8, oi u9, oi m10, .unset, .unset, .unset, .unset, .unset, .unset, .unset, .unset] [(.int m11)])) := by
        intro Tj3 lj3 m11 vj3 kj3 Xj3 ej3 Nj3 hSj3 hkj3 hZ hown hp_m11
        refine own_go (st' := Tj3.setTop (mkF m 110 #[oi p0, oi p1, oi p2, oi p3, oi n4, oi n5, oi u6, oi u7, oi u8, oi u9, oi m10, oi m11, .unset, .unset, .unset, .unset, .unset, .unset, .unset] [])) (fun _ k => XS.istore Xj3.here hx rfl (hb hby at_108) rfl (l' := #[oi p0, oi p1, oi p2, oi p3, oi n4, oi n5, oi u6, oi u7, oi u8, oi u9, oi m10, oi m11, .unset, .unset, .unset, .unset, .unset, .unset, .unset]) rfl k) ?_
        rcases ht_n4 with rfl | rfl
        · --
          rcases ht_n5 with rfl | rfl
          · --
            refine own_go (st' := Tj3.setTop (mkF m 112 #[oi p0, oi p1, oi p2, oi p3, oi 1, oi 1, oi u6, oi u7, oi u8, oi u9, oi m10, oi m11, .unset, .unset, .unset, .unset, .unset, .unset, .unset] [(.int (1 : Int32))])) (fun _ k => XS.iload Xj3.here hx rfl (hb hby at_110) rfl k) ?_
            refine own_go (st' := Tj3.setTop (mkF m 114 #[oi p0, oi p1, oi p2, oi p3, oi 1, oi 1, oi u6, oi u7, oi u8, oi u9, oi m10, oi m11, .unset, .unset, .unset, .unset, .unset, .unset, .unset] [(.int u6), (.int (1 : Int32))])) (fun _ k => XS.iload Xj3.here hx rfl (hb hby at_112) rfl k) ?_
            refine own_go (st' := Tj3.setTop (mkF m 116 #[oi p0, oi p1, oi p2, oi p3, oi 1, oi 1, oi u6, oi u7, oi u8, oi u9, oi m10, oi m11, .unset, .unset, .unset, .unset, .unset, .unset, .unset] [(.int u7), (.int u6), (.int (1 : Int32))])) (fun _ k => XS.iload Xj3.here hx rfl (hb hby at_114) rfl k) ?_
            obtain ⟨_, _, ⟨T4, LC4, kC4, nC4⟩, -, X4, ⟨Lc4, hQ4, lq4, yq4, zq4⟩, st4⟩ := Jvm.LawKit.callS Xj3 hx (y := oM3) hown (mvT hZ (own_hw hw 1)) (mvT hZ (own_hw hw 2)) (mvT hZ (own_hw hw 3)) (mvT hZ (own_hw hw 4)) (by decide) (backOf (W := 0) (rmk_1 l Z a0 hw [] zc u6 u7 h0 n0 (by omega) pr4 (by assumption) hl_u6 hl_u7) hZ (own_hw hw 4) (own_hw hw 3) (by decide) (by decide)) (g := (mkF m 116 #[oi p0, oi p1, oi p2, oi p3, oi 1, oi 1, oi u6, oi u7, oi u8, oi u9, oi m10, oi m11, .unset, .unset, .unset, .unset, .unset, .unset, .unset] [(.int u7), (.int u6), (.int (1 : Int32))])) rfl (by rw [hml]; rfl) (argsL := [(.int (1 : Int32)), (.int u6), (.int u7)]) (rest := []) (lenOf pd_12 rfl) rfl (by show 2 * 0 + _ ≤ _; exact Nat.le_of_eq rfl) (hb hby at_116) (fun _ _ => ⟨rfl, ej3, (by decide : 0 + 3 ≤ _), (by decide : 0 + 6 ≤ _)⟩)
            dsimp only [Pt.U, Pt.locs, Pt.cells, Pt.slots] at X4 lq4 yq4 zq4 st4 hQ4
            subst lq4 yq4 zq4
            obtain ⟨h4, e4⟩ : ∃ z, T4.heap = z := ⟨_, rfl⟩
            rw [e4] at hQ4
            obtain ⟨a1_4, r_4, kr_4, rfl, Nq4, K4, g4_0, g4_1, g4_2, g4_3, g4_4, g4_5, g4_6⟩ := hQ4
            have sz4 : h0.size ≤ h4.size := K4.1
            have N4 := Fr.app Nj3 Nq4
            have lt4_1 : @LT.lt Nat _ a1_4 h4.size := g4_0.lt
            have lt4_2 : @LT.lt Nat _ r_4 h4.size := g4_3.lt
            refine own_go (st' := T4.setTop (mkF m 119 #[oi p0, oi p1, oi p2, oi p3, oi 1, oi 1, oi u6, oi u7, oi u8, oi u9, oi m10, oi m11, .unset, .unset, .unset, .unset, .unset, .unset, .unset] [(.ref a1_4)])) (fun t k => st4 t k) ?_
            refine own_go (st' := T4.setTop (mkF m 121 #[oi p0, oi p1, oi p2, oi p3, oi 1, oi 1, oi u6, oi u7, oi u8, oi u9, oi m10, oi m11, oR a1_4, .unset, .unset, .unset, .unset, .unset, .unset] [])) (fun _ k => XS.astore X4.here hx rfl (hb hby at_119) rfl rfl (l' := #[oi p0, oi p1, oi p2, oi p3, oi 1, oi 1, oi u6, oi u7, oi u8, oi u9, oi m10, oi m11, oR a1_4, .unset, .unset, .unset, .unset, .unset, .unset]) rfl k) ?_
            refine own_go (st' := T4.setTop (mkF m 123 #[oi p0, oi p1, oi p2, oi p3, oi 1, oi 1, oi u6, oi u7, oi u8, oi u9, oi m10, oi m11, oR a1_4, .unset, .unset, .unset, .unset, .unset, .unset] [(.int (1 : Int32))])) (fun _ k => XS.iload X4.here hx rfl (hb hby at_121) rfl k) ?_
            refine own_go (st' := T4.setTop (mkF m 125 #[oi p0, oi p1, oi p2, oi p3, oi 1, oi 1, oi u6, oi u7, oi u8, oi u9, oi m10, oi m11, oR a1_4, .unset, .unset, .unset, .unset, .unset, .unset] [(.int u8), (.int (1 : Int32))])) (fun _ k => XS.iload X4.here hx rfl (hb hby at_123) rfl k) ?_
            refine own_go (st' := T4.setTop (mkF m 127 #[oi p0, oi p1, oi p2, oi p3, oi 1, oi 1, oi u6, oi u7, oi u8, oi u9, oi m10, oi m11, oR a1_4, .unset, .unset, .unset, .unset, .unset, .unset] [(.int u9), (.int u8), (.int (1 : Int32))])) (fun _ k => XS.iload X4.here hx rfl (hb hby at_125) rfl k) ?_
            have c6 : Sta Z h4 oS0 oS4 "Z" (.int zc) := (own_sta_keep pr4 K4 all0)
            obtain ⟨_, _, ⟨T5, LC5, kC5, nC5⟩, -, X5, ⟨Lc5, hQ5, lq5, yq5, zq5⟩, st5⟩ := Jvm.LawKit.callS X4 hx (y := oM3) hown (mvT hZ (own_hw hw 1)) (mvT hZ (own_hw hw 2)) (mvT hZ (own_hw hw 3)) (mvT hZ (own_hw hw 4)) (by decide) (backOf (W := 0) (rmk_1 l Z a0 hw [] zc u8 u9 h4 n0 (by omega) c6 (by assumption) hl_u8 hl_u9) hZ (own_hw hw 4) (own_hw hw 3) (by decide) (by decide)) (g := (mkF m 127 #[oi p0, oi p1, oi p2, oi p3, oi 1, oi 1, oi u6, oi u7, oi u8, oi u9, oi m10, oi m11, oR a1_4, .unset, .unset, .unset, .unset, .unset, .unset] [(.int u9), (.int u8), (.int (1 : Int32))])) rfl (by rw [hml]; rfl) (argsL := [(.int (1 : Int32)), (.int u8), (.int u9)]) (rest := []) (lenOf pd_12 rfl) rfl (by show 2 * 0 + _ ≤ _; exact Nat.le_of_eq rfl) (hb hby at_127) (fun _ _ => ⟨rfl, e4, (by decide : 3 + 3 ≤ _), (by decide : 6 + 6 ≤ _)⟩)
            dsimp only [Pt.U, Pt.locs, Pt.cells, Pt.slots] at X5 lq5 yq5 zq5 st5 hQ5
            subst lq5 yq5 zq5
            obtain ⟨h5, e5⟩ : ∃ z, T5.heap = z := ⟨_, rfl⟩
            rw [e5] at hQ5
            obtain ⟨a1_5, r_5, kr_5, rfl, Nq5, K5, g5_0, g5_1, g5_2, g5_3, g5_4, g5_5, g5_6⟩ := hQ5
            have sz5 : h4.size ≤ h5.size := K5.1
            have N5 := Fr.app N4 Nq5
            have lt5_1 : @LT.lt Nat _ a1_5 h5.size := g5_0.lt
            have lt5_2 : @LT.lt Nat _ r_5 h5.size := g5_3.lt
            refine own_go (st' := T5.setTop (mkF m 130 #[oi p0, oi p1, oi p2, oi p3, oi 1, oi 1, oi u6, oi u7, oi u8, oi u9, oi m10, oi m11, oR a1_4, .unset, .unset, .unset, .unset, .unset, .unset] [(.ref a1_5)])) (fun t k => st5 t k) ?_
            refine own_go (st' := T5.setTop (mkF m 132 #[oi p0, oi p1, oi p2, oi p3, oi 1, oi 1, oi u6, oi u7, oi u8, oi u9, oi m10, oi m11, oR a1_4, oR a1_5, .unset, .unset, .unset, .unset, .unset] [])) (fun _ k => XS.astore X5.here hx rfl (hb hby at_130) rfl rfl (l' := #[oi p0, oi p1, oi p2, oi p3, oi 1, oi 1, oi u6, oi u7, oi u8, oi u9, oi m10, oi m11, oR a1_4, oR a1_5, .unset, .unset, .unset, .unset, .unset]) rfl k) ?_
            obtain ⟨T7, h7, X7, e7, E7, A7, D7, -, st7⟩ := newO X5 hx hZ hown (own_hw hw 35) (own_hw hw 36) (own_hw hw 37) e5 (g := (mkF m 132 #[oi p0, oi p1, oi p2, oi p3, oi 1, oi 1, oi u6, oi u7, oi u8, oi u9, oi m10, oi m11, oR a1_4, oR a1_5, .unset, .unset, .unset, .unset, .unset] [])) rfl (hb hby at_132) (by decide) (by decide)
            obtain ⟨b7, g7⟩ : ∃ z, z = h5.size := ⟨_, rfl⟩
            rw [← g7] at A7 D7 st7
            have sz7 : h5.size ≤ h7.size := E7.1
            have lt7 : @LT.lt Nat _ b7 h7.size := A7.lt
            have f8 : Fld Z h7 b7 oS1 "topic" oS2 .null := D7 (Or.inr (own_hw hw 58)) (ty := (.object oS0)) (by decide)
            have f9 : Fld Z h7 b7 oS1 "number" "I" (.int (0 : Int32)) := D7 (Or.inr (own_hw hw 60)) (ty := .int) (by decide)
            refine own_go (st' := T7.setTop (mkF m 135 #[oi p0, oi p1, oi p2, oi p3, oi 1, oi 1, oi u6, oi u7, oi u8, oi u9, oi m10, oi m11, oR a1_4, oR a1_5, .unset, .unset, .unset, .unset, .unset] [(.ref b7)])) (st7) ?_
            refine own_go (st' := T7.setTop (mkF m 136 #[oi p0, oi p1, oi p2, oi p3, oi 1, oi 1, oi u6, oi u7, oi u8, oi u9, oi m10, oi m11, oR a1_4, oR a1_5, .unset, .unset, .unset, .unset, .unset] [(.ref b7), (.ref b7)])) (fun _ k => XS.dup X7.here hx rfl (hb hby at_135) rfl rfl k) ?_
            refine own_go (st' := T7.setTop (mkF m 138 #[oi p0, oi p1, oi p2, oi p3, oi 1, oi 1, oi u6, oi u7, oi u8, oi u9, oi m10, oi m11, oR a1_4, oR a1_5, .unset, .unset, .unset, .unset, .unset] [(.ref a1_4), (.ref b7), (.ref b7)])) (fun _ k => XS.aload X7.here hx rfl (hb hby at_136) rfl rfl k) ?_
            refine own_go (st' := T7.setTop (mkF m 140 #[oi p0, oi p1, oi p2, oi p3, oi 1, oi 1, oi u6, oi u7, oi u8, oi u9, oi m10, oi m11, oR a1_4, oR a1_5, .unset, .unset, .unset, .unset, .unset] [(.int m10), (.ref a1_4), (.ref b7), (.ref b7)])) (fun _ k => XS.iload X7.here hx rfl (hb hby at_138) rfl k) ?_
            have c11 : Exa Z h7 a1_4 oS0 := ((g4_0.keep K5).ext E7)
            have c12 : Fld Z h7 a1_4 oS0 "value" "[B" (.ref r_4) := ((g4_1.keep K5 nin0).ext E7)
            have c13 : Arv Z h7 r_4 kr_4 .byte (1 : Int32) [(.int (own_by u6))] (.int (0 : Int32)) := ((g4_3.keep K5 nin0).ext E7)
            obtain ⟨_, _, ⟨T10, LC10, kC10, nC10⟩, -, X10, hS10, hg10, ⟨Lc10, hQ10, lq10, yq10, zq10⟩, st10⟩ := X7.specialBackS hx (y := oM4) rfl hown (mvT hZ (own_hw hw 38)) (mvT hZ (own_hw hw 39)) (mvT hZ (own_hw hw 40)) (by decide) (backOfS (W := 1) (rti_1 l Z a0 hw [] b7 a1_4 r_4 kr_4 [(.int (own_by u6))] m10 (0 : Int32) h7 n0 (by omega) A7 f8 f9 c11 c12 c13 (by omega) (own_ne (by omega)) (own_ne (by omega)) hp_m10) hZ (own_hw hw 40) (own_hw hw 37) (by decide) (by decide)) (g := (mkF m 140 #[oi p0, oi p1, oi p2, oi p3, oi 1, oi 1, oi u6, oi u7, oi u8, oi u9, oi m10, oi m11, oR a1_4, oR a1_5, .unset, .unset, .unset, .unset, .unset] [(.int m10), (.ref a1_4), (.ref b7), (.ref b7)])) rfl (by rw [hml]; rfl) (Steps.refl _) (a := b7) (argsL := [(.ref a1_4), (.int m10)]) (rest := [(.ref b7)]) (lenOf pd_13 rfl) rfl (by show 2 * 0 + _ ≤ _; exact Nat.le_of_eq rfl) (hb hby at_140) (fun _ _ => ⟨rfl, e7, (by decide : 7 + 2 ≤ _), (by decide : 14 + 24 ≤ _)⟩)
            dsimp only [Pt.U, Pt.locs, Pt.cells, Pt.slots] at X10 lq10 yq10 zq10 st10 hQ10
            subst lq10 yq10 zq10
            dsimp only [Pt.U, Pt.locs, Pt.cells, Pt.slots] at hS10 hg10
            obtain ⟨X10, hS10, hZ, hown⟩ := rebS hSj3 (by rw [e7]; omega) X10 hS10 hg10 hZ hown
            obtain ⟨h10, e10⟩ : ∃ z, T10.heap = z := ⟨_, rfl⟩
            rw [e10] at hQ10 hS10
            obtain ⟨rfl, Nq10, K10, g10_0, g10_1, g10_2⟩ := hQ10
            have sz10 : h7.size ≤ h10.size := K10.1
            have N10 := Fr.app N5 Nq10
            have lt10_1 : @LT.lt Nat _ b7 h10.size := g10_0.lt
            refine own_go (st' := T10.setTop (mkF m 143 #[oi p0, oi p1, oi p2, oi p3, oi 1, oi 1, oi u6, oi u7, oi u8, oi u9, oi m10, oi m11, oR a1_4, oR a1_5, .unset, .unset, .unset, .unset, .unset] [(.ref b7)])) (fun _ k => st10.trans k) ?_
            refine own_go (st' := T10.setTop (mkF m 145 #[oi p0, oi p1, oi p2, oi p3, oi 1, oi 1, oi u6, oi u7, oi u8, oi u9, oi m10, oi m11, oR a1_4, oR a1_5, oR b7, .unset, .unset, .unset, .unset] [])) (fun _ k => XS.astore X10.here hx rfl (hb hby at_143) rfl rfl (l' := #[oi p0, oi p1, oi p2, oi p3, oi 1, oi 1, oi u6, oi u7, oi u8, oi u9, oi m10, oi m11, oR a1_4, oR a1_5, oR b7, .unset, .unset, .unset, .unset]) rfl k) ?_
            refine own_go (st' := T10.setTop (mkF m 146 #[oi p0, oi p1, oi p2, oi p3, oi 1, oi 1, oi u6, oi u7, oi u8, oi u9, oi m10, oi m11, oR a1_4, oR a1_5, oR b7, .unset, .unset, .unset, .unset] [(.int p0)])) (fun _ k => XS.iloadN X10.here hx rfl (hb hby at_145) rfl k) ?_
            refine own_go (st' := T10.setTop (mkF m 148 #[oi p0, oi p1, oi p2, oi p3, oi 1, oi 1, oi u6, oi u7, oi u8, oi u9, oi m10, oi m11, oR a1_4, oR a1_5, oR b7, .unset, .unset, .unset, .unset] [(.int (6 : Int32)), (.int p0)])) (fun _ k => XS.bipush X10.here hx rfl (hb hby at_146) k) ?_
            refine own_go (st' := T10.setTop (mkF m 149 #[oi p0, oi p1, oi p2, oi p3, oi 1, oi 1, oi u6, oi u7, oi u8, oi u9, oi m10, oi m11, oR a1_4, oR a1_5, oR b7, .unset, .unset, .unset, .unset] [(.int ((p0.toUInt32 >>> ((6 : Int32) &&& 31).toUInt32).toInt32))])) (fun _ k => XS.iushr X10.here hx rfl (hb hby at_148) rfl k) ?_
            refine own_go (st' := T10.setTop (mkF m 150 #[oi p0, oi p1, oi p2, oi p3, oi 1, oi 1, oi u6, oi u7, oi u8, oi u9, oi m10, oi m11, oR a1_4, oR a1_5, oR b7, .unset, .unset, .unset, .unset] [(.int (3 : Int32)), (.int ((p0.toUInt32 >>> ((6 : Int32) &&& 31).toUInt32).toInt32))])) (fun _ k => XS.iconst X10.here hx rfl (hb hby at_149) k) ?_
            refine own_go (st' := T10.setTop (mkF m 151 #[oi p0, oi p1, oi p2, oi p3, oi 1, oi 1, oi u6, oi u7, oi u8, oi u9, oi m10, oi m11, oR a1_4, oR a1_5, oR b7, .unset, .unset, .unset, .unset] [(.int (((p0.toUInt32 >>> ((6 : Int32) &&& 31).toUInt32).toInt32) &&& (3 : Int32)))])) (fun _ k => XS.iand X10.here hx rfl (hb hby at_150) rfl k) ?_
            have hm := own_and3 ((p0.toUInt32 >>> ((6 : Int32) &&& 31).toUInt32).toInt32)
            obtain ⟨xs, hxs⟩ : ∃ z : Int32, z = (((p0.toUInt32 >>> ((6 : Int32) &&& 31).toUInt32).toInt32) &&& (3 : Int32)) := ⟨_, rfl⟩
            rw [← hxs] at hm ⊢
            clear hxs
            rcases hm with rfl | rfl | rfl | rfl
            · --
              refine own_go (st' := T10.setTop (mkF m 153 #[oi p0, oi p1, oi p2, oi p3, oi 1, oi 1, oi u6, oi u7, oi u8, oi u9, oi m10, oi m11, oR a1_4, oR a1_5, oR b7, oi 0, .unset, .unset, .unset] [])) (fun _ k => XS.istore X10.here hx rfl (hb hby at_151) rfl (l' := #[oi p0, oi p1, oi p2, oi p3, oi 1, oi 1, oi u6, oi u7, oi u8, oi u9, oi m10, oi m11, oR a1_4, oR a1_5, oR b7, oi 0, .unset, .unset, .unset]) rfl k) ?_
              refine own_go (st' := T10.setTop (mkF m 155 #[oi p0, oi p1, oi p2, oi p3, oi 1, oi 1, oi u6, oi u7, oi u8, oi u9, oi m10, oi m11, oR a1_4, oR a1_5, oR b7, oi 0, .unset, .unset, .unset] [(.int (0 : Int32))])) (fun _ k => XS.iload X10.here hx rfl (hb hby at_153) rfl k) ?_
              have hc14 : (0 : Int32) = (0 : Int32) := by decide
              refine own_go (st' := T10.setTop (mkF m 158 #[oi p0, oi p1, oi p2, oi p3, oi 1, oi 1, oi u6, oi u7, oi u8, oi u9, oi m10, oi m11, oR a1_4, oR a1_5, oR b7, oi 0, .unset, .unset, .unset] [])) (fun _ k => XS.ifNo X10.here hx rfl (hb hby at_155) rfl ((if0 _ _).trans (teq hc14).2) k) ?_
              obtain ⟨T15, h15, X15, e15, E15, A15, D15, -, st15⟩ := newO X10 hx hZ hown (own_hw hw 35) (own_hw hw 36) (own_hw hw 37) e10 (g := (mkF m 158 #[oi p0, oi p1, oi p2, oi p3, oi 1, oi 1, oi u6, oi u7, oi u8, oi u9, oi m10, oi m11, oR a1_4, oR a1_5, oR b7, oi 0, .unset, .unset, .unset] [])) rfl (hb hby at_158) (by decide) (by decide)
              obtain ⟨b15, g15⟩ : ∃ z, z = h10.size := ⟨_, rfl⟩
              rw [← g15] at A15 D15 st15
              have sz15 : h10.size ≤ h15.size := E15.1
              have lt15 : @LT.lt Nat _ b15 h15.size := A15.lt
              have f16 : Fld Z h15 b15 oS1 "topic" oS2 .null := D15 (Or.inr (own_hw hw 58)) (ty := (.object oS0)) (by decide)
              have f17 : Fld Z h15 b15 oS1 "number" "I" (.int (0 : Int32)) := D15 (Or.inr (own_hw hw 60)) (ty := .int) (by decide)
              refine own_go (st' := T15.setTop (mkF m 161 #[oi p0, oi p1, oi p2, oi p3, oi 1, oi 1, oi u6, oi u7, oi u8, oi u9, oi m10, oi m11, oR a1_4, oR a1_5, oR b7, oi 0, .unset, .unset, .unset] [(.ref b15)])) (st15) ?_
              refine own_go (st' := T15.setTop (mkF m 162 #[oi p0, oi p1, oi p2, oi p3, oi 1, oi 1, oi u6, oi u7, oi u8, oi u9, oi m10, oi m11, oR a1_4, oR a1_5, oR b7, oi 0, .unset, .unset, .unset] [(.ref b15), (.ref b15)])) (fun _ k => XS.dup X15.here hx rfl (hb hby at_161) rfl rfl k) ?_
              refine own_go (st' := T15.setTop (mkF m 164 #[oi p0, oi p1, oi p2, oi p3, oi 1, oi 1, oi u6, oi u7, oi u8, oi u9, oi m10, oi m11, oR a1_4, oR a1_5, oR b7, oi 0, .unset, .unset, .unset] [(.ref a1_5), (.ref b15), (.ref b15)])) (fun _ k => XS.aload X15.here hx rfl (hb hby at_162) rfl rfl k) ?_
              refine own_go (st' := T15.setTop (mkF m 166 #[oi p0, oi p1, oi p2, oi p3, oi 1, oi 1, oi u6, oi u7, oi u8, oi u9, oi m10, oi m11, oR a1_4, oR a1_5, oR b7, oi 0, .unset, .unset, .unset] [(.int m11), (.ref a1_5), (.ref b15), (.ref b15)])) (fun _ k => XS.iload X15.here hx rfl (hb hby at_164) rfl k) ?_
              have c19 : Exa Z h15 a1_5 oS0 := (((g5_0.ext E7).keep K10).ext E15)
              have c20 : Fld Z h15 a1_5 oS0 "value" "[B" (.ref r_5) := (((g5_1.ext E7).keep K10 (ninS (own_ne (by omega)) nin0)).ext E15)
              have c21 : Arv Z h15 r_5 kr_5 .byte (1 : Int32) [(.int (own_by u8))] (.int (0 : Int32)) := (((g5_3.ext E7).keep K10 (ninS (own_ne (by omega)) nin0)).ext E15)
              obtain ⟨_, _, ⟨T18, LC18, kC18, nC18⟩, -, X18, hS18, hg18, ⟨Lc18, hQ18, lq18, yq18, zq18⟩, st18⟩ := X15.specialBackS hx (y := oM4) rfl hown (mvT hZ (own_hw hw 38)) (mvT hZ (own_hw hw 39)) (mvT hZ (own_hw hw 40)) (by decide) (backOfS (W := 1) (rti_1 l Z a0 hw [] b15 a1_5 r_5 kr_5 [(.int (own_by u8))] m11 (0 : Int32) h15 n0 (by omega) A15 f16 f17 c19 c20 c21 (by omega) (own_ne (by omega)) (own_ne (by omega)) hp_m11) hZ (own_hw hw 40) (own_hw hw 37) (by decide) (by decide)) (g := (mkF m 166 #[oi p0, oi p1, oi p2, oi p3, oi 1, oi 1, oi u6, oi u7, oi u8, oi u9, oi m10, oi m11, oR a1_4, oR a1_5, oR b7, oi 0, .unset, .unset, .unset] [(.int m11), (.ref a1_5), (.ref b15), (.ref b15)])) rfl (by rw [hml]; rfl) (Steps.refl _) (a := b15) (argsL := [(.ref a1_5), (.int m11)]) (rest := [(.ref b15)]) (lenOf pd_13 rfl) rfl (by show 2 * 0 + _ ≤ _; exact Nat.le_of_eq rfl) (hb hby at_166) (fun _ _ => ⟨rfl, e15, (by decide : 10 + 2 ≤ _), (by decide : 40 + 24 ≤ _)⟩)
              dsimp only [Pt.U, Pt.locs, Pt.cells, Pt.slots] at X18 lq18 yq18 zq18 st18 hQ18
              subst lq18 yq18 zq18
              dsimp only [Pt.U, Pt.locs, Pt.cells, Pt.slots] at hS18 hg18
              obtain ⟨X18, hS18, hZ, hown⟩ := rebS hS10 (by rw [e15]; omega) X18 hS18 hg18 hZ hown
              obtain ⟨h18, e18⟩ : ∃ z, T18.heap = z := ⟨_, rfl⟩
              rw [e18] at hQ18 hS18
              obtain ⟨rfl, Nq18, K18, g18_0, g18_1, g18_2⟩ := hQ18
              have sz18 : h15.size ≤ h18.size := K18.1
              have N18 := Fr.app N10 Nq18
              have lt18_1 : @LT.lt Nat _ b15 h18.size := g18_0.lt
              refine own_go (st' := T18.setTop (mkF m 169 #[oi p0, oi p1, oi p2, oi p3, oi 1, oi 1, oi u6, oi u7, oi u8, oi u9, oi m10, oi m11, oR a1_4, oR a1_5, oR b7, oi 0, .unset, .unset, .unset] [(.ref b15)])) (fun _ k => st18.trans k) ?_
              refine own_go (st' := T18.setTop (mkF m 171 #[oi p0, oi p1, oi p2, oi p3, oi 1, oi 1, oi u6, oi u7, oi u8, oi u9, oi m10, oi m11, oR a1_4, oR a1_5, oR b7, oi 0, oR b15, .unset, .unset] [])) (fun _ k => XS.astore X18.here hx rfl (hb hby at_169) rfl rfl (l' := #[oi p0, oi p1, oi p2, oi p3, oi 1, oi 1, oi u6, oi u7, oi u8, oi u9, oi m10, oi m11, oR a1_4, oR a1_5, oR b7, oi 0, oR b15, .unset, .unset]) rfl k) ?_
              have J222_22 : ∀ (Tj22 : State) (lj22 : List Loc) (fx : Int32) (f17 : Int32) (vj22 : Vm) (kj22 : Nat) (Xj22 : Stand p l e room_1 (s.setVm vj22) m #[(.int p0), (.int p1), (.int p2), (.int p3)] below meth c Tj22 lj22 12 64) (ej22 : Tj22.heap = h18) (Nj22 : Fr n0 lj22) (hSj22 : s.Since vj22 kj22) (hkj22 : kj22 ≤ h18.size) (hZj22 : Z.Warmed39 (s.setVm vj22).vm) (hoj22 : (s.setVm vj22).vm.findClass oS3 = some m.cls) (hE1 : fx = own_tp m10 m11 (own_eq1 (own_by u6) (own_by u8))) (hE2 : fx = own_tp m11 m10 (own_eq1 (own_by u8) (own_by u6))), own_Go p.tables e below P (Tj22.setTop (mkF m 222 #[oi p0, oi p1, oi p2, oi p3, oi 1, oi 1, oi u6, oi u7, oi u8, oi u9, oi m10, oi m11, oR a1_4, oR a1_5, oR b7, oi 0, oR b15, oi f17, .unset] [(.int fx)])) := by
                intro Tj22 lj22 fx f17 vj22 kj22 Xj22 ej22 Nj22 hSj22 hkj22 hZ hown hE1 hE2
                refine own_go (st' := Tj22.setTop (mkF m 224 #[oi p0, oi p1, oi p2, oi p3, oi 1, oi 1, oi u6, oi u7, oi u8, oi u9, oi m10, oi m11, oR a1_4, oR a1_5, oR b7, oi 0, oR b15, oi f17, oi fx] [])) (fun _ k => XS.istore Xj22.here hx rfl (hb hby at_222) rfl (l' := #[oi p0, oi p1, oi p2, oi p3, oi 1, oi 1, oi u6, oi u7, oi u8, oi u9, oi m10, oi m11, oR a1_4, oR a1_5, oR b7, oi 0, oR b15, oi f17, oi fx]) rfl k) ?_
                refine own_go (st' := Tj22.setTop (mkF m 226 #[oi p0, oi p1, oi p2, oi p3, oi 1, oi 1, oi u6, oi u7, oi u8, oi u9, oi m10, oi m11, oR a1_4, oR a1_5, oR b7, oi 0, oR b15, oi f17, oi fx] [(.ref b7)])) (fun _ k => XS.aload Xj22.here hx rfl (hb hby at_224) rfl rfl k) ?_
                refine own_go (st' := Tj22.setTop (mkF m 228 #[oi p0, oi p1, oi p2, oi p3, oi 1, oi 1, oi u6, oi u7, oi u8, oi u9, oi m10, oi m11, oR a1_4, oR a1_5, oR b7, oi 0, oR b15, oi f17, oi fx] [(.ref b15), (.ref b7)])) (fun _ k => XS.aload Xj22.here hx rfl (hb hby at_226) rfl rfl k) ?_
                have c24 : Sta Z h18 oS0 oS4 "Z" (.int zc) := (own_sta_keep ((own_sta_keep ((own_sta_keep c6 K5 all0).ext E7) K10 (allS (P := fun x => ∀ c : Cell, h7[x]? = some c → c.vm.isStatics = false) (own_pl_exa A7) all0)).ext E15) K18 (allS (P := fun x => ∀ c : Cell, h15[x]? = some c → c.vm.isStatics = false) (own_pl_exa A15) all0))
                have c25 : Exa Z h18 b7 oS1 := ((g10_0.ext E15).keep K18)
                have c26 : Fld Z h18 b7 oS1 "topic" oS2 (.ref a1_4) := ((g10_1.ext E15).keep K18 (ninS (own_ne (by omega)) nin0))
                have c27 : Fld Z h18 b7 oS1 "number" "I" (.int m10) := ((g10_2.ext E15).keep K18 (ninS (own_ne (by omega)) nin0))
                have c28 : Exa Z h18 a1_4 oS0 := (((c11.keep K10).ext E15).keep K18)
                have c29 : Fld Z h18 a1_4 oS0 "value" "[B" (.ref r_4) := (((c12.keep K10 (ninS (own_ne (by omega)) nin0)).ext E15).keep K18 (ninS (own_ne (by omega)) nin0))
                have c30 : Fld Z h18 a1_4 oS0 "coder" "B" (.int (0 : Int32)) := (((((g4_2.keep K5 nin0).ext E7).keep K10 (ninS (own_ne (by omega)) nin0)).ext E15).keep K18 (ninS (own_ne (by omega)) nin0))
                have c31 : Exa Z h18 a1_5 oS0 := (c19.keep K18)
                have c32 : Fld Z h18 a1_5 oS0 "value" "[B" (.ref r_5) := (c20.keep K18 (ninS (own_ne (by omega)) nin0))
                have c33 : Fld Z h18 a1_5 oS0 "coder" "B" (.int (0 : Int32)) := ((((g5_2.ext E7).keep K10 (ninS (own_ne (by omega)) nin0)).ext E15).keep K18 (ninS (own_ne (by omega)) nin0))
                have c34 : Arv Z h18 r_4 kr_4 .byte (1 : Int32) [(.int (own_by u6))] (.int (0 : Int32)) := (((c13.keep K10 (ninS (own_ne (by omega)) nin0)).ext E15).keep K18 (ninS (own_ne (by omega)) nin0))
                have c35 : Arv Z h18 r_5 kr_5 .byte (1 : Int32) [(.int (own_by u8))] (.int (0 : Int32)) := (c21.keep K18 (ninS (own_ne (by omega)) nin0))
                obtain ⟨cq23, kq23, q23a, q23b, q23c⟩ := isOf hZ ej22 c25
                obtain ⟨_, _, ⟨T23, LC23, kC23, nC23⟩, -, X23, ⟨Lc23, hQ23, lq23, yq23, zq23⟩, st23⟩ := Xj22.virtualBack hx (y := oM0) (z := oM0) hown (mvT hZ (own_hw hw 61)) (mvT hZ (own_hw hw 62)) (notFace_of_selects (args := #[]) (mvT hZ (own_hw hw 64))) (mvT hZ (own_hw hw 64)) (mvT hZ (own_hw hw 63)) (by decide) (backOf (W := 0) (rte_11 l Z a0 hw [] b7 b15 a1_4 a1_5 m10 m11 zc r_4 kr_4 r_5 kr_5 (own_by u6) (own_by u8) h18 n0 (by omega) c24 (by assumption) c25 c26 c27 g18_0 g18_1 g18_2 (own_ne (by omega)) c28 c29 c30 c31 c32 c33 c34 c35) hZ (own_hw hw 65) (own_hw hw 37) (by decide) (by decide)) q23a q23c (g := (mkF m 228 #[oi p0, oi p1, oi p2, oi p3, oi 1, oi 1, oi u6, oi u7, oi u8, oi u9, oi m10, oi m11, oR a1_4, oR a1_5, oR b7, oi 0, oR b15, oi f17, oi fx] [(.ref b15), (.ref b7)])) rfl (by rw [hml]; rfl) (Steps.refl _) (argsL := [(.ref b15)]) (rest := []) (lenOf pd_11 rfl) rfl (by show 2 * 0 + _ ≤ _; exact Nat.le_of_eq rfl) (hb hby at_228) (fun _ _ => ⟨rfl, ej22, (by decide : 12 + 0 ≤ _), (by decide : 64 + 0 ≤ _)⟩)
                dsimp only [Pt.U, Pt.locs, Pt.cells, Pt.slots] at X23 lq23 yq23 zq23 st23 hQ23
                subst lq23 yq23 zq23
                obtain ⟨rfl, Nq23, eq23⟩ := hQ23
                have N23 := Fr.app Nj22 Nq23
                refine own_go (st' := T23.setTop (mkF m 231 #[oi p0, oi p1, oi p2, oi p3, oi 1, oi 1, oi u6, oi u7, oi u8, oi u9, oi m10, oi m11, oR a1_4, oR a1_5, oR b7, oi 0, oR b15, oi f17, oi fx] [(.int (own_tp m10 m11 (own_eq1 (own_by u6) (own_by u8))))])) (fun _ k => st23.trans k) ?_
                refine own_go (st' := T23.setTop (mkF m 233 #[oi p0, oi p1, oi p2, oi p3, oi 1, oi 1, oi u6, oi u7, oi u8, oi u9, oi m10, oi m11, oR a1_4, oR a1_5, oR b7, oi 0, oR b15, oi f17, oi fx] [(.int fx), (.int (own_tp m10 m11 (own_eq1 (own_by u6) (own_by u8))))])) (fun _ k => XS.iload X23.here hx rfl (hb hby at_231) rfl k) ?_
                have hc36 : (own_tp m10 m11 (own_eq1 (own_by u6) (own_by u8))) = fx := hE1.symm
                refine own_go (st' := T23.setTop (mkF m 236 #[oi p0, oi p1, oi p2, oi p3, oi 1, oi 1, oi u6, oi u7, oi u8, oi u9, oi m10, oi m11, oR a1_4, oR a1_5, oR b7, oi 0, oR b15, oi f17, oi fx] [])) (fun _ k => XS.icmpNo X23.here hx rfl (hb hby at_233) rfl (teq hc36).2 k) ?_
                refine own_go (st' := T23.setTop (mkF m 238 #[oi p0, oi p1, oi p2, oi p3, oi 1, oi 1, oi u6, oi u7, oi u8, oi u9, oi m10, oi m11, oR a1_4, oR a1_5, oR b7, oi 0, oR b15, oi f17, oi fx] [(.ref b15)])) (fun _ k => XS.aload X23.here hx rfl (hb hby at_236) rfl rfl k) ?_
                refine own_go (st' := T23.setTop (mkF m 240 #[oi p0, oi p1, oi p2, oi p3, oi 1, oi 1, oi u6, oi u7, oi u8, oi u9, oi m10, oi m11, oR a1_4, oR a1_5, oR b7, oi 0, oR b15, oi f17, oi fx] [(.ref b7), (.ref b15)])) (fun _ k => XS.aload X23.here hx rfl (hb hby at_238) rfl rfl k) ?_
                obtain ⟨cq37, kq37, q37a, q37b, q37c⟩ := isOf hZ eq23 g18_0
                obtain ⟨_, _, ⟨T37, LC37, kC37, nC37⟩, -, X37, ⟨Lc37, hQ37, lq37, yq37, zq37⟩, st37⟩ := X23.virtualBack hx (y := oM0) (z := oM0) hown (mvT hZ (own_hw hw 61)) (mvT hZ (own_hw hw 62)) (notFace_of_selects (args := #[]) (mvT hZ (own_hw hw 64))) (mvT hZ (own_hw hw 64)) (mvT hZ (own_hw hw 63)) (by decide) (backOf (W := 0) (rte_11 l Z a0 hw [] b15 b7 a1_5 a1_4 m11 m10 zc r_5 kr_5 r_4 kr_4 (own_by u8) (own_by u6) h18 n0 (by omega) c24 (by assumption) g18_0 g18_1 g18_2 c25 c26 c27 (own_ne (by omega)) c31 c32 c33 c28 c29 c30 c35 c34) hZ (own_hw hw 65) (own_hw hw 37) (by decide) (by decide)) q37a q37c (g := (mkF m 240 #[oi p0, oi p1, oi p2, oi p3, oi 1, oi 1, oi u6, oi u7, oi u8, oi u9, oi m10, oi m11, oR a1_4, oR a1_5, oR b7, oi 0, oR b15, oi f17, oi fx] [(.ref b7), (.ref b15)])) rfl (by rw [hml]; rfl) (Steps.refl _) (argsL := [(.ref b7)]) (rest := []) (lenOf pd_11 rfl) rfl (by show 2 * 0 + _ ≤ _; exact Nat.le_of_eq rfl) (hb hby at_240) (fun _ _ => ⟨rfl, eq23, (by decide : 12 + 0 ≤ _), (by decide : 64 + 0 ≤ _)⟩)
                dsimp only [Pt.U, Pt.locs, Pt.cells, Pt.slots] at X37 lq37 yq37 zq37 st37 hQ37
                subst lq37 yq37 zq37
                obtain ⟨rfl, Nq37, eq37⟩ := hQ37
                have N37 := Fr.app N23 Nq37
                refine own_go (st' := T37.setTop (mkF m 243 #[oi p0, oi p1, oi p2, oi p3, oi 1, oi 1, oi u6, oi u7, oi u8, oi u9, oi m10, oi m11, oR a1_4, oR a1_5, oR b7, oi 0, oR b15, oi f17, oi fx] [(.int (own_tp m11 m10 (own_eq1 (own_by u8) (own_by u6))))])) (fun _ k => st37.trans k) ?_
                refine own_go (st' := T37.setTop (mkF m 245 #[oi p0, oi p1, oi p2, oi p3, oi 1, oi 1, oi u6, oi u7, oi u8, oi u9, oi m10, oi m11, oR a1_4, oR a1_5, oR b7, oi 0, oR b15, oi f17, oi fx] [(.int fx), (.int (own_tp m11 m10 (own_eq1 (own_by u8) (own_by u6))))])) (fun _ k => XS.iload X37.here hx rfl (hb hby at_243) rfl k) ?_
                have hc38 : (own_tp m11 m10 (own_eq1 (own_by u8) (own_by u6))) = fx := hE2.symm
                refine own_go (st' := T37.setTop (mkF m 248 #[oi p0, oi p1, oi p2, oi p3, oi 1, oi 1, oi u6, oi u7, oi u8, oi u9, oi m10, oi m11, oR a1_4, oR a1_5, oR b7, oi 0, oR b15, oi f17, oi fx] [])) (fun _ k => XS.icmpNo X37.here hx rfl (hb hby at_245) rfl (teq hc38).2 k) ?_
                refine own_go (st' := T37.setTop (mkF m 249 #[oi p0, oi p1, oi p2, oi p3, oi 1, oi 1, oi u6, oi u7, oi u8, oi u9, oi m10, oi m11, oR a1_4, oR a1_5, oR b7, oi 0, oR b15, oi f17, oi fx] [(.int (1 : Int32))])) (fun _ k => XS.iconst X37.here hx rfl (hb hby at_248) k) ?_
                refine own_go (st' := T37.setTop (mkF m 253 #[oi p0, oi p1, oi p2, oi p3, oi 1, oi 1, oi u6, oi u7, oi u8, oi u9, oi m10, oi m11, oR a1_4, oR a1_5, oR b7, oi 0, oR b15, oi f17, oi fx] [(.int (1 : Int32))])) (fun _ k => XS.goto X37.here hx rfl (pc0 := 249) (pc' := 253) rfl (hb hby at_249) (by decide) (by decide) k) ?_
                obtain ⟨fs, hr, hrun, hended, hR1, hR2, hR3, hR4⟩ := X37.leaveW hSj22 (by rw [eq37]; omega) (v := some (.int (1 : Int32))) (fun h => by rw [Bd.returns] at h; cases h)
                refine ⟨_, _, ?_, hP _ _ hrun hended ⟨_, _, rfl, ?_, hR1, hR2, hR3, hR4.mono (by decide) (by decide)⟩⟩
                · exact retN X37 hx (t := .boolean) Bd.returns (by simp) (hb hby at_253) hr
                · show Qrm0 Z p0 p1 p2 p3 ca zc h0 n0 _ T37.heap _
                  rw [eq37]
                  exact ⟨rfl, N37, trivial⟩
              refine own_go (st' := T18.setTop (mkF m 173 #[oi p0, oi p1, oi p2, oi p3, oi 1, oi 1, oi u6, oi u7, oi u8, oi u9, oi m10, oi m11, oR a1_4, oR a1_5, oR b7, oi 0, oR b15, .unset, .unset] [(.int (1 : Int32))])) (fun _ k => XS.iload X18.here hx rfl (hb hby at_171) rfl k) ?_
              refine own_go (st' := T18.setTop (mkF m 175 #[oi p0, oi p1, oi p2, oi p3, oi 1, oi 1, oi u6, oi u7, oi u8, oi u9, oi m10, oi m11, oR a1_4, oR a1_5, oR b7, oi 0, oR b15, .unset, .unset] [(.int (1 : Int32)), (.int (1 : Int32))])) (fun _ k => XS.iload X18.here hx rfl (hb hby at_173) rfl k) ?_
              have hc40 : (1 : Int32) = (1 : Int32) := by decide
              refine own_go (st' := T18.setTop (mkF m 178 #[oi p0, oi p1, oi p2, oi p3, oi 1, oi 1, oi u6, oi u7, oi u8, oi u9, oi m10, oi m11, oR a1_4, oR a1_5, oR b7, oi 0, oR b15, .unset, .unset] [])) (fun _ k => XS.icmpNo X18.here hx rfl (hb hby at_175) rfl (teq hc40).2 k) ?_
              refine own_go (st' := T18.setTop (mkF m 180 #[oi p0, oi p1, oi p2, oi p3, oi 1, oi 1, oi u6, oi u7, oi u8, oi u9, oi m10, oi m11, oR a1_4, oR a1_5, oR b7, oi 0, oR b15, .unset, .unset] [(.int u6)])) (fun _ k => XS.iload X18.here hx rfl (hb hby at_178) rfl k) ?_
              refine own_go (st' := T18.setTop (mkF m 182 #[oi p0, oi p1, oi p2, oi p3, oi 1, oi 1, oi u6, oi u7, oi u8, oi u9, oi m10, oi m11, oR a1_4, oR a1_5, oR b7, oi 0, oR b15, .unset, .unset] [(.int u8), (.int u6)])) (fun _ k => XS.iload X18.here hx rfl (hb hby at_180) rfl k) ?_
              by_cases hc41 : u6 = u8
              · --
                refine own_go (st' := T18.setTop (mkF m 185 #[oi p0, oi p1, oi p2, oi p3, oi 1, oi 1, oi u6, oi u7, oi u8, oi u9, oi m10, oi m11, oR a1_4, oR a1_5, oR b7, oi 0, oR b15, .unset, .unset] [])) (fun _ k => XS.icmpNo X18.here hx rfl (hb hby at_182) rfl (teq hc41).2 k) ?_
                refine own_go (st' := T18.setTop (mkF m 187 #[oi p0, oi p1, oi p2, oi p3, oi 1, oi 1, oi u6, oi u7, oi u8, oi u9, oi m10, oi m11, oR a1_4, oR a1_5, oR b7, oi 0, oR b15, .unset, .unset] [(.int (1 : Int32))])) (fun _ k => XS.iload X18.here hx rfl (hb hby at_185) rfl k) ?_
                refine own_go (st' := T18.setTop (mkF m 188 #[oi p0, oi p1, oi p2, oi p3, oi 1, oi 1, oi u6, oi u7, oi u8, oi u9, oi m10, oi m11, oR a1_4, oR a1_5, oR b7, oi 0, oR b15, .unset, .unset] [(.int (1 : Int32)), (.int (1 : Int32))])) (fun _ k => XS.iconst X18.here hx rfl (hb hby at_187) k) ?_
                have hc42 : (1 : Int32) = (1 : Int32) := by decide
                refine own_go (st' := T18.setTop (mkF m 198 #[oi p0, oi p1, oi p2, oi p3, oi 1, oi 1, oi u6, oi u7, oi u8, oi u9, oi m10, oi m11, oR a1_4, oR a1_5, oR b7, oi 0, oR b15, .unset, .unset] [])) (fun _ k => XS.icmpYes X18.here hx rfl (pc0 := 188) (pc' := 198) rfl (hb hby at_188) rfl (teq hc42).1 (by decide) (by decide) k) ?_
                refine own_go (st' := T18.setTop (mkF m 199 #[oi p0, oi p1, oi p2, oi p3, oi 1, oi 1, oi u6, oi u7, oi u8, oi u9, oi m10, oi m11, oR a1_4, oR a1_5, oR b7, oi 0, oR b15, .unset, .unset] [(.int (1 : Int32))])) (fun _ k => XS.iconst X18.here hx rfl (hb hby at_198) k) ?_
                refine own_go (st' := T18.setTop (mkF m 203 #[oi p0, oi p1, oi p2, oi p3, oi 1, oi 1, oi u6, oi u7, oi u8, oi u9, oi m10, oi m11, oR a1_4, oR a1_5, oR b7, oi 0, oR b15, .unset, .unset] [(.int (1 : Int32))])) (fun _ k => XS.goto X18.here hx rfl (pc0 := 199) (pc' := 203) rfl (hb hby at_199) (by decide) (by decide) k) ?_
                refine own_go (st' := T18.setTop (mkF m 205 #[oi p0, oi p1, oi p2, oi p3, oi 1, oi 1, oi u6, oi u7, oi u8, oi u9, oi m10, oi m11, oR a1_4, oR a1_5, oR b7, oi 0, oR b15, oi 1, .unset] [])) (fun _ k => XS.istore X18.here hx rfl (hb hby at_203) rfl (l' := #[oi p0, oi p1, oi p2, oi p3, oi 1, oi 1, oi u6, oi u7, oi u8, oi u9, oi m10, oi m11, oR a1_4, oR a1_5, oR b7, oi 0, oR b15, oi 1, .unset]) rfl k) ?_
                refine own_go (st' := T18.setTop (mkF m 207 #[oi p0, oi p1, oi p2, oi p3, oi 1, oi 1, oi u6, oi u7, oi u8, oi u9, oi m10, oi m11, oR a1_4, oR a1_5, oR b7, oi 0, oR b15, oi 1, .unset] [(.int (1 : Int32))])) (fun _ k => XS.iload X18.here hx rfl (hb hby at_205) rfl k) ?_
                have hc43 : ¬ ((1 : Int32) = (0 : Int32)) := by decide
                refine own_go (st' := T18.setTop (mkF m 210 #[oi p0, oi p1, oi p2, oi p3, oi 1, oi 1, oi u6, oi u7, oi u8, oi u9, oi m10, oi m11, oR a1_4, oR a1_5, oR b7, oi 0, oR b15, oi 1, .unset] [])) (fun _ k => XS.ifNo X18.here hx rfl (hb hby at_207) rfl ((if0 _ _).trans (feq hc43).1) k) ?_
                refine own_go (st' := T18.setTop (mkF m 212 #[oi p0, oi p1, oi p2, oi p3, oi 1, oi 1, oi u6, oi u7, oi u8, oi u9, oi m10, oi m11, oR a1_4, oR a1_5, oR b7, oi 0, oR b15, oi 1, .unset] [(.int m10)])) (fun _ k => XS.iload X18.here hx rfl (hb hby at_210) rfl k) ?_
                refine own_go (st' := T18.setTop (mkF m 214 #[oi p0, oi p1, oi p2, oi p3, oi 1, oi 1, oi u6, oi u7, oi u8, oi u9, oi m10, oi m11, oR a1_4, oR a1_5, oR b7, oi 0, oR b15, oi 1, .unset] [(.int m11), (.int m10)])) (fun _ k => XS.iload X18.here hx rfl (hb hby at_212) rfl k) ?_
                by_cases hc44 : m10 = m11
                · --
                  refine own_go (st' := T18.setTop (mkF m 217 #[oi p0, oi p1, oi p2, oi p3, oi 1, oi 1, oi u6, oi u7, oi u8, oi u9, oi m10, oi m11, oR a1_4, oR a1_5, oR b7, oi 0, oR b15, oi 1, .unset] [])) (fun _ k => XS.icmpNo X18.here hx rfl (hb hby at_214) rfl (teq hc44).2 k) ?_
                  refine own_go (st' := T18.setTop (mkF m 218 #[oi p0, oi p1, oi p2, oi p3, oi 1, oi 1, oi u6, oi u7, oi u8, oi u9, oi m10, oi m11, oR a1_4, oR a1_5, oR b7, oi 0, oR b15, oi 1, .unset] [(.int (1 : Int32))])) (fun _ k => XS.iconst X18.here hx rfl (hb hby at_217) k) ?_
                  refine own_go (st' := T18.setTop (mkF m 222 #[oi p0, oi p1, oi p2, oi p3, oi 1, oi 1, oi u6, oi u7, oi u8, oi u9, oi m10, oi m11, oR a1_4, oR a1_5, oR b7, oi 0, oR b15, oi 1, .unset] [(.int (1 : Int32))])) (fun _ k => XS.goto X18.here hx rfl (pc0 := 218) (pc' := 222) rfl (hb hby at_218) (by decide) (by decide) k) ?_
                  exact J222_22 _ _ (1 : Int32) (1 : Int32) _ _ X18 e18 N18 hS18 (by omega) hZ hown (by simp [own_tp, own_eq1, own_by_iff hl_u6 hl_u8, own_by_iff hl_u8 hl_u6, hc41, hc44]) (by simp [own_tp, own_eq1, own_by_iff hl_u6 hl_u8, own_by_iff hl_u8 hl_u6, hc41, hc44])
                · --
                  refine own_go (st' := T18.setTop (mkF m 221 #[oi p0, oi p1, oi p2, oi p3, oi 1, oi 1, oi u6, oi u7, oi u8, oi u9, oi m10, oi m11, oR a1_4, oR a1_5, oR b7, oi 0, oR b15, oi 1, .unset] [])) (fun _ k => XS.icmpYes X18.here hx rfl (pc0 := 214) (pc' := 221) rfl (hb hby at_214) rfl (feq hc44).2 (by decide) (by decide) k) ?_
                  refine own_go (st' := T18.setTop (mkF m 222 #[oi p0, oi p1, oi p2, oi p3, oi 1, oi 1, oi u6, oi u7, oi u8, oi u9, oi m10, oi m11, oR a1_4, oR a1_5, oR b7, oi 0, oR b15, oi 1, .unset] [(.int (0 : Int32))])) (fun _ k => XS.iconst X18.here hx rfl (hb hby at_221) k) ?_
                  exact J222_22 _ _ (0 : Int32) (1 : Int32) _ _ X18 e18 N18 hS18 (by omega) hZ hown (by simp [own_tp, own_eq1, own_by_iff hl_u6 hl_u8, own_by_iff hl_u8 hl_u6, hc41, hc44, (Ne.symm hc44)]) (by simp [own_tp, own_eq1, own_by_iff hl_u6 hl_u8, own_by_iff hl_u8 hl_u6, hc41, hc44, (Ne.symm hc44)])
              · --
                refine own_go (st' := T18.setTop (mkF m 202 #[oi p0, oi p1, oi p2, oi p3, oi 1, oi 1, oi u6, oi u7, oi u8, oi u9, oi m10, oi m11, oR a1_4, oR a1_5, oR b7, oi 0, oR b15, .unset, .unset] [])) (fun _ k => XS.icmpYes X18.here hx rfl (pc0 := 182) (pc' := 202) rfl (hb hby at_182) rfl (feq hc41).2 (by decide) (by decide) k) ?_
                refine own_go (st' := T18.setTop (mkF m 203 #[oi p0, oi p1, oi p2, oi p3, oi 1, oi 1, oi u6, oi u7, oi u8, oi u9, oi m10, oi m11, oR a1_4, oR a1_5, oR b7, oi 0, oR b15, .unset, .unset] [(.int (0 : Int32))])) (fun _ k => XS.iconst X18.here hx rfl (hb hby at_202) k) ?_
                refine own_go (st' := T18.setTop (mkF m 205 #[oi p0, oi p1, oi p2, oi p3, oi 1, oi 1, oi u6, oi u7, oi u8, oi u9, oi m10, oi m11, oR a1_4, oR a1_5, oR b7, oi 0, oR b15, oi 0, .unset] [])) (fun _ k => XS.istore X18.here hx rfl (hb hby at_203) rfl (l' := #[oi p0, oi p1, oi p2, oi p3, oi 1, oi 1, oi u6, oi u7, oi u8, oi u9, oi m10, oi m11, oR a1_4, oR a1_5, oR b7, oi 0, oR b15, oi 0, .unset]) rfl k) ?_
                refine own_go (st' := T18.setTop (mkF m 207 #[oi p0, oi p1, oi p2, oi p3, oi 1, oi 1, oi u6, oi u7, oi u8, oi u9, oi m10, oi m11, oR a1_4, oR a1_5, oR b7, oi 0, oR b15, oi 0, .unset] [(.int (0 : Int32))])) (fun _ k => XS.iload X18.here hx rfl (hb hby at_205) rfl k) ?_
                have hc45 : (0 : Int32) = (0 : Int32) := by decide
                refine own_go (st' := T18.setTop (mkF m 221 #[oi p0, oi p1, oi p2, oi p3, oi 1, oi 1, oi u6, oi u7, oi u8, oi u9, oi m10, oi m11, oR a1_4, oR a1_5, oR b7, oi 0, oR b15, oi 0, .unset] [])) (fun _ k => XS.ifYes X18.here hx rfl (pc0 := 207) (pc' := 221) rfl (hb hby at_207) rfl ((if0 _ _).trans (teq hc45).1) (by decide) (by decide) k) ?_
                refine own_go (st' := T18.setTop (mkF m 222 #[oi p0, oi p1, oi p2, oi p3, oi 1, oi 1, oi u6, oi u7, oi u8, oi u9, oi m10, oi m11, oR a1_4, oR a1_5, oR b7, oi 0, oR b15, oi 0, .unset] [(.int (0 : Int32))])) (fun _ k => XS.iconst X18.here hx rfl (hb hby at_221) k) ?_
                exact J222_22 _ _ (0 : Int32) (0 : Int32) _ _ X18 e18 N18 hS18 (by omega) hZ hown (by simp [own_tp, own_eq1, own_by_iff hl_u6 hl_u8, own_by_iff hl_u8 hl_u6, hc41, (Ne.symm hc41)]) (by simp [own_tp, own_eq1, own_by_iff hl_u6 hl_u8, own_by_iff hl_u8 hl_u6, hc41, (Ne.symm hc41)])
            · --
              refine own_go (st' := T10.setTop (mkF m 153 #[oi p0, oi p1, oi p2, oi p3, oi 1, oi 1, oi u6, oi u7, oi u8, oi u9, oi m10, oi m11, oR a1_4, oR a1_5, oR b7, oi 1, .unset, .unset, .unset] [])) (fun _ k => XS.istore X10.here hx rfl (hb hby at_151) rfl (l' := #[oi p0, oi p1, oi p2, oi p3, oi 1, oi 1, oi u6, oi u7, oi u8, oi u9, oi m10, oi m11, oR a1_4, oR a1_5, oR b7, oi 1, .unset, .unset, .unset]) rfl k) ?_
              refine own_go (st' := T10.setTop (mkF m 155 #[oi p0, oi p1, oi p2, oi p3, oi 1, oi 1, oi u6, oi u7, oi u8, oi u9, oi m10, oi m11, oR a1_4, oR a1_5, oR b7, oi 1, .unset, .unset, .unset] [(.int (1 : Int32))])) (fun _ k => XS.iload X10.here hx rfl (hb hby at_153) rfl k) ?_
              have hc46 : ¬ ((1 : Int32) = (0 : Int32)) := by decide
              refine own_go (st' := T10.setTop (mkF m 254 #[oi p0, oi p1, oi p2, oi p3, oi 1, oi 1, oi u6, oi u7, oi u8, oi u9, oi m10, oi m11, oR a1_4, oR a1_5, oR b7, oi 1, .unset, .unset, .unset] [])) (fun _ k => XS.ifYes X10.here hx rfl (pc0 := 155) (pc' := 254) rfl (hb hby at_155) rfl ((if0 _ _).trans (feq hc46).2) (by decide) (by decide) k) ?_
              refine own_go (st' := T10.setTop (mkF m 256 #[oi p0, oi p1, oi p2, oi p3, oi 1, oi 1, oi u6, oi u7, oi u8, oi u9, oi m10, oi m11, oR a1_4, oR a1_5, oR b7, oi 1, .unset, .unset, .unset] [(.int (1 : Int32))])) (fun _ k => XS.iload X10.here hx rfl (hb hby at_254) rfl k) ?_
              refine own_go (st' := T10.setTop (mkF m 257 #[oi p0, oi p1, oi p2, oi p3, oi 1, oi 1, oi u6, oi u7, oi u8, oi u9, oi m10, oi m11, oR a1_4, oR a1_5, oR b7, oi 1, .unset, .unset, .unset] [(.int (1 : Int32)), (.int (1 : Int32))])) (fun _ k => XS.iconst X10.here hx rfl (hb hby at_256) k) ?_
              have hc47 : (1 : Int32) = (1 : Int32) := by decide
              refine own_go (st' := T10.setTop (mkF m 260 #[oi p0, oi p1, oi p2, oi p3, oi 1, oi 1, oi u6, oi u7, oi u8, oi u9, oi m10, oi m11, oR a1_4, oR a1_5, oR b7, oi 1, .unset, .unset, .unset] [])) (fun _ k => XS.icmpNo X10.here hx rfl (hb hby at_257) rfl (teq hc47).2 k) ?_
              refine own_go (st' := T10.setTop (mkF m 261 #[oi p0, oi p1, oi p2, oi p3, oi 1, oi 1, oi u6, oi u7, oi u8, oi u9, oi m10, oi m11, oR a1_4, oR a1_5, oR b7, oi 1, .unset, .unset, .unset] [.null])) (fun _ k => XS.aconstNull X10.here hx rfl (hb hby at_260) k) ?_
              refine own_go (st' := T10.setTop (mkF m 263 #[oi p0, oi p1, oi p2, oi p3, oi 1, oi 1, oi u6, oi u7, oi u8, oi u9, oi m10, oi m11, oR a1_4, oR a1_5, oR b7, oi 1, .val .null, .unset, .unset] [])) (fun _ k => XS.astore X10.here hx rfl (hb hby at_261) rfl rfl (l' := #[oi p0, oi p1, oi p2, oi p3, oi 1, oi 1, oi u6, oi u7, oi u8, oi u9, oi m10, oi m11, oR a1_4, oR a1_5, oR b7, oi 1, .val .null, .unset, .unset]) rfl k) ?_
              refine own_go (st' := T10.setTop (mkF m 286 #[oi p0, oi p1, oi p2, oi p3, oi 1, oi 1, oi u6, oi u7, oi u8, oi u9, oi m10, oi m11, oR a1_4, oR a1_5, oR b7, oi 1, .val .null, .unset, .unset] [])) (fun _ k => XS.goto X10.here hx rfl (pc0 := 263) (pc' := 286) rfl (hb hby at_263) (by decide) (by decide) k) ?_
              refine own_go (st' := T10.setTop (mkF m 288 #[oi p0, oi p1, oi p2, oi p3, oi 1, oi 1, oi u6, oi u7, oi u8, oi u9, oi m10, oi m11, oR a1_4, oR a1_5, oR b7, oi 1, .val .null, .unset, .unset] [(.ref b7)])) (fun _ k => XS.aload X10.here hx rfl (hb hby at_286) rfl rfl k) ?_
              refine own_go (st' := T10.setTop (mkF m 290 #[oi p0, oi p1, oi p2, oi p3, oi 1, oi 1, oi u6, oi u7, oi u8, oi u9, oi m10, oi m11, oR a1_4, oR a1_5, oR b7, oi 1, .val .null, .unset, .unset] [.null, (.ref b7)])) (fun _ k => XS.aload X10.here hx rfl (hb hby at_288) rfl rfl k) ?_
              obtain ⟨cq48, kq48, q48a, q48b, q48c⟩ := isOf hZ e10 g10_0
              obtain ⟨_, _, ⟨T48, LC48, kC48, nC48⟩, -, X48, ⟨Lc48, hQ48, lq48, yq48, zq48⟩, st48⟩ := X10.virtualBack hx (y := oM0) (z := oM0) hown (mvT hZ (own_hw hw 61)) (mvT hZ (own_hw hw 62)) (notFace_of_selects (args := #[]) (mvT hZ (own_hw hw 64))) (mvT hZ (own_hw hw 64)) (mvT hZ (own_hw hw 63)) (by decide) (backOf (W := 0) (rte_null l Z a0 hw [] b7 h10 n0 (by omega) ) hZ (own_hw hw 65) (own_hw hw 37) (by decide) (by decide)) q48a q48c (g := (mkF m 290 #[oi p0, oi p1, oi p2, oi p3, oi 1, oi 1, oi u6, oi u7, oi u8, oi u9, oi m10, oi m11, oR a1_4, oR a1_5, oR b7, oi 1, .val .null, .unset, .unset] [.null, (.ref b7)])) rfl (by rw [hml]; rfl) (Steps.refl _) (argsL := [.null]) (rest := []) (lenOf pd_11 rfl) rfl (by show 2 * 0 + _ ≤ _; exact Nat.le_of_eq rfl) (hb hby at_290) (fun _ _ => ⟨rfl, e10, (by decide : 9 + 0 ≤ _), (by decide : 38 + 0 ≤ _)⟩)
              dsimp only [Pt.U, Pt.locs, Pt.cells, Pt.slots] at X48 lq48 yq48 zq48 st48 hQ48
              subst lq48 yq48 zq48
              obtain ⟨rfl, Nq48, eq48⟩ := hQ48
              have N48 := Fr.app N10 Nq48
              refine own_go (st' := T48.setTop (mkF m 293 #[oi p0, oi p1, oi p2, oi p3, oi 1, oi 1, oi u6, oi u7, oi u8, oi u9, oi m10, oi m11, oR a1_4, oR a1_5, oR b7, oi 1, .val .null, .unset, .unset] [(.int (0 : Int32))])) (fun _ k => st48.trans k) ?_
              have hc49 : (0 : Int32) = (0 : Int32) := by decide
              refine own_go (st' := T48.setTop (mkF m 296 #[oi p0, oi p1, oi p2, oi p3, oi 1, oi 1, oi u6, oi u7, oi u8, oi u9, oi m10, oi m11, oR a1_4, oR a1_5, oR b7, oi 1, .val .null, .unset, .unset] [])) (fun _ k => XS.ifNo X48.here hx rfl (hb hby at_293) rfl ((if0 _ _).trans (teq hc49).2) k) ?_
              refine own_go (st' := T48.setTop (mkF m 298 #[oi p0, oi p1, oi p2, oi p3, oi 1, oi 1, oi u6, oi u7, oi u8, oi u9, oi m10, oi m11, oR a1_4, oR a1_5, oR b7, oi 1, .val .null, .unset, .unset] [(.ref b7)])) (fun _ k => XS.aload X48.here hx rfl (hb hby at_296) rfl rfl k) ?_
              refine own_go (st' := T48.setTop (mkF m 300 #[oi p0, oi p1, oi p2, oi p3, oi 1, oi 1, oi u6, oi u7, oi u8, oi u9, oi m10, oi m11, oR a1_4, oR a1_5, oR b7, oi 1, .val .null, .unset, .unset] [(.ref b7), (.ref b7)])) (fun _ k => XS.aload X48.here hx rfl (hb hby at_298) rfl rfl k) ?_
              have c51 : Exa Z h10 a1_4 oS0 := (c11.keep K10)
              obtain ⟨cq50, kq50, q50a, q50b, q50c⟩ := isOf hZ eq48 g10_0
              obtain ⟨_, _, ⟨T50, LC50, kC50, nC50⟩, -, X50, ⟨Lc50, hQ50, lq50, yq50, zq50⟩, st50⟩ := X48.virtualBack hx (y := oM0) (z := oM0) hown (mvT hZ (own_hw hw 61)) (mvT hZ (own_hw hw 62)) (notFace_of_selects (args := #[]) (mvT hZ (own_hw hw 64))) (mvT hZ (own_hw hw 64)) (mvT hZ (own_hw hw 63)) (by decide) (backOf (W := 0) (rte_self l Z a0 hw [] b7 a1_4 m10 h10 n0 (by omega) g10_0 g10_1 g10_2 c51) hZ (own_hw hw 65) (own_hw hw 37) (by decide) (by decide)) q50a q50c (g := (mkF m 300 #[oi p0, oi p1, oi p2, oi p3, oi 1, oi 1, oi u6, oi u7, oi u8, oi u9, oi m10, oi m11, oR a1_4, oR a1_5, oR b7, oi 1, .val .null, .unset, .unset] [(.ref b7), (.ref b7)])) rfl (by rw [hml]; rfl) (Steps.refl _) (argsL := [(.ref b7)]) (rest := []) (lenOf pd_11 rfl) rfl (by show 2 * 0 + _ ≤ _; exact Nat.le_of_eq rfl) (hb hby at_300) (fun _ _ => ⟨rfl, eq48, (by decide : 9 + 0 ≤ _), (by decide : 38 + 0 ≤ _)⟩)
              dsimp only [Pt.U, Pt.locs, Pt.cells, Pt.slots] at X50 lq50 yq50 zq50 st50 hQ50
              subst lq50 yq50 zq50
              obtain ⟨rfl, Nq50, eq50⟩ := hQ50
              have N50 := Fr.app N48 Nq50
              refine own_go (st' := T50.setTop (mkF m 303 #[oi p0, oi p1, oi p2, oi p3, oi 1, oi 1, oi u6, oi u7, oi u8, oi u9, oi m10, oi m11, oR a1_4, oR a1_5, oR b7, oi 1, .val .null, .unset, .unset] [(.int (1 : Int32))])) (fun _ k => st50.trans k) ?_
              have hc52 : ¬ ((1 : Int32) = (0 : Int32)) := by decide
              refine own_go (st' := T50.setTop (mkF m 306 #[oi p0, oi p1, oi p2, oi p3, oi 1, oi 1, oi u6, oi u7, oi u8, oi u9, oi m10, oi m11, oR a1_4, oR a1_5, oR b7, oi 1, .val .null, .unset, .unset] [])) (fun _ k => XS.ifNo X50.here hx rfl (hb hby at_303) rfl ((if0 _ _).trans (feq hc52).1) k) ?_
              refine own_go (st' := T50.setTop (mkF m 307 #[oi p0, oi p1, oi p2, oi p3, oi 1, oi 1, oi u6, oi u7, oi u8, oi u9, oi m10, oi m11, oR a1_4, oR a1_5, oR b7, oi 1, .val .null, .unset, .unset] [(.int (1 : Int32))])) (fun _ k => XS.iconst X50.here hx rfl (hb hby at_306) k) ?_
              refine own_go (st' := T50.setTop (mkF m 311 #[oi p0, oi p1, oi p2, oi p3, oi 1, oi 1, oi u6, oi u7, oi u8, oi u9, oi m10, oi m11, oR a1_4, oR a1_5, oR b7, oi 1, .val .null, .unset, .unset] [(.int (1 : Int32))])) (fun _ k => XS.goto X50.here hx rfl (pc0 := 307) (pc' := 311) rfl (hb hby at_307) (by decide) (by decide) k) ?_
              obtain ⟨fs, hr, hrun, hended, hR1, hR2, hR3, hR4⟩ := X50.leaveW hS10 (by rw [eq50]; omega) (v := some (.int (1 : Int32))) (fun h => by rw [Bd.returns] at h; cases h)
              refine ⟨_, _, ?_, hP _ _ hrun hended ⟨_, _, rfl, ?_, hR1, hR2, hR3, hR4.mono (by decide) (by decide)⟩⟩
              · exact retN X50 hx (t := .boolean) Bd.returns (by simp) (hb hby at_311) hr
              · show Qrm0 Z p0 p1 p2 p3 ca zc h0 n0 _ T50.heap _
                rw [eq50]
                exact ⟨rfl, N50, trivial⟩
            · --
              refine own_go (st' := T10.setTop (mkF m 153 #[oi p0, oi p1, oi p2, oi p3, oi 1, oi 1, oi u6, oi u7, oi u8, oi u9, oi m10, oi m11, oR a1_4, oR a1_5, oR b7, oi 2, .unset, .unset, .unset] [])) (fun _ k => XS.istore X10.here hx rfl (hb hby at_151) rfl (l' := #[oi p0, oi p1, oi p2, oi p3, oi 1, oi 1, oi u6, oi u7, oi u8, oi u9, oi m10, oi m11, oR a1_4, oR a1_5, oR b7, oi 2, .unset, .unset, .unset]) rfl k) ?_
              refine own_go (st' := T10.setTop (mkF m 155 #[oi p0, oi p1, oi p2, oi p3, oi 1, oi 1, oi u6, oi u7, oi u8, oi u9, oi m10, oi m11, oR a1_4, oR a1_5, oR b7, oi 2, .unset, .unset, .unset] [(.int (2 : Int32))])) (fun _ k => XS.iload X10.here hx rfl (hb hby at_153) rfl k) ?_
              have hc54 : ¬ ((2 : Int32) = (0 : Int32)) := by decide
              refine own_go (st' := T10.setTop (mkF m 254 #[oi p0, oi p1, oi p2, oi p3, oi 1, oi 1, oi u6, oi u7, oi u8, oi u9, oi m10, oi m11, oR a1_4, oR a1_5, oR b7, oi 2, .unset, .unset, .unset] [])) (fun _ k => XS.ifYes X10.here hx rfl (pc0 := 155) (pc' := 254) rfl (hb hby at_155) rfl ((if0 _ _).trans (feq hc54).2) (by decide) (by decide) k) ?_
              refine own_go (st' := T10.setTop (mkF m 256 #[oi p0, oi p1, oi p2, oi p3, oi 1, oi 1, oi u6, oi u7, oi u8, oi u9, oi m10, oi m11, oR a1_4, oR a1_5, oR b7, oi 2, .unset, .unset, .unset] [(.int (2 : Int32))])) (fun _ k => XS.iload X10.here hx rfl (hb hby at_254) rfl k) ?_
              refine own_go (st' := T10.setTop (mkF m 257 #[oi p0, oi p1, oi p2, oi p3, oi 1, oi 1, oi u6, oi u7, oi u8, oi u9, oi m10, oi m11, oR a1_4, oR a1_5, oR b7, oi 2, .unset, .unset, .unset] [(.int (1 : Int32)), (.int (2 : Int32))])) (fun _ k => XS.iconst X10.here hx rfl (hb hby at_256) k) ?_
              have hc55 : ¬ ((2 : Int32) = (1 : Int32)) := by decide
              refine own_go (st' := T10.setTop (mkF m 266 #[oi p0, oi p1, oi p2, oi p3, oi 1, oi 1, oi u6, oi u7, oi u8, oi u9, oi m10, oi m11, oR a1_4, oR a1_5, oR b7, oi 2, .unset, .unset, .unset] [])) (fun _ k => XS.icmpYes X10.here hx rfl (pc0 := 257) (pc' := 266) rfl (hb hby at_257) rfl (feq hc55).2 (by decide) (by decide) k) ?_
              refine own_go (st' := T10.setTop (mkF m 268 #[oi p0, oi p1, oi p2, oi p3, oi 1, oi 1, oi u6, oi u7, oi u8, oi u9, oi m10, oi m11, oR a1_4, oR a1_5, oR b7, oi 2, .unset, .unset, .unset] [(.int (2 : Int32))])) (fun _ k => XS.iload X10.here hx rfl (hb hby at_266) rfl k) ?_
              refine own_go (st' := T10.setTop (mkF m 269 #[oi p0, oi p1, oi p2, oi p3, oi 1, oi 1, oi u6, oi u7, oi u8, oi u9, oi m10, oi m11, oR a1_4, oR a1_5, oR b7, oi 2, .unset, .unset, .unset] [(.int (2 : Int32)), (.int (2 : Int32))])) (fun _ k => XS.iconst X10.here hx rfl (hb hby at_268) k) ?_
              have hc56 : (2 : Int32) = (2 : Int32) := by decide
              refine own_go (st' := T10.setTop (mkF m 272 #[oi p0, oi p1, oi p2, oi p3, oi 1, oi 1, oi u6, oi u7, oi u8, oi u9, oi m10, oi m11, oR a1_4, oR a1_5, oR b7, oi 2, .unset, .unset, .unset] [])) (fun _ k => XS.icmpNo X10.here hx rfl (hb hby at_269) rfl (teq hc56).2 k) ?_
              refine own_go (st' := T10.setTop (mkF m 274 #[oi p0, oi p1, oi p2, oi p3, oi 1, oi 1, oi u6, oi u7, oi u8, oi u9, oi m10, oi m11, oR a1_4, oR a1_5, oR b7, oi 2, .unset, .unset, .unset] [(.ref a1_4)])) (fun _ k => XS.aload X10.here hx rfl (hb hby at_272) rfl rfl k) ?_
              refine own_go (st' := T10.setTop (mkF m 276 #[oi p0, oi p1, oi p2, oi p3, oi 1, oi 1, oi u6, oi u7, oi u8, oi u9, oi m10, oi m11, oR a1_4, oR a1_5, oR b7, oi 2, oR a1_4, .unset, .unset] [])) (fun _ k => XS.astore X10.here hx rfl (hb hby at_274) rfl rfl (l' := #[oi p0, oi p1, oi p2, oi p3, oi 1, oi 1, oi u6, oi u7, oi u8, oi u9, oi m10, oi m11, oR a1_4, oR a1_5, oR b7, oi 2, oR a1_4, .unset, .unset]) rfl k) ?_
              refine own_go (st' := T10.setTop (mkF m 286 #[oi p0, oi p1, oi p2, oi p3, oi 1, oi 1, oi u6, oi u7, oi u8, oi u9, oi m10, oi m11, oR a1_4, oR a1_5, oR b7, oi 2, oR a1_4, .unset, .unset] [])) (fun _ k => XS.goto X10.here hx rfl (pc0 := 276) (pc' := 286) rfl (hb hby at_276) (by decide) (by decide) k) ?_
              refine own_go (st' := T10.setTop (mkF m 288 #[oi p0, oi p1, oi p2, oi p3, oi 1, oi 1, oi u6, oi u7, oi u8, oi u9, oi m10, oi m11, oR a1_4, oR a1_5, oR b7, oi 2, oR a1_4, .unset, .unset] [(.ref b7)])) (fun _ k => XS.aload X10.here hx rfl (hb hby at_286) rfl rfl k) ?_
              refine own_go (st' := T10.setTop (mkF m 290 #[oi p0, oi p1, oi p2, oi p3, oi 1, oi 1, oi u6, oi u7, oi u8, oi u9, oi m10, oi m11, oR a1_4, oR a1_5, oR b7, oi 2, oR a1_4, .unset, .unset] [(.ref a1_4), (.ref b7)])) (fun _ k => XS.aload X10.here hx rfl (hb hby at_288) rfl rfl k) ?_
              have c58 : Exa Z h10 a1_4 oS0 := (c11.keep K10)
              obtain ⟨cq57, kq57, q57a, q57b, q57c⟩ := isOf hZ e10 g10_0
              obtain ⟨_, _, ⟨T57, LC57, kC57, nC57⟩, -, X57, ⟨Lc57, hQ57, lq57, yq57, zq57⟩, st57⟩ := X10.virtualBack hx (y := oM0) (z := oM0) hown (mvT hZ (own_hw hw 61)) (mvT hZ (own_hw hw 62)) (notFace_of_selects (args := #[]) (mvT hZ (own_hw hw 64))) (mvT hZ (own_hw hw 64)) (mvT hZ (own_hw hw 63)) (by decide) (backOf (W := 0) (rte_str l Z a0 hw [] b7 a1_4 h10 n0 (by omega) c58) hZ (own_hw hw 65) (own_hw hw 37) (by decide) (by decide)) q57a q57c (g := (mkF m 290 #[oi p0, oi p1, oi p2, oi p3, oi 1, oi 1, oi u6, oi u7, oi u8, oi u9, oi m10, oi m11, oR a1_4, oR a1_5, oR b7, oi 2, oR a1_4, .unset, .unset] [(.ref a1_4), (.ref b7)])) rfl (by rw [hml]; rfl) (Steps.refl _) (argsL := [(.ref a1_4)]) (rest := []) (lenOf pd_11 rfl) rfl (by show 2 * 0 + _ ≤ _; exact Nat.le_of_eq rfl) (hb hby at_290) (fun _ _ => ⟨rfl, e10, (by decide : 9 + 0 ≤ _), (by decide : 38 + 0 ≤ _)⟩)
              dsimp only [Pt.U, Pt.locs, Pt.cells, Pt.slots] at X57 lq57 yq57 zq57 st57 hQ57
              subst lq57 yq57 zq57
              obtain ⟨rfl, Nq57, eq57⟩ := hQ57
              have N57 := Fr.app N10 Nq57
              refine own_go (st' := T57.setTop (mkF m 293 #[oi p0, oi p1, oi p2, oi p3, oi 1, oi 1, oi u6, oi u7, oi u8, oi u9, oi m10, oi m11, oR a1_4, oR a1_5, oR b7, oi 2, oR a1_4, .unset, .unset] [(.int (0 : Int32))])) (fun _ k => st57.trans k) ?_
              have hc59 : (0 : Int32) = (0 : Int32) := by decide
              refine own_go (st' := T57.setTop (mkF m 296 #[oi p0, oi p1, oi p2, oi p3, oi 1, oi 1, oi u6, oi u7, oi u8, oi u9, oi m10, oi m11, oR a1_4, oR a1_5, oR b7, oi 2, oR a1_4, .unset, .unset] [])) (fun _ k => XS.ifNo X57.here hx rfl (hb hby at_293) rfl ((if0 _ _).trans (teq hc59).2) k) ?_
              refine own_go (st' := T57.setTop (mkF m 298 #[oi p0, oi p1, oi p2, oi p3, oi 1, oi 1, oi u6, oi u7, oi u8, oi u9, oi m10, oi m11, oR a1_4, oR a1_5, oR b7, oi 2, oR a1_4, .unset, .unset] [(.ref b7)])) (fun _ k => XS.aload X57.here hx rfl (hb hby at_296) rfl rfl k) ?_
              refine own_go (st' := T57.setTop (mkF m 300 #[oi p0, oi p1, oi p2, oi p3, oi 1, oi 1, oi u6, oi u7, oi u8, oi u9, oi m10, oi m11, oR a1_4, oR a1_5, oR b7, oi 2, oR a1_4, .unset, .unset] [(.ref b7), (.ref b7)])) (fun _ k => XS.aload X57.here hx rfl (hb hby at_298) rfl rfl k) ?_
              obtain ⟨cq60, kq60, q60a, q60b, q60c⟩ := isOf hZ eq57 g10_0
              obtain ⟨_, _, ⟨T60, LC60, kC60, nC60⟩, -, X60, ⟨Lc60, hQ60, lq60, yq60, zq60⟩, st60⟩ := X57.virtualBack hx (y := oM0) (z := oM0) hown (mvT hZ (own_hw hw 61)) (mvT hZ (own_hw hw 62)) (notFace_of_selects (args := #[]) (mvT hZ (own_hw hw 64))) (mvT hZ (own_hw hw 64)) (mvT hZ (own_hw hw 63)) (by decide) (backOf (W := 0) (rte_self l Z a0 hw [] b7 a1_4 m10 h10 n0 (by omega) g10_0 g10_1 g10_2 c58) hZ (own_hw hw 65) (own_hw hw 37) (by decide) (by decide)) q60a q60c (g := (mkF m 300 #[oi p0, oi p1, oi p2, oi p3, oi 1, oi 1, oi u6, oi u7, oi u8, oi u9, oi m10, oi m11, oR a1_4, oR a1_5, oR b7, oi 2, oR a1_4, .unset, .unset] [(.ref b7), (.ref b7)])) rfl (by rw [hml]; rfl) (Steps.refl _) (argsL := [(.ref b7)]) (rest := []) (lenOf pd_11 rfl) rfl (by show 2 * 0 + _ ≤ _; exact Nat.le_of_eq rfl) (hb hby at_300) (fun _ _ => ⟨rfl, eq57, (by decide : 9 + 0 ≤ _), (by decide : 38 + 0 ≤ _)⟩)
              dsimp only [Pt.U, Pt.locs, Pt.cells, Pt.slots] at X60 lq60 yq60 zq60 st60 hQ60
              subst lq60 yq60 zq60
              obtain ⟨rfl, Nq60, eq60⟩ := hQ60
              have N60 := Fr.app N57 Nq60
              refine own_go (st' := T60.setTop (mkF m 303 #[oi p0, oi p1, oi p2, oi p3, oi 1, oi 1, oi u6, oi u7, oi u8, oi u9, oi m10, oi m11, oR a1_4, oR a1_5, oR b7, oi 2, oR a1_4, .unset, .unset] [(.int (1 : Int32))])) (fun _ k => st60.trans k) ?_
              have hc61 : ¬ ((1 : Int32) = (0 : Int32)) := by decide
              refine own_go (st' := T60.setTop (mkF m 306 #[oi p0, oi p1, oi p2, oi p3, oi 1, oi 1, oi u6, oi u7, oi u8, oi u9, oi m10, oi m11, oR a1_4, oR a1_5, oR b7, oi 2, oR a1_4, .unset, .unset] [])) (fun _ k => XS.ifNo X60.here hx rfl (hb hby at_303) rfl ((if0 _ _).trans (feq hc61).1) k) ?_
              refine own_go (st' := T60.setTop (mkF m 307 #[oi p0, oi p1, oi p2, oi p3, oi 1, oi 1, oi u6, oi u7, oi u8, oi u9, oi m10, oi m11, oR a1_4, oR a1_5, oR b7, oi 2, oR a1_4, .unset, .unset] [(.int (1 : Int32))])) (fun _ k => XS.iconst X60.here hx rfl (hb hby at_306) k) ?_
              refine own_go (st' := T60.setTop (mkF m 311 #[oi p0, oi p1, oi p2, oi p3, oi 1, oi 1, oi u6, oi u7, oi u8, oi u9, oi m10, oi m11, oR a1_4, oR a1_5, oR b7, oi 2, oR a1_4, .unset, .unset] [(.int (1 : Int32))])) (fun _ k => XS.goto X60.here hx rfl (pc0 := 307) (pc' := 311) rfl (hb hby at_307) (by decide) (by decide) k) ?_
              obtain ⟨fs, hr, hrun, hended, hR1, hR2, hR3, hR4⟩ := X60.leaveW hS10 (by rw [eq60]; omega) (v := some (.int (1 : Int32))) (fun h => by rw [Bd.returns] at h; cases h)
              refine ⟨_, _, ?_, hP _ _ hrun hended ⟨_, _, rfl, ?_, hR1, hR2, hR3, hR4.mono (by decide) (by decide)⟩⟩
              · exact retN X60 hx (t := .boolean) Bd.returns (by simp) (hb hby at_311) hr
              · show Qrm0 Z p0 p1 p2 p3 ca zc h0 n0 _ T60.heap _
                rw [eq60]
                exact ⟨rfl, N60, trivial⟩
            · --
              refine own_go (st' := T10.setTop (mkF m 153 #[oi p0, oi p1, oi p2, oi p3, oi 1, oi 1, oi u6, oi u7, oi u8, oi u9, oi m10, oi m11, oR a1_4, oR a1_5, oR b7, oi 3, .unset, .unset, .unset] [])) (fun _ k => XS.istore X10.here hx rfl (hb hby at_151) rfl (l' := #[oi p0, oi p1, oi p2, oi p3, oi 1, oi 1, oi u6, oi u7, oi u8, oi u9, oi m10, oi m11, oR a1_4, oR a1_5, oR b7, oi 3, .unset, .unset, .unset]) rfl k) ?_
              refine own_go (st' := T10.setTop (mkF m 155 #[oi p0, oi p1, oi p2, oi p3, oi 1, oi 1, oi u6, oi u7, oi u8, oi u9, oi m10, oi m11, oR a1_4, oR a1_5, oR b7, oi 3, .unset, .unset, .unset] [(.int (3 : Int32))])) (fun _ k => XS.iload X10.here hx rfl (hb hby at_153) rfl k) ?_
              have hc63 : ¬ ((3 : Int32) = (0 : Int32)) := by decide
              refine own_go (st' := T10.setTop (mkF m 254 #[oi p0, oi p1, oi p2, oi p3, oi 1, oi 1, oi u6, oi u7, oi u8, oi u9, oi m10, oi m11, oR a1_4, oR a1_5, oR b7, oi 3, .unset, .unset, .unset] [])) (fun _ k => XS.ifYes X10.here hx rfl (pc0 := 155) (pc' := 254) rfl (hb hby at_155) rfl ((if0 _ _).trans (feq hc63).2) (by decide) (by decide) k) ?_
              refine own_go (st' := T10.setTop (mkF m 256 #[oi p0, oi p1, oi p2, oi p3, oi 1, oi 1, oi u6, oi u7, oi u8, oi u9, oi m10, oi m11, oR a1_4, oR a1_5, oR b7, oi 3, .unset, .unset, .unset] [(.int (3 : Int32))])) (fun _ k => XS.iload X10.here hx rfl (hb hby at_254) rfl k) ?_
              refine own_go (st' := T10.setTop (mkF m 257 #[oi p0, oi p1, oi p2, oi p3, oi 1, oi 1, oi u6, oi u7, oi u8, oi u9, oi m10, oi m11, oR a1_4, oR a1_5, oR b7, oi 3, .unset, .unset, .unset] [(.int (1 : Int32)), (.int (3 : Int32))])) (fun _ k => XS.iconst X10.here hx rfl (hb hby at_256) k) ?_
              have hc64 : ¬ ((3 : Int32) = (1 : Int32)) := by decide
              refine own_go (st' := T10.setTop (mkF m 266 #[oi p0, oi p1, oi p2, oi p3, oi 1, oi 1, oi u6, oi u7, oi u8, oi u9, oi m10, oi m11, oR a1_4, oR a1_5, oR b7, oi 3, .unset, .unset, .unset] [])) (fun _ k => XS.icmpYes X10.here hx rfl (pc0 := 257) (pc' := 266) rfl (hb hby at_257) rfl (feq hc64).2 (by decide) (by decide) k) ?_
              refine own_go (st' := T10.setTop (mkF m 268 #[oi p0, oi p1, oi p2, oi p3, oi 1, oi 1, oi u6, oi u7, oi u8, oi u9, oi m10, oi m11, oR a1_4, oR a1_5, oR b7, oi 3, .unset, .unset, .unset] [(.int (3 : Int32))])) (fun _ k => XS.iload X10.here hx rfl (hb hby at_266) rfl k) ?_
              refine own_go (st' := T10.setTop (mkF m 269 #[oi p0, oi p1, oi p2, oi p3, oi 1, oi 1, oi u6, oi u7, oi u8, oi u9, oi m10, oi m11, oR a1_4, oR a1_5, oR b7, oi 3, .unset, .unset, .unset] [(.int (2 : Int32)), (.int (3 : Int32))])) (fun _ k => XS.iconst X10.here hx rfl (hb hby at_268) k) ?_
              have hc65 : ¬ ((3 : Int32) = (2 : Int32)) := by decide
              refine own_go (st' := T10.setTop (mkF m 279 #[oi p0, oi p1, oi p2, oi p3, oi 1, oi 1, oi u6, oi u7, oi u8, oi u9, oi m10, oi m11, oR a1_4, oR a1_5, oR b7, oi 3, .unset, .unset, .unset] [])) (fun _ k => XS.icmpYes X10.here hx rfl (pc0 := 269) (pc' := 279) rfl (hb hby at_269) rfl (feq hc65).2 (by decide) (by decide) k) ?_
              refine own_go (st' := T10.setTop (mkF m 281 #[oi p0, oi p1, oi p2, oi p3, oi 1, oi 1, oi u6, oi u7, oi u8, oi u9, oi m10, oi m11, oR a1_4, oR a1_5, oR b7, oi 3, .unset, .unset, .unset] [(.int m10)])) (fun _ k => XS.iload X10.here hx rfl (hb hby at_279) rfl k) ?_
              have c67 : Sta Z h10 oS5 "high" "I" (.int (127 : Int32)) := (own_sta_keep ((own_sta_keep (own_sta_keep pr1 K4 all0) K5 all0).ext E7) K10 (allS (P := fun x => ∀ c : Cell, h7[x]? = some c → c.vm.isStatics = false) (own_pl_exa A7) all0))
              have c68 : Sta Z h10 oS5 "cache" oS8 (.ref ca) := (own_sta_keep ((own_sta_keep (own_sta_keep pr2 K4 all0) K5 all0).ext E7) K10 (allS (P := fun x => ∀ c : Cell, h7[x]? = some c → c.vm.isStatics = false) (own_pl_exa A7) all0))
              have c69 : own_Cache Z h10 ca := (own_Cache_keep (own_Cache_ext (own_Cache_keep (own_Cache_keep pr3 K4 nin0) K5 nin0) E7) K10 (ninS (own_ne (by omega)) nin0))
              obtain ⟨_, _, ⟨T66, LC66, kC66, nC66⟩, -, X66, ⟨Lc66, hQ66, lq66, yq66, zq66⟩, st66⟩ := Jvm.LawKit.callS X10 hx (y := oM6) hown (mvT hZ (own_hw hw 75)) (mvT hZ (own_hw hw 76)) (mvT hZ (own_hw hw 77)) (mvT hZ (own_hw hw 78)) (by decide) (backOf (W := 0) (rm14 l Z a0 hw [] m10 ca h10 n0 (by omega) c67 c68 c69) hZ (own_hw hw 78) (own_hw hw 77) (by decide) (by decide)) (g := (mkF m 281 #[oi p0, oi p1, oi p2, oi p3, oi 1, oi 1, oi u6, oi u7, oi u8, oi u9, oi m10, oi m11, oR a1_4, oR a1_5, oR b7, oi 3, .unset, .unset, .unset] [(.int m10)])) rfl (by rw [hml]; rfl) (argsL := [(.int m10)]) (rest := []) (lenOf pd_14 rfl) rfl (by show 2 * 0 + _ ≤ _; exact Nat.le_of_eq rfl) (hb hby at_281) (fun _ _ => ⟨rfl, e10, (by decide : 9 + 1 ≤ _), (by decide : 38 + 1 ≤ _)⟩)
              dsimp only [Pt.U, Pt.locs, Pt.cells, Pt.slots] at X66 lq66 yq66 zq66 st66 hQ66
              subst lq66 yq66 zq66
              obtain ⟨h66, e66⟩ : ∃ z, T66.heap = z := ⟨_, rfl⟩
              rw [e66] at hQ66
              obtain ⟨r_66, rfl, Nq66, K66, g66_0⟩ := hQ66
              have sz66 : h10.size ≤ h66.size := K66.1
              have N66 := Fr.app N10 Nq66
              have lt66_1 : @LT.lt Nat _ r_66 h66.size := g66_0.lt
              refine own_go (st' := T66.setTop (mkF m 284 #[oi p0, oi p1, oi p2, oi p3, oi 1, oi 1, oi u6, oi u7, oi u8, oi u9, oi m10, oi m11, oR a1_4, oR a1_5, oR b7, oi 3, .unset, .unset, .unset] [(.ref r_66)])) (fun t k => st66 t k) ?_
              refine own_go (st' := T66.setTop (mkF m 286 #[oi p0, oi p1, oi p2, oi p3, oi 1, oi 1, oi u6, oi u7, oi u8, oi u9, oi m10, oi m11, oR a1_4, oR a1_5, oR b7, oi 3, oR r_66, .unset, .unset] [])) (fun _ k => XS.astore X66.here hx rfl (hb hby at_284) rfl rfl (l' := #[oi p0, oi p1, oi p2, oi p3, oi 1, oi 1, oi u6, oi u7, oi u8, oi u9, oi m10, oi m11, oR a1_4, oR a1_5, oR b7, oi 3, oR r_66, .unset, .unset]) rfl k) ?_
              refine own_go (st' := T66.setTop (mkF m 288 #[oi p0, oi p1, oi p2, oi p3, oi 1, oi 1, oi u6, oi u7, oi u8, oi u9, oi m10, oi m11, oR a1_4, oR a1_5, oR b7, oi 3, oR r_66, .unset, .unset] [(.ref b7)])) (fun _ k => XS.aload X66.here hx rfl (hb hby at_286) rfl rfl k) ?_
              refine own_go (st' := T66.setTop (mkF m 290 #[oi p0, oi p1, oi p2, oi p3, oi 1, oi 1, oi u6, oi u7, oi u8, oi u9, oi m10, oi m11, oR a1_4, oR a1_5, oR b7, oi 3, oR r_66, .unset, .unset] [(.ref r_66), (.ref b7)])) (fun _ k => XS.aload X66.here hx rfl (hb hby at_288) rfl rfl k) ?_
              have c71 : Exa Z h66 b7 oS1 := (g10_0.keep K66)
              obtain ⟨cq70, kq70, q70a, q70b, q70c⟩ := isOf hZ e66 c71
              obtain ⟨_, _, ⟨T70, LC70, kC70, nC70⟩, -, X70, ⟨Lc70, hQ70, lq70, yq70, zq70⟩, st70⟩ := X66.virtualBack hx (y := oM0) (z := oM0) hown (mvT hZ (own_hw hw 61)) (mvT hZ (own_hw hw 62)) (notFace_of_selects (args := #[]) (mvT hZ (own_hw hw 64))) (mvT hZ (own_hw hw 64)) (mvT hZ (own_hw hw 63)) (by decide) (backOf (W := 0) (rte_int l Z a0 hw [] b7 r_66 h66 n0 (by omega) g66_0) hZ (own_hw hw 65) (own_hw hw 37) (by decide) (by decide)) q70a q70c (g := (mkF m 290 #[oi p0, oi p1, oi p2, oi p3, oi 1, oi 1, oi u6, oi u7, oi u8, oi u9, oi m10, oi m11, oR a1_4, oR a1_5, oR b7, oi 3, oR r_66, .unset, .unset] [(.ref r_66), (.ref b7)])) rfl (by rw [hml]; rfl) (Steps.refl _) (argsL := [(.ref r_66)]) (rest := []) (lenOf pd_11 rfl) rfl (by show 2 * 0 + _ ≤ _; exact Nat.le_of_eq rfl) (hb hby at_290) (fun _ _ => ⟨rfl, e66, (by decide : 10 + 0 ≤ _), (by decide : 39 + 0 ≤ _)⟩)
              dsimp only [Pt.U, Pt.locs, Pt.cells, Pt.slots] at X70 lq70 yq70 zq70 st70 hQ70
              subst lq70 yq70 zq70
              obtain ⟨rfl, Nq70, eq70⟩ := hQ70
              have N70 := Fr.app N66 Nq70
              refine own_go (st' := T70.setTop (mkF m 293 #[oi p0, oi p1, oi p2, oi p3, oi 1, oi 1, oi u6, oi u7, oi u8, oi u9, oi m10, oi m11, oR a1_4, oR a1_5, oR b7, oi 3, oR r_66, .unset, .unset] [(.int (0 : Int32))])) (fun _ k => st70.trans k) ?_
              have hc72 : (0 : Int32) = (0 : Int32) := by decide
              refine own_go (st' := T70.setTop (mkF m 296 #[oi p0, oi p1, oi p2, oi p3, oi 1, oi 1, oi u6, oi u7, oi u8, oi u9, oi m10, oi m11, oR a1_4, oR a1_5, oR b7, oi 3, oR r_66, .unset, .unset] [])) (fun _ k => XS.ifNo X70.here hx rfl (hb hby at_293) rfl ((if0 _ _).trans (teq hc72).2) k) ?_
              refine own_go (st' := T70.setTop (mkF m 298 #[oi p0, oi p1, oi p2, oi p3, oi 1, oi 1, oi u6, oi u7, oi u8, oi u9, oi m10, oi m11, oR a1_4, oR a1_5, oR b7, oi 3, oR r_66, .unset, .unset] [(.ref b7)])) (fun _ k => XS.aload X70.here hx rfl (hb hby at_296) rfl rfl k) ?_
              refine own_go (st' := T70.setTop (mkF m 300 #[oi p0, oi p1, oi p2, oi p3, oi 1, oi 1, oi u6, oi u7, oi u8, oi u9, oi m10, oi m11, oR a1_4, oR a1_5, oR b7, oi 3, oR r_66, .unset, .unset] [(.ref b7), (.ref b7)])) (fun _ k => XS.aload X70.here hx rfl (hb hby at_298) rfl rfl k) ?_
              have c74 : Fld Z h66 b7 oS1 "topic" oS2 (.ref a1_4) := (g10_1.keep K66 nin0)
              have c75 : Fld Z h66 b7 oS1 "number" "I" (.int m10) := (g10_2.keep K66 nin0)
              have c76 : Exa Z h66 a1_4 oS0 := ((c11.keep K10).keep K66)
              obtain ⟨cq73, kq73, q73a, q73b, q73c⟩ := isOf hZ eq70 c71
              obtain ⟨_, _, ⟨T73, LC73, kC73, nC73⟩, -, X73, ⟨Lc73, hQ73, lq73, yq73, zq73⟩, st73⟩ := X70.virtualBack hx (y := oM0) (z := oM0) hown (mvT hZ (own_hw hw 61)) (mvT hZ (own_hw hw 62)) (notFace_of_selects (args := #[]) (mvT hZ (own_hw hw 64))) (mvT hZ (own_hw hw 64)) (mvT hZ (own_hw hw 63)) (by decide) (backOf (W := 0) (rte_self l Z a0 hw [] b7 a1_4 m10 h66 n0 (by omega) c71 c74 c75 c76) hZ (own_hw hw 65) (own_hw hw 37) (by decide) (by decide)) q73a q73c (g := (mkF m 300 #[oi p0, oi p1, oi p2, oi p3, oi 1, oi 1, oi u6, oi u7, oi u8, oi u9, oi m10, oi m11, oR a1_4, oR a1_5, oR b7, oi 3, oR r_66, .unset, .unset] [(.ref b7), (.ref b7)])) rfl (by rw [hml]; rfl) (Steps.refl _) (argsL := [(.ref b7)]) (rest := []) (lenOf pd_11 rfl) rfl (by show 2 * 0 + _ ≤ _; exact Nat.le_of_eq rfl) (hb hby at_300) (fun _ _ => ⟨rfl, eq70, (by decide : 10 + 0 ≤ _), (by decide : 39 + 0 ≤ _)⟩)
              dsimp only [Pt.U, Pt.locs, Pt.cells, Pt.slots] at X73 lq73 yq73 zq73 st73 hQ73
              subst lq73 yq73 zq73
              obtain ⟨rfl, Nq73, eq73⟩ := hQ73
              have N73 := Fr.app N70 Nq73
              refine own_go (st' := T73.setTop (mkF m 303 #[oi p0, oi p1, oi p2, oi p3, oi 1, oi 1, oi u6, oi u7, oi u8, oi u9, oi m10, oi m11, oR a1_4, oR a1_5, oR b7, oi 3, oR r_66, .unset, .unset] [(.int (1 : Int32))])) (fun _ k => st73.trans k) ?_
              have hc77 : ¬ ((1 : Int32) = (0 : Int32)) := by decide
              refine own_go (st' := T73.setTop (mkF m 306 #[oi p0, oi p1, oi p2, oi p3, oi 1, oi 1, oi u6, oi u7, oi u8, oi u9, oi m10, oi m11, oR a1_4, oR a1_5, oR b7, oi 3, oR r_66, .unset, .unset] [])) (fun _ k => XS.ifNo X73.here hx rfl (hb hby at_303) rfl ((if0 _ _).trans (feq hc77).1) k) ?_
              refine own_go (st' := T73.setTop (mkF m 307 #[oi p0, oi p1, oi p2, oi p3, oi 1, oi 1, oi u6, oi u7, oi u8, oi u9, oi m10, oi m11, oR a1_4, oR a1_5, oR b7, oi 3, oR r_66, .unset, .unset] [(.int (1 : Int32))])) (fun _ k => XS.iconst X73.here hx rfl (hb hby at_306) k) ?_
              refine own_go (st' := T73.setTop (mkF m 311 #[oi p0, oi p1, oi p2, oi p3, oi 1, oi 1, oi u6, oi u7, oi u8, oi u9, oi m10, oi m11, oR a1_4, oR a1_5, oR b7, oi 3, oR r_66, .unset, .unset] [(.int (1 : Int32))])) (fun _ k => XS.goto X73.here hx rfl (pc0 := 307) (pc' := 311) rfl (hb hby at_307) (by decide) (by decide) k) ?_
              obtain ⟨fs, hr, hrun, hended, hR1, hR2, hR3, hR4⟩ := X73.leaveW hS10 (by rw [eq73]; omega) (v := some (.int (1 : Int32))) (fun h => by rw [Bd.returns] at h; cases h)
              refine ⟨_, _, ?_, hP _ _ hrun hended ⟨_, _, rfl, ?_, hR1, hR2, hR3, hR4.mono (by decide) (by decide)⟩⟩
              · exact retN X73 hx (t := .boolean) Bd.returns (by simp) (hb hby at_311) hr
              · show Qrm0 Z p0 p1 p2 p3 ca zc h0 n0 _ T73.heap _
                rw [eq73]
                exact ⟨rfl, N73, trivial⟩
          · --
            refine own_go (st' := Tj3.setTop (mkF m 112 #[oi p0, oi p1, oi p2, oi p3, oi 1, oi 2, oi u6, oi u7, oi u8, oi u9, oi m10, oi m11, .unset, .unset, .unset, .unset, .unset, .unset, .unset] [(.int (1 : Int32))])) (fun _ k => XS.iload Xj3.here hx rfl (hb hby at_110) rfl k) ?_
            refine own_go (st' := Tj3.setTop (mkF m 114 #[oi p0, oi p1, oi p2, oi p3, oi 1, oi 2, oi u6, oi u7, oi u8, oi u9, oi m10, oi m11, .unset, .unset, .unset, .unset, .unset, .unset, .unset] [(.int u6), (.int (1 : Int32))])) (fun _ k => XS.iload Xj3.here hx rfl (hb hby at_112) rfl k) ?_
            refine own_go (st' := Tj3.setTop (mkF m 116 #[oi p0, oi p1, oi p2, oi p3, oi 1, oi 2, oi u6, oi u7, oi u8, oi u9, oi m10, oi m11, .unset, .unset, .unset, .unset, .unset, .unset, .unset] [(.int u7), (.int u6), (.int (1 : Int32))])) (fun _ k => XS.iload Xj3.here hx rfl (hb hby at_114) rfl k) ?_
            obtain ⟨_, _, ⟨T79, LC79, kC79, nC79⟩, -, X79, ⟨Lc79, hQ79, lq79, yq79, zq79⟩, st79⟩ := Jvm.LawKit.callS Xj3 hx (y := oM3) hown (mvT hZ (own_hw hw 1)) (mvT hZ (own_hw hw 2)) (mvT hZ (own_hw hw 3)) (mvT hZ (own_hw hw 4)) (by decide) (backOf (W := 0) (rmk_1 l Z a0 hw [] zc u6 u7 h0 n0 (by omega) pr4 (by assumption) hl_u6 hl_u7) hZ (own_hw hw 4) (own_hw hw 3) (by decide) (by decide)) (g := (mkF m 116 #[oi p0, oi p1, oi p2, oi p3, oi 1, oi 2, oi u6, oi u7, oi u8, oi u9, oi m10, oi m11, .unset, .unset, .unset, .unset, .unset, .unset, .unset] [(.int u7), (.int u6), (.int (1 : Int32))])) rfl (by rw [hml]; rfl) (argsL := [(.int (1 : Int32)), (.int u6), (.int u7)]) (rest := []) (lenOf pd_12 rfl) rfl (by show 2 * 0 + _ ≤ _; exact Nat.le_of_eq rfl) (hb hby at_116) (fun _ _ => ⟨rfl, ej3, (by decide : 0 + 3 ≤ _), (by decide : 0 + 6 ≤ _)⟩)
            dsimp only [Pt.U, Pt.locs, Pt.cells, Pt.slots] at X79 lq79 yq79 zq79 st79 hQ79
            subst lq79 yq79 zq79
            obtain ⟨h79, e79⟩ : ∃ z, T79.heap = z := ⟨_, rfl⟩
            rw [e79] at hQ79
            obtain ⟨a1_79, r_79, kr_79, rfl, Nq79, K79, g79_0, g79_1, g79_2, g79_3, g79_4, g79_5, g79_6⟩ := hQ79
            have sz79 : h0.size ≤ h79.size := K79.1
            have N79 := Fr.app Nj3 Nq79
            have lt79_1 : @LT.lt Nat _ a1_79 h79.size := g79_0.lt
            have lt79_2 : @LT.lt Nat _ r_79 h79.size := g79_3.lt
            refine own_go (st' := T79.setTop (mkF m 119 #[oi p0, oi p1, oi p2, oi p3, oi 1, oi 2, oi u6, oi u7, oi u8, oi u9, oi m10, oi m11, .unset, .unset, .unset, .unset, .unset, .unset, .unset] [(.ref a1_79)])) (fun t k => st79 t k) ?_
            refine own_go (st' := T79.setTop (mkF m 121 #[oi p0, oi p1, oi p2, oi p3, oi 1, oi 2, oi u6, oi u7, oi u8, oi u9, oi m10, oi m11, oR a1_79, .unset, .unset, .unset, .unset, .unset, .unset] [])) (fun _ k => XS.astore X79.here hx rfl (hb hby at_119) rfl rfl (l' := #[oi p0, oi p1, oi p2, oi p3, oi 1, oi 2, oi u6, oi u7, oi u8, oi u9, oi m10, oi m11, oR a1_79, .unset, .unset, .unset, .unset, .unset, .unset]) rfl k) ?_
            refine own_go (st' := T79.setTop (mkF m 123 #[oi p0, oi p1, oi p2, oi p3, oi 1, oi 2, oi u6, oi u7, oi u8, oi u9, oi m10, oi m11, oR a1_79, .unset, .unset, .unset, .unset, .unset, .unset] [(.int (2 : Int32))])) (fun _ k => XS.iload X79.here hx rfl (hb hby at_121) rfl k) ?_
            refine own_go (st' := T79.setTop (mkF m 125 #[oi p0, oi p1, oi p2, oi p3, oi 1, oi 2, oi u6, oi u7, oi u8, oi u9, oi m10, oi m11, oR a1_79, .unset, .unset, .unset, .unset, .unset, .unset] [(.int u8), (.int (2 : Int32))])) (fun _ k => XS.iload X79.here hx rfl (hb hby at_123) rfl k) ?_
            refine own_go (st' := T79.setTop (mkF m 127 #[oi p0, oi p1, oi p2, oi p3, oi 1, oi 2, oi u6, oi u7, oi u8, oi u9, oi m10, oi m11, oR a1_79, .unset, .unset, .unset, .unset, .unset, .unset] [(.int u9), (.int u8), (.int (2 : Int32))])) (fun _ k => XS.iload X79.here hx rfl (hb hby at_125) rfl k) ?_
            have c81 : Sta Z h79 oS0 oS4 "Z" (.int zc) := (own_sta_keep pr4 K79 all0)
            obtain ⟨_, _, ⟨T80, LC80, kC80, nC80⟩, -, X80, ⟨Lc80, hQ80, lq80, yq80, zq80⟩, st80⟩ := Jvm.LawKit.callS X79 hx (y := oM3) hown (mvT hZ (own_hw hw 1)) (mvT hZ (own_hw hw 2)) (mvT hZ (own_hw hw 3)) (mvT hZ (own_hw hw 4)) (by decide) (backOf (W := 0) (rmk_2 l Z a0 hw [] zc u8 u9 h79 n0 (by omega) c81 (by assumption) hl_u8 hl_u9) hZ (own_hw hw 4) (own_hw hw 3) (by decide) (by decide)) (g := (mkF m 127 #[oi p0, oi p1, oi p2, oi p3, oi 1, oi 2, oi u6, oi u7, oi u8, oi u9, oi m10, oi m11, oR a1_79, .unset, .unset, .unset, .unset, .unset, .unset] [(.int u9), (.int u8), (.int (2 : Int32))])) rfl (by rw [hml]; rfl) (argsL := [(.int (2 : Int32)), (.int u8), (.int u9)]) (rest := []) (lenOf pd_12 rfl) rfl (by show 2 * 0 + _ ≤ _; exact Nat.le_of_eq rfl) (hb hby at_127) (fun _ _ => ⟨rfl, e79, (by decide : 3 + 3 ≤ _), (by decide : 6 + 8 ≤ _)⟩)
            dsimp only [Pt.U, Pt.locs, Pt.cells, Pt.slots] at X80 lq80 yq80 zq80 st80 hQ80
            subst lq80 yq80 zq80
            obtain ⟨h80, e80⟩ : ∃ z, T80.heap = z := ⟨_, rfl⟩
            rw [e80] at hQ80
            obtain ⟨a1_80, r_80, kr_80, rfl, Nq80, K80, g80_0, g80_1, g80_2, g80_3, g80_4, g80_5, g80_6⟩ := hQ80
            have sz80 : h79.size ≤ h80.size := K80.1
            have N80 := Fr.app N79 Nq80
            have lt80_1 : @LT.lt Nat _ a1_80 h80.size := g80_0.lt
            have lt80_2 : @LT.lt Nat _ r_80 h80.size := g80_3.lt
            refine own_go (st' := T80.setTop (mkF m 130 #[oi p0, oi p1, oi p2, oi p3, oi 1, oi 2, oi u6, oi u7, oi u8, oi u9, oi m10, oi m11, oR a1_79, .unset, .unset, .unset, .unset, .unset, .unset] [(.ref a1_80)])) (fun t k => st80 t k) ?_
            refine own_go (st' := T80.setTop (mkF m 132 #[oi p0, oi p1, oi p2, oi p3, oi 1, oi 2, oi u6, oi u7, oi u8, oi u9, oi m10, oi m11, oR a1_79, oR a1_80, .unset, .unset, .unset, .unset, .unset] [])) (fun _ k => XS.astore X80.here hx rfl (hb hby at_130) rfl rfl (l' := #[oi p0, oi p1, oi p2, oi p3, oi 1, oi 2, oi u6, oi u7, oi u8, oi u9, oi m10, oi m11, oR a1_79, oR a1_80, .unset, .unset, .unset, .unset, .unset]) rfl k) ?_
            obtain ⟨T82, h82, X82, e82, E82, A82, D82, -, st82⟩ := newO X80 hx hZ hown (own_hw hw 35) (own_hw hw 36) (own_hw hw 37) e80 (g := (mkF m 132 #[oi p0, oi p1, oi p2, oi p3, oi 1, oi 2, oi u6, oi u7, oi u8, oi u9, oi m10, oi m11, oR a1_79, oR a1_80, .unset, .unset, .unset, .unset, .unset] [])) rfl (hb hby at_132) (by decide) (by decide)
            obtain ⟨b82, g82⟩ : ∃ z, z = h80.size := ⟨_, rfl⟩
            rw [← g82] at A82 D82 st82
            have sz82 : h80.size ≤ h82.size := E82.1
            have lt82 : @LT.lt Nat _ b82 h82.size := A82.lt
            have f83 : Fld Z h82 b82 oS1 "topic" oS2 .null := D82 (Or.inr (own_hw hw 58)) (ty := (.object oS0)) (by decide)
            have f84 : Fld Z h82 b82 oS1 "number" "I" (.int (0 : Int32)) := D82 (Or.inr (own_hw hw 60)) (ty := .int) (by decide)
            refine own_go (st' := T82.setTop (mkF m 135 #[oi p0, oi p1, oi p2, oi p3, oi 1, oi 2, oi u6, oi u7, oi u8, oi u9, oi m10, oi m11, oR a1_79, oR a1_80, .unset, .unset, .unset, .unset, .unset] [(.ref b82)])) (st82) ?_
            refine own_go (st' := T82.setTop (mkF m 136 #[oi p0, oi p1, oi p2, oi p3, oi 1, oi 2, oi u6, oi u7, oi u8, oi u9, oi m10, oi m11, oR a1_79, oR a1_80, .unset, .unset, .unset, .unset, .unset] [(.ref b82), (.ref b82)])) (fun _ k => XS.dup X82.here hx rfl (hb hby at_135) rfl rfl k) ?_
            refine own_go (st' := T82.setTop (mkF m 138 #[oi p0, oi p1, oi p2, oi p3, oi 1, oi 2, oi u6, oi u7, oi u8, oi u9, oi m10, oi m11, oR a1_79, oR a1_80, .unset, .unset, .unset, .unset, .unset] [(.ref a1_79), (.ref b82), (.ref b82)])) (fun _ k => XS.aload X82.here hx rfl (hb hby at_136) rfl rfl k) ?_
            refine own_go (st' := T82.setTop (mkF m 140 #[oi p0, oi p1, oi p2, oi p3, oi 1, oi 2, oi u6, oi u7, oi u8, oi u9, oi m10, oi m11, oR a1_79, oR a1_80, .unset, .unset, .unset, .unset, .unset] [(.int m10), (.ref a1_79), (.ref b82), (.ref b82)])) (fun _ k => XS.iload X82.here hx rfl (hb hby at_138) rfl k) ?_
            have c86 : Exa Z h82 a1_79 oS0 := ((g79_0.keep K80).ext E82)
            have c87 : Fld Z h82 a1_79 oS0 "value" "[B" (.ref r_79) := ((g79_1.keep K80 nin0).ext E82)
            have c88 : Arv Z h82 r_79 kr_79 .byte (1 : Int32) [(.int (own_by u6))] (.int (0 : Int32)) := ((g79_3.keep K80 nin0).ext E82)
            obtain ⟨_, _, ⟨T85, LC85, kC85, nC85⟩, -, X85, hS85, hg85, ⟨Lc85, hQ85, lq85, yq85, zq85⟩, st85⟩ := X82.specialBackS hx (y := oM4) rfl hown (mvT hZ (own_hw hw 38)) (mvT hZ (own_hw hw 39)) (mvT hZ (own_hw hw 40)) (by decide) (backOfS (W := 1) (rti_1 l Z a0 hw [] b82 a1_79 r_79 kr_79 [(.int (own_by u6))] m10 (0 : Int32) h82 n0 (by omega) A82 f83 f84 c86 c87 c88 (by omega) (own_ne (by omega)) (own_ne (by omega)) hp_m10) hZ (own_hw hw 40) (own_hw hw 37) (by decide) (by decide)) (g := (mkF m 140 #[oi p0, oi p1, oi p2, oi p3, oi 1, oi 2, oi u6, oi u7, oi u8, oi u9, oi m10, oi m11, oR a1_79, oR a1_80, .unset, .unset, .unset, .unset, .unset] [(.int m10), (.ref a1_79), (.ref b82), (.ref b82)])) rfl (by rw [hml]; rfl) (Steps.refl _) (a := b82) (argsL := [(.ref a1_79), (.int m10)]) (rest := [(.ref b82)]) (lenOf pd_13 rfl) rfl (by show 2 * 0 + _ ≤ _; exact Nat.le_of_eq rfl) (hb hby at_140) (fun _ _ => ⟨rfl, e82, (by decide : 7 + 2 ≤ _), (by decide : 16 + 24 ≤ _)⟩)
            dsimp only [Pt.U, Pt.locs, Pt.cells, Pt.slots] at X85 lq85 yq85 zq85 st85 hQ85
            subst lq85 yq85 zq85
            dsimp only [Pt.U, Pt.locs, Pt.cells, Pt.slots] at hS85 hg85
            obtain ⟨X85, hS85, hZ, hown⟩ := rebS hSj3 (by rw [e82]; omega) X85 hS85 hg85 hZ hown
            obtain ⟨h85, e85⟩ : ∃ z, T85.heap = z := ⟨_, rfl⟩
            rw [e85] at hQ85 hS85
            obtain ⟨rfl, Nq85, K85, g85_0, g85_1, g85_2⟩ := hQ85
            have sz85 : h82.size ≤ h85.size := K85.1
            have N85 := Fr.app N80 Nq85
            have lt85_1 : @LT.lt Nat _ b82 h85.size := g85_0.lt
            refine own_go (st' := T85.setTop (mkF m 143 #[oi p0, oi p1, oi p2, oi p3, oi 1, oi 2, oi u6, oi u7, oi u8, oi u9, oi m10, oi m11, oR a1_79, oR a1_80, .unset, .unset, .unset, .unset, .unset] [(.ref b82)])) (fun _ k => st85.trans k) ?_
            refine own_go (st' := T85.setTop (mkF m 145 #[oi p0, oi p1, oi p2, oi p3, oi 1, oi 2, oi u6, oi u7, oi u8, oi u9, oi m10, oi m11, oR a1_79, oR a1_80, oR b82, .unset, .unset, .unset, .unset] [])) (fun _ k => XS.astore X85.here hx rfl (hb hby at_143) rfl rfl (l' := #[oi p0, oi p1, oi p2, oi p3, oi 1, oi 2, oi u6, oi u7, oi u8, oi u9, oi m10, oi m11, oR a1_79, oR a1_80, oR b82, .unset, .unset, .unset, .unset]) rfl k) ?_
            refine own_go (st' := T85.setTop (mkF m 146 #[oi p0, oi p1, oi p2, oi p3, oi 1, oi 2, oi u6, oi u7, oi u8, oi u9, oi m10, oi m11, oR a1_79, oR a1_80, oR b82, .unset, .unset, .unset, .unset] [(.int p0)])) (fun _ k => XS.iloadN X85.here hx rfl (hb hby at_145) rfl k) ?_
            refine own_go (st' := T85.setTop (mkF m 148 #[oi p0, oi p1, oi p2, oi p3, oi 1, oi 2, oi u6, oi u7, oi u8, oi u9, oi m10, oi m11, oR a1_79, oR a1_80, oR b82, .unset, .unset, .unset, .unset] [(.int (6 : Int32)), (.int p0)])) (fun _ k => XS.bipush X85.here hx rfl (hb hby at_146) k) ?_
            refine own_go (st' := T85.setTop (mkF m 149 #[oi p0, oi p1, oi p2, oi p3, oi 1, oi 2, oi u6, oi u7, oi u8, oi u9, oi m10, oi m11, oR a1_79, oR a1_80, oR b82, .unset, .unset, .unset, .unset] [(.int ((p0.toUInt32 >>> ((6 : Int32) &&& 31).toUInt32).toInt32))])) (fun _ k => XS.iushr X85.here hx rfl (hb hby at_148) rfl k) ?_
            refine own_go (st' := T85.setTop (mkF m 150 #[oi p0, oi p1, oi p2, oi p3, oi 1, oi 2, oi u6, oi u7, oi u8, oi u9, oi m10, oi m11, oR a1_79, oR a1_80, oR b82, .unset, .unset, .unset, .unset] [(.int (3 : Int32)), (.int ((p0.toUInt32 >>> ((6 : Int32) &&& 31).toUInt32).toInt32))])) (fun _ k => XS.iconst X85.here hx rfl (hb hby at_149) k) ?_
            refine own_go (st' := T85.setTop (mkF m 151 #[oi p0, oi p1, oi p2, oi p3, oi 1, oi 2, oi u6, oi u7, oi u8, oi u9, oi m10, oi m11, oR a1_79, oR a1_80, oR b82, .unset, .unset, .unset, .unset] [(.int (((p0.toUInt32 >>> ((6 : Int32) &&& 31).toUInt32).toInt32) &&& (3 : Int32)))])) (fun _ k => XS.iand X85.here hx rfl (hb hby at_150) rfl k) ?_
            have hm := own_and3 ((p0.toUInt32 >>> ((6 : Int32) &&& 31).toUInt32).toInt32)
            obtain ⟨xs, hxs⟩ : ∃ z : Int32, z = (((p0.toUInt32 >>> ((6 : Int32) &&& 31).toUInt32).toInt32) &&& (3 : Int32)) := ⟨_, rfl⟩
            rw [← hxs] at hm ⊢
            clear hxs
            rcases hm with rfl | rfl | rfl | rfl
            · --
              refine own_go (st' := T85.setTop (mkF m 153 #[oi p0, oi p1, oi p2, oi p3, oi 1, oi 2, oi u6, oi u7, oi u8, oi u9, oi m10, oi m11, oR a1_79, oR a1_80, oR b82, oi 0, .unset, .unset, .unset] [])) (fun _ k => XS.istore X85.here hx rfl (hb hby at_151) rfl (l' := #[oi p0, oi p1, oi p2, oi p3, oi 1, oi 2, oi u6, oi u7, oi u8, oi u9, oi m10, oi m11, oR a1_79, oR a1_80, oR b82, oi 0, .unset, .unset, .unset]) rfl k) ?_
              refine own_go (st' := T85.setTop (mkF m 155 #[oi p0, oi p1, oi p2, oi p3, oi 1, oi 2, oi u6, oi u7, oi u8, oi u9, oi m10, oi m11, oR a1_79, oR a1_80, oR b82, oi 0, .unset, .unset, .unset] [(.int (0 : Int32))])) (fun _ k => XS.iload X85.here hx rfl (hb hby at_153) rfl k) ?_
              have hc89 : (0 : Int32) = (0 : Int32) := by decide
              refine own_go (st' := T85.setTop (mkF m 158 #[oi p0, oi p1, oi p2, oi p3, oi 1, oi 2, oi u6, oi u7, oi u8, oi u9, oi m10, oi m11, oR a1_79, oR a1_80, oR b82, oi 0, .unset, .unset, .unset] [])) (fun _ k => XS.ifNo X85.here hx rfl (hb hby at_155) rfl ((if0 _ _).trans (teq hc89).2) k) ?_
              obtain ⟨T90, h90, X90, e90, E90, A90, D90, -, st90⟩ := newO X85 hx hZ hown (own_hw hw 35) (own_hw hw 36) (own_hw hw 37) e85 (g := (mkF m 158 #[oi p0, oi p1, oi p2, oi p3, oi 1, oi 2, oi u6, oi u7, oi u8, oi u9, oi m10, oi m11, oR a1_79, oR a1_80, oR b82, oi 0, .unset, .unset, .unset] [])) rfl (hb hby at_158) (by decide) (by decide)
              obtain ⟨b90, g90⟩ : ∃ z, z = h85.size := ⟨_, rfl⟩
              rw [← g90] at A90 D90 st90
              have sz90 : h85.size ≤ h90.size := E90.1
              have lt90 : @LT.lt Nat _ b90 h90.size := A90.lt
              have f91 : Fld Z h90 b90 oS1 "topic" oS2 .null := D90 (Or.inr (own_hw hw 58)) (ty := (.object oS0)) (by decide)
              have f92 : Fld Z h90 b90 oS1 "number" "I" (.int (0 : Int32)) := D90 (Or.inr (own_hw hw 60)) (ty := .int) (by decide)
              refine own_go (st' := T90.setTop (mkF m 161 #[oi p0, oi p1, oi p2, oi p3, oi 1, oi 2, oi u6, oi u7, oi u8, oi u9, oi m10, oi m11, oR a1_79, oR a1_80, oR b82, oi 0, .unset, .unset, .unset] [(.ref b90)])) (st90) ?_
              refine own_go (st' := T90.setTop (mkF m 162 #[oi p0, oi p1, oi p2, oi p3, oi 1, oi 2, oi u6, oi u7, oi u8, oi u9, oi m10, oi m11, oR a1_79, oR a1_80, oR b82, oi 0, .unset, .unset, .unset] [(.ref b90), (.ref b90)])) (fun _ k => XS.dup X90.here hx rfl (hb hby at_161) rfl rfl k) ?_
              refine own_go (st' := T90.setTop (mkF m 164 #[oi p0, oi p1, oi p2, oi p3, oi 1, oi 2, oi u6, oi u7, oi u8, oi u9, oi m10, oi m11, oR a1_79, oR a1_80, oR b82, oi 0, .unset, .unset, .unset] [(.ref a1_80), (.ref b90), (.ref b90)])) (fun _ k => XS.aload X90.here hx rfl (hb hby at_162) rfl rfl k) ?_
              refine own_go (st' := T90.setTop (mkF m 166 #[oi p0, oi p1, oi p2, oi p3, oi 1, oi 2, oi u6, oi u7, oi u8, oi u9, oi m10, oi m11, oR a1_79, oR a1_80, oR b82, oi 0, .unset, .unset, .unset] [(.int m11), (.ref a1_80), (.ref b90), (.ref b90)])) (fun _ k => XS.iload X90.here hx rfl (hb hby at_164) rfl k) ?_
              have c94 : Exa Z h90 a1_80 oS0 := (((g80_0.ext E82).keep K85).ext E90)
              have c95 : Fld Z h90 a1_80 oS0 "value" "[B" (.ref r_80) := (((g80_1.ext E82).keep K85 (ninS (own_ne (by omega)) nin0)).ext E90)
              have c96 : Arv Z h90 r_80 kr_80 .byte (2 : Int32) [(.int (own_by u8)), (.int (own_by u9))] (.int (0 : Int32)) := (((g80_3.ext E82).keep K85 (ninS (own_ne (by omega)) nin0)).ext E90)
              obtain ⟨_, _, ⟨T93, LC93, kC93, nC93⟩, -, X93, hS93, hg93, ⟨Lc93, hQ93, lq93, yq93, zq93⟩, st93⟩ := X90.specialBackS hx (y := oM4) rfl hown (mvT hZ (own_hw hw 38)) (mvT hZ (own_hw hw 39)) (mvT hZ (own_hw hw 40)) (by decide) (backOfS (W := 1) (rti_2 l Z a0 hw [] b90 a1_80 r_80 kr_80 [(.int (own_by u8)), (.int (own_by u9))] m11 (0 : Int32) h90 n0 (by omega) A90 f91 f92 c94 c95 c96 (by omega) (own_ne (by omega)) (own_ne (by omega)) hp_m11) hZ (own_hw hw 40) (own_hw hw 37) (by decide) (by decide)) (g := (mkF m 166 #[oi p0, oi p1, oi p2, oi p3, oi 1, oi 2, oi u6, oi u7, oi u8, oi u9, oi m10, oi m11, oR a1_79, oR a1_80, oR b82, oi 0, .unset, .unset, .unset] [(.int m11), (.ref a1_80), (.ref b90), (.ref b90)])) rfl (by rw [hml]; rfl) (Steps.refl _) (a := b90) (argsL := [(.ref a1_80), (.int m11)]) (rest := [(.ref b90)]) (lenOf pd_13 rfl) rfl (by show 2 * 0 + _ ≤ _; exact Nat.le_of_eq rfl) (hb hby at_166) (fun _ _ => ⟨rfl, e90, (by decide : 10 + 2 ≤ _), (by decide : 42 + 24 ≤ _)⟩)
              dsimp only [Pt.U, Pt.locs, Pt.cells, Pt.slots] at X93 lq93 yq93 zq93 st93 hQ93
              subst lq93 yq93 zq93
              dsimp only [Pt.U, Pt.locs, Pt.cells, Pt.slots] at hS93 hg93
              obtain ⟨X93, hS93, hZ, hown⟩ := rebS hS85 (by rw [e90]; omega) X93 hS93 hg93 hZ hown
              obtain ⟨h93, e93⟩ : ∃ z, T93.heap = z := ⟨_, rfl⟩
              rw [e93] at hQ93 hS93
              obtain ⟨rfl, Nq93, K93, g93_0, g93_1, g93_2⟩ := hQ93
              have sz93 : h90.size ≤ h93.size := K93.1
              have N93 := Fr.app N85 Nq93
              have lt93_1 : @LT.lt Nat _ b90 h93.size := g93_0.lt
              refine own_go (st' := T93.setTop (mkF m 169 #[oi p0, oi p1, oi p2, oi p3, oi 1, oi 2, oi u6, oi u7, oi u8, oi u9, oi m10, oi m11, oR a1_79, oR a1_80, oR b82, oi 0, .unset, .unset, .unset] [(.ref b90)])) (fun _ k => st93.trans k) ?_
              refine own_go (st' := T93.setTop (mkF m 171 #[oi p0, oi p1, oi p2, oi p3, oi 1, oi 2, oi u6, oi u7, oi u8, oi u9, oi m10, oi m11, oR a1_79, oR a1_80, oR b82, oi 0, oR b90, .unset, .unset] [])) (fun _ k => XS.astore X93.here hx rfl (hb hby at_169) rfl rfl (l' := #[oi p0, oi p1, oi p2, oi p3, oi 1, oi 2, oi u6, oi u7, oi u8, oi u9, oi m10, oi m11, oR a1_79, oR a1_80, oR b82, oi 0, oR b90, .unset, .unset]) rfl k) ?_
              have J222_97 : ∀ (Tj97 : State) (lj97 : List Loc) (fx : Int32) (f17 : Int32) (vj97 : Vm) (kj97 : Nat) (Xj97 : Stand p l e room_1 (s.setVm vj97) m #[(.int p0), (.int p1), (.int p2), (.int p3)] below meth c Tj97 lj97 12 66) (ej97 : Tj97.heap = h93) (Nj97 : Fr n0 lj97) (hSj97 : s.Since vj97 kj97) (hkj97 : kj97 ≤ h93.size) (hZj97 : Z.Warmed39 (s.setVm vj97).vm) (hoj97 : (s.setVm vj97).vm.findClass oS3 = some m.cls) (hE1 : fx = own_tp m10 m11 (0 : Int32)) (hE2 : fx = own_tp m11 m10 (0 : Int32)), own_Go p.tables e below P (Tj97.setTop (mkF m 222 #[oi p0, oi p1, oi p2, oi p3, oi 1, oi 2, oi u6, oi u7, oi u8, oi u9, oi m10, oi m11, oR a1_79, oR a1_80, oR b82, oi 0, oR b90, oi f17, .unset] [(.int fx)])) := by
                intro Tj97 lj97 fx f17 vj97 kj97 Xj97 ej97 Nj97 hSj97 hkj97 hZ hown hE1 hE2
                refine own_go (st' := Tj97.setTop (mkF m 224 #[oi p0, oi p1, oi p2, oi p3, oi 1, oi 2, oi u6, oi u7, oi u8, oi u9, oi m10, oi m11, oR a1_79, oR a1_80, oR b82, oi 0, oR b90, oi f17, oi fx] [])) (fun _ k => XS.istore Xj97.here hx rfl (hb hby at_222) rfl (l' := #[oi p0, oi p1, oi p2, oi p3, oi 1, oi 2, oi u6, oi u7, oi u8, oi u9, oi m10, oi m11, oR a1_79, oR a1_80, oR b82, oi 0, oR b90, oi f17, oi fx]) rfl k) ?_
                refine own_go (st' := Tj97.setTop (mkF m 226 #[oi p0, oi p1, oi p2, oi p3, oi 1, oi 2, oi u6, oi u7, oi u8, oi u9, oi m10, oi m11, oR a1_79, oR a1_80, oR b82, oi 0, oR b90, oi f17, oi fx] [(.ref b82)])) (fun _ k => XS.aload Xj97.here hx rfl (hb hby at_224) rfl rfl k) ?_
                refine own_go (st' := Tj97.setTop (mkF m 228 #[oi p0, oi p1, oi p2, oi p3, oi 1, oi 2, oi u6, oi u7, oi u8, oi u9, oi m10, oi m11, oR a1_79, oR a1_80, oR b82, oi 0, oR b90, oi f17, oi fx] [(.ref b90), (.ref b82)])) (fun _ k => XS.aload Xj97.here hx rfl (hb hby at_226) rfl rfl k) ?_
                have c99 : Sta Z h93 oS0 oS4 "Z" (.int zc) := (own_sta_keep ((own_sta_keep ((own_sta_keep c81 K80 all0).ext E82) K85 (allS (P := fun x => ∀ c : Cell, h82[x]? = some c → c.vm.isStatics = false) (own_pl_exa A82) all0)).ext E90) K93 (allS (P := fun x => ∀ c : Cell, h90[x]? = some c → c.vm.isStatics = false) (own_pl_exa A90) all0))
                have c100 : Exa Z h93 b82 oS1 := ((g85_0.ext E90).keep K93)
                have c101 : Fld Z h93 b82 oS1 "topic" oS2 (.ref a1_79) := ((g85_1.ext E90).keep K93 (ninS (own_ne (by omega)) nin0))
                have c102 : Fld Z h93 b82 oS1 "number" "I" (.int m10) := ((g85_2.ext E90).keep K93 (ninS (own_ne (by omega)) nin0))
                have c103 : Exa Z h93 a1_79 oS0 := (((c86.keep K85).ext E90).keep K93)
                have c104 : Fld Z h93 a1_79 oS0 "value" "[B" (.ref r_79) := (((c87.keep K85 (ninS (own_ne (by omega)) nin0)).ext E90).keep K93 (ninS (own_ne (by omega)) nin0))
                have c105 : Fld Z h93 a1_79 oS0 "coder" "B" (.int (0 : Int32)) := (((((g79_2.keep K80 nin0).ext E82).keep K85 (ninS (own_ne (by omega)) nin0)).ext E90).keep K93 (ninS (own_ne (by omega)) nin0))
                have c106 : Exa Z h93 a1_80 oS0 := (c94.keep K93)
                have c107 : Fld Z h93 a1_80 oS0 "value" "[B" (.ref r_80) := (c95.keep K93 (ninS (own_ne (by omega)) nin0))
                have c108 : Fld Z h93 a1_80 oS0 "coder" "B" (.int (0 : Int32)) := ((((g80_2.ext E82).keep K85 (ninS (own_ne (by omega)) nin0)).ext E90).keep K93 (ninS (own_ne (by omega)) nin0))
                have c109 : Arv Z h93 r_79 kr_79 .byte (1 : Int32) [(.int (own_by u6))] (.int (0 : Int32)) := (((c88.keep K85 (ninS (own_ne (by omega)) nin0)).ext E90).keep K93 (ninS (own_ne (by omega)) nin0))
                have c110 : Arv Z h93 r_80 kr_80 .byte (2 : Int32) [(.int (own_by u8)), (.int (own_by u9))] (.int (0 : Int32)) := (c96.keep K93 (ninS (own_ne (by omega)) nin0))
                obtain ⟨cq98, kq98, q98a, q98b, q98c⟩ := isOf hZ ej97 c100
                obtain ⟨_, _, ⟨T98, LC98, kC98, nC98⟩, -, X98, ⟨Lc98, hQ98, lq98, yq98, zq98⟩, st98⟩ := Xj97.virtualBack hx (y := oM0) (z := oM0) hown (mvT hZ (own_hw hw 61)) (mvT hZ (own_hw hw 62)) (notFace_of_selects (args := #[]) (mvT hZ (own_hw hw 64))) (mvT hZ (own_hw hw 64)) (mvT hZ (own_hw hw 63)) (by decide) (backOf (W := 0) (rte_12 l Z a0 hw [] b82 b90 a1_79 a1_80 m10 m11 zc r_79 kr_79 r_80 kr_80 (own_by u6) (own_by u8) (own_by u9) h93 n0 (by omega) c99 (by assumption) c100 c101 c102 g93_0 g93_1 g93_2 (own_ne (by omega)) c103 c104 c105 c106 c107 c108 c109 c110) hZ (own_hw hw 65) (own_hw hw 37) (by decide) (by decide)) q98a q98c (g := (mkF m 228 #[oi p0, oi p1, oi p2, oi p3, oi 1, oi 2, oi u6, oi u7, oi u8, oi u9, oi m10, oi m11, oR a1_79, oR a1_80, oR b82, oi 0, oR b90, oi f17, oi fx] [(.ref b90), (.ref b82)])) rfl (by rw [hml]; rfl) (Steps.refl _) (argsL := [(.ref b90)]) (rest := []) (lenOf pd_11 rfl) rfl (by show 2 * 0 + _ ≤ _; exact Nat.le_of_eq rfl) (hb hby at_228) (fun _ _ => ⟨rfl, ej97, (by decide : 12 + 0 ≤ _), (by decide : 66 + 0 ≤ _)⟩)
                dsimp only [Pt.U, Pt.locs, Pt.cells, Pt.slots] at X98 lq98 yq98 zq98 st98 hQ98
                subst lq98 yq98 zq98
                obtain ⟨rfl, Nq98, eq98⟩ := hQ98
                have N98 := Fr.app Nj97 Nq98
                refine own_go (st' := T98.setTop (mkF m 231 #[oi p0, oi p1, oi p2, oi p3, oi 1, oi 2, oi u6, oi u7, oi u8, oi u9, oi m10, oi m11, oR a1_79, oR a1_80, oR b82, oi 0, oR b90, oi f17, oi fx] [(.int (own_tp m10 m11 (0 : Int32)))])) (fun _ k => st98.trans k) ?_
                refine own_go (st' := T98.setTop (mkF m 233 #[oi p0, oi p1, oi p2, oi p3, oi 1, oi 2, oi u6, oi u7, oi u8, oi u9, oi m10, oi m11, oR a1_79, oR a1_80, oR b82, oi 0, oR b90, oi f17, oi fx] [(.int fx), (.int (own_tp m10 m11 (0 : Int32)))])) (fun _ k => XS.iload X98.here hx rfl (hb hby at_231) rfl k) ?_
                have hc111 : (own_tp m10 m11 (0 : Int32)) = fx := hE1.symm
                refine own_go (st' := T98.setTop (mkF m 236 #[oi p0, oi p1, oi p2, oi p3, oi 1, oi 2, oi u6, oi u7, oi u8, oi u9, oi m10, oi m11, oR a1_79, oR a1_80, oR b82, oi 0, oR b90, oi f17, oi fx] [])) (fun _ k => XS.icmpNo X98.here hx rfl (hb hby at_233) rfl (teq hc111).2 k) ?_
                refine own_go (st' := T98.setTop (mkF m 238 #[oi p0, oi p1, oi p2, oi p3, oi 1, oi 2, oi u6, oi u7, oi u8, oi u9, oi m10, oi m11, oR a1_79, oR a1_80, oR b82, oi 0, oR b90, oi f17, oi fx] [(.ref b90)])) (fun _ k => XS.aload X98.here hx rfl (hb hby at_236) rfl rfl k) ?_
                refine own_go (st' := T98.setTop (mkF m 240 #[oi p0, oi p1, oi p2, oi p3, oi 1, oi 2, oi u6, oi u7, oi u8, oi u9, oi m10, oi m11, oR a1_79, oR a1_80, oR b82, oi 0, oR b90, oi f17, oi fx] [(.ref b82), (.ref b90)])) (fun _ k => XS.aload X98.here hx rfl (hb hby at_238) rfl rfl k) ?_
                obtain ⟨cq112, kq112, q112a, q112b, q112c⟩ := isOf hZ eq98 g93_0
                obtain ⟨_, _, ⟨T112, LC112, kC112, nC112⟩, -, X112, ⟨Lc112, hQ112, lq112, yq112, zq112⟩, st112⟩ := X98.virtualBack hx (y := oM0) (z := oM0) hown (mvT hZ (own_hw hw 61)) (mvT hZ (own_hw hw 62)) (notFace_of_selects (args := #[]) (mvT hZ (own_hw hw 64))) (mvT hZ (own_hw hw 64)) (mvT hZ (own_hw hw 63)) (by decide) (backOf (W := 0) (rte_21 l Z a0 hw [] b90 b82 a1_80 a1_79 m11 m10 zc r_80 kr_80 r_79 kr_79 (own_by u8) (own_by u9) (own_by u6) h93 n0 (by omega) c99 (by assumption) g93_0 g93_1 g93_2 c100 c101 c102 (own_ne (by omega)) c106 c107 c108 c103 c104 c105 c110 c109) hZ (own_hw hw 65) (own_hw hw 37) (by decide) (by decide)) q112a q112c (g := (mkF m 240 #[oi p0, oi p1, oi p2, oi p3, oi 1, oi 2, oi u6, oi u7, oi u8, oi u9, oi m10, oi m11, oR a1_79, oR a1_80, oR b82, oi 0, oR b90, oi f17, oi fx] [(.ref b82), (.ref b90)])) rfl (by rw [hml]; rfl) (Steps.refl _) (argsL := [(.ref b82)]) (rest := []) (lenOf pd_11 rfl) rfl (by show 2 * 0 + _ ≤ _; exact Nat.le_of_eq rfl) (hb hby at_240) (fun _ _ => ⟨rfl, eq98, (by decide : 12 + 0 ≤ _), (by decide : 66 + 0 ≤ _)⟩)
                dsimp only [Pt.U, Pt.locs, Pt.cells, Pt.slots] at X112 lq112 yq112 zq112 st112 hQ112
                subst lq112 yq112 zq112
                obtain ⟨rfl, Nq112, eq112⟩ := hQ112
                have N112 := Fr.app N98 Nq112
                refine own_go (st' := T112.setTop (mkF m 243 #[oi p0, oi p1, oi p2, oi p3, oi 1, oi 2, oi u6, oi u7, oi u8, oi u9, oi m10, oi m11, oR a1_79, oR a1_80, oR b82, oi 0, oR b90, oi f17, oi fx] [(.int (own_tp m11 m10 (0 : Int32)))])) (fun _ k => st112.trans k) ?_
                refine own_go (st' := T112.setTop (mkF m 245 #[oi p0, oi p1, oi p2, oi p3, oi 1, oi 2, oi u6, oi u7, oi u8, oi u9, oi m10, oi m11, oR a1_79, oR a1_80, oR b82, oi 0, oR b90, oi f17, oi fx] [(.int fx), (.int (own_tp m11 m10 (0 : Int32)))])) (fun _ k => XS.iload X112.here hx rfl (hb hby at_243) rfl k) ?_
                have hc113 : (own_tp m11 m10 (0 : Int32)) = fx := hE2.symm
                refine own_go (st' := T112.setTop (mkF m 248 #[oi p0, oi p1, oi p2, oi p3, oi 1, oi 2, oi u6, oi u7, oi u8, oi u9, oi m10, oi m11, oR a1_79, oR a1_80, oR b82, oi 0, oR b90, oi f17, oi fx] [])) (fun _ k => XS.icmpNo X112.here hx rfl (hb hby at_245) rfl (teq hc113).2 k) ?_
                refine own_go (st' := T112.setTop (mkF m 249 #[oi p0, oi p1, oi p2, oi p3, oi 1, oi 2, oi u6, oi u7, oi u8, oi u9, oi m10, oi m11, oR a1_79, oR a1_80, oR b82, oi 0, oR b90, oi f17, oi fx] [(.int (1 : Int32))])) (fun _ k => XS.iconst X112.here hx rfl (hb hby at_248) k) ?_
                refine own_go (st' := T112.setTop (mkF m 253 #[oi p0, oi p1, oi p2, oi p3, oi 1, oi 2, oi u6, oi u7, oi u8, oi u9, oi m10, oi m11, oR a1_79, oR a1_80, oR b82, oi 0, oR b90, oi f17, oi fx] [(.int (1 : Int32))])) (fun _ k => XS.goto X112.here hx rfl (pc0 := 249) (pc' := 253) rfl (hb hby at_249) (by decide) (by decide) k) ?_
                obtain ⟨fs, hr, hrun, hended, hR1, hR2, hR3, hR4⟩ := X112.leaveW hSj97 (by rw [eq112]; omega) (v := some (.int (1 : Int32))) (fun h => by rw [Bd.returns] at h; cases h)
                refine ⟨_, _, ?_, hP _ _ hrun hended ⟨_, _, rfl, ?_, hR1, hR2, hR3, hR4.mono (by decide) (by decide)⟩⟩
                · exact retN X112 hx (t := .boolean) Bd.returns (by simp) (hb hby at_253) hr
                · show Qrm0 Z p0 p1 p2 p3 ca zc h0 n0 _ T112.heap _
                  rw [eq112]
                  exact ⟨rfl, N112, trivial⟩
              refine own_go (st' := T93.setTop (mkF m 173 #[oi p0, oi p1, oi p2, oi p3, oi 1, oi 2, oi u6, oi u7, oi u8, oi u9, oi m10, oi m11, oR a1_79, oR a1_80, oR b82, oi 0, oR b90, .unset, .unset] [(.int (1 : Int32))])) (fun _ k => XS.iload X93.here hx rfl (hb hby at_171) rfl k) ?_
              refine own_go (st' := T93.setTop (mkF m 175 #[oi p0, oi p1, oi p2, oi p3, oi 1, oi 2, oi u6, oi u7, oi u8, oi u9, oi m10, oi m11, oR a1_79, oR a1_80, oR b82, oi 0, oR b90, .unset, .unset] [(.int (2 : Int32)), (.int (1 : Int32))])) (fun _ k => XS.iload X93.here hx rfl (hb hby at_173) rfl k) ?_
              have hc115 : ¬ ((1 : Int32) = (2 : Int32)) := by decide
              refine own_go (st' := T93.setTop (mkF m 202 #[oi p0, oi p1, oi p2, oi p3, oi 1, oi 2, oi u6, oi u7, oi u8, oi u9, oi m10, oi m11, oR a1_79, oR a1_80, oR b82, oi 0, oR b90, .unset, .unset] [])) (fun _ k => XS.icmpYes X93.here hx rfl (pc0 := 175) (pc' := 202) rfl (hb hby at_175) rfl (feq hc115).2 (by decide) (by decide) k) ?_
              refine own_go (st' := T93.setTop (mkF m 203 #[oi p0, oi p1, oi p2, oi p3, oi 1, oi 2, oi u6, oi u7, oi u8, oi u9, oi m10, oi m11, oR a1_79, oR a1_80, oR b82, oi 0, oR b90, .unset, .unset] [(.int (0 : Int32))])) (fun _ k => XS.iconst X93.here hx rfl (hb hby at_202) k) ?_
              refine own_go (st' := T93.setTop (mkF m 205 #[oi p0, oi p1, oi p2, oi p3, oi 1, oi 2, oi u6, oi u7, oi u8, oi u9, oi m10, oi m11, oR a1_79, oR a1_80, oR b82, oi 0, oR b90, oi 0, .unset] [])) (fun _ k => XS.istore X93.here hx rfl (hb hby at_203) rfl (l' := #[oi p0, oi p1, oi p2, oi p3, oi 1, oi 2, oi u6, oi u7, oi u8, oi u9, oi m10, oi m11, oR a1_79, oR a1_80, oR b82, oi 0, oR b90, oi 0, .unset]) rfl k) ?_
              refine own_go (st' := T93.setTop (mkF m 207 #[oi p0, oi p1, oi p2, oi p3, oi 1, oi 2, oi u6, oi u7, oi u8, oi u9, oi m10, oi m11, oR a1_79, oR a1_80, oR b82, oi 0, oR b90, oi 0, .unset] [(.int (0 : Int32))])) (fun _ k => XS.iload X93.here hx rfl (hb hby at_205) rfl k) ?_
              have hc116 : (0 : Int32) = (0 : Int32) := by decide
              refine own_go (st' := T93.setTop (mkF m 221 #[oi p0, oi p1, oi p2, oi p3, oi 1, oi 2, oi u6, oi u7, oi u8, oi u9, oi m10, oi m11, oR a1_79, oR a1_80, oR b82, oi 0, oR b90, oi 0, .unset] [])) (fun _ k => XS.ifYes X93.here hx rfl (pc0 := 207) (pc' := 221) rfl (hb hby at_207) rfl ((if0 _ _).trans (teq hc116).1) (by decide) (by decide) k) ?_
              refine own_go (st' := T93.setTop (mkF m 222 #[oi p0, oi p1, oi p2, oi p3, oi 1, oi 2, oi u6, oi u7, oi u8, oi u9, oi m10, oi m11, oR a1_79, oR a1_80, oR b82, oi 0, oR b90, oi 0, .unset] [(.int (0 : Int32))])) (fun _ k => XS.iconst X93.here hx rfl (hb hby at_221) k) ?_
              exact J222_97 _ _ (0 : Int32) (0 : Int32) _ _ X93 e93 N93 hS93 (by omega) hZ hown (by simp [own_tp]) (by simp [own_tp])
            · --
              refine own_go (st' := T85.setTop (mkF m 153 #[oi p0, oi p1, oi p2, oi p3, oi 1, oi 2, oi u6, oi u7, oi u8, oi u9, oi m10, oi m11, oR a1_79, oR a1_80, oR b82, oi 1, .unset, .unset, .unset] [])) (fun _ k => XS.istore X85.here hx rfl (hb hby at_151) rfl (l' := #[oi p0, oi p1, oi p2, oi p3, oi 1, oi 2, oi u6, oi u7, oi u8, oi u9, oi m10, oi m11, oR a1_79, oR a1_80, oR b82, oi 1, .unset, .unset, .unset]) rfl k) ?_
              refine own_go (st' := T85.setTop (mkF m 155 #[oi p0, oi p1, oi p2, oi p3, oi 1, oi 2, oi u6, oi u7, oi u8, oi u9, oi m10, oi m11, oR a1_79, oR a1_80, oR b82, oi 1, .unset, .unset, .unset] [(.int (1 : Int32))])) (fun _ k => XS.iload X85.here hx rfl (hb hby at_153) rfl k) ?_
              have hc117 : ¬ ((1 : Int32) = (0 : Int32)) := by decide
              refine own_go (st' := T85.setTop (mkF m 254 #[oi p0, oi p1, oi p2, oi p3, oi 1, oi 2, oi u6, oi u7, oi u8, oi u9, oi m10, oi m11, oR a1_79, oR a1_80, oR b82, oi 1, .unset, .unset, .unset] [])) (fun _ k => XS.ifYes X85.here hx rfl (pc0 := 155) (pc' := 254) rfl (hb hby at_155) rfl ((if0 _ _).trans (feq hc117).2) (by decide) (by decide) k) ?_
              refine own_go (st' := T85.setTop (mkF m 256 #[oi p0, oi p1, oi p2, oi p3, oi 1, oi 2, oi u6, oi u7, oi u8, oi u9, oi m10, oi m11, oR a1_79, oR a1_80, oR b82, oi 1, .unset, .unset, .unset] [(.int (1 : Int32))])) (fun _ k => XS.iload X85.here hx rfl (hb hby at_254) rfl k) ?_
              refine own_go (st' := T85.setTop (mkF m 257 #[oi p0, oi p1, oi p2, oi p3, oi 1, oi 2, oi u6, oi u7, oi u8, oi u9, oi m10, oi m11, oR a1_79, oR a1_80, oR b82, oi 1, .unset, .unset, .unset] [(.int (1 : Int32)), (.int (1 : Int32))])) (fun _ k => XS.iconst X85.here hx rfl (hb hby at_256) k) ?_
              have hc118 : (1 : Int32) = (1 : Int32) := by decide
              refine own_go (st' := T85.setTop (mkF m 260 #[oi p0, oi p1, oi p2, oi p3, oi 1, oi 2, oi u6, oi u7, oi u8, oi u9, oi m10, oi m11, oR a1_79, oR a1_80, oR b82, oi 1, .unset, .unset, .unset] [])) (fun _ k => XS.icmpNo X85.here hx rfl (hb hby at_257) rfl (teq hc118).2 k) ?_
              refine own_go (st' := T85.setTop (mkF m 261 #[oi p0, oi p1, oi p2, oi p3, oi 1, oi 2, oi u6, oi u7, oi u8, oi u9, oi m10, oi m11, oR a1_79, oR a1_80, oR b82, oi 1, .unset, .unset, .unset] [.null])) (fun _ k => XS.aconstNull X85.here hx rfl (hb hby at_260) k) ?_
              refine own_go (st' := T85.setTop (mkF m 263 #[oi p0, oi p1, oi p2, oi p3, oi 1, oi 2, oi u6, oi u7, oi u8, oi u9, oi m10, oi m11, oR a1_79, oR a1_80, oR b82, oi 1, .val .null, .unset, .unset] [])) (fun _ k => XS.astore X85.here hx rfl (hb hby at_261) rfl rfl (l' := #[oi p0, oi p1, oi p2, oi p3, oi 1, oi 2, oi u6, oi u7, oi u8, oi u9, oi m10, oi m11, oR a1_79, oR a1_80, oR b82, oi 1, .val .null, .unset, .unset]) rfl k) ?_
              refine own_go (st' := T85.setTop (mkF m 286 #[oi p0, oi p1, oi p2, oi p3, oi 1, oi 2, oi u6, oi u7, oi u8, oi u9, oi m10, oi m11, oR a1_79, oR a1_80, oR b82, oi 1, .val .null, .unset, .unset] [])) (fun _ k => XS.goto X85.here hx rfl (pc0 := 263) (pc' := 286) rfl (hb hby at_263) (by decide) (by decide) k) ?_
              refine own_go (st' := T85.setTop (mkF m 288 #[oi p0, oi p1, oi p2, oi p3, oi 1, oi 2, oi u6, oi u7, oi u8, oi u9, oi m10, oi m11, oR a1_79, oR a1_80, oR b82, oi 1, .val .null, .unset, .unset] [(.ref b82)])) (fun _ k => XS.aload X85.here hx rfl (hb hby at_286) rfl rfl k) ?_
              refine own_go (st' := T85.setTop (mkF m 290 #[oi p0, oi p1, oi p2, oi p3, oi 1, oi 2, oi u6, oi u7, oi u8, oi u9, oi m10, oi m11, oR a1_79, oR a1_80, oR b82, oi 1, .val .null, .unset, .unset] [.null, (.ref b82)])) (fun _ k => XS.aload X85.here hx rfl (hb hby at_288) rfl rfl k) ?_
              obtain ⟨cq119, kq119, q119a, q119b, q119c⟩ := isOf hZ e85 g85_0
              obtain ⟨_, _, ⟨T119, LC119, kC119, nC119⟩, -, X119, ⟨Lc119, hQ119, lq119, yq119, zq119⟩, st119⟩ := X85.virtualBack hx (y := oM0) (z := oM0) hown (mvT hZ (own_hw hw 61)) (mvT hZ (own_hw hw 62)) (notFace_of_selects (args := #[]) (mvT hZ (own_hw hw 64))) (mvT hZ (own_hw hw 64)) (mvT hZ (own_hw hw 63)) (by decide) (backOf (W := 0) (rte_null l Z a0 hw [] b82 h85 n0 (by omega) ) hZ (own_hw hw 65) (own_hw hw 37) (by decide) (by decide)) q119a q119c (g := (mkF m 290 #[oi p0, oi p1, oi p2, oi p3, oi 1, oi 2, oi u6, oi u7, oi u8, oi u9, oi m10, oi m11, oR a1_79, oR a1_80, oR b82, oi 1, .val .null, .unset, .unset] [.null, (.ref b82)])) rfl (by rw [hml]; rfl) (Steps.refl _) (argsL := [.null]) (rest := []) (lenOf pd_11 rfl) rfl (by show 2 * 0 + _ ≤ _; exact Nat.le_of_eq rfl) (hb hby at_290) (fun _ _ => ⟨rfl, e85, (by decide : 9 + 0 ≤ _), (by decide : 40 + 0 ≤ _)⟩)
              dsimp only [Pt.U, Pt.locs, Pt.cells, Pt.slots] at X119 lq119 yq119 zq119 st119 hQ119
              subst lq119 yq119 zq119
              obtain ⟨rfl, Nq119, eq119⟩ := hQ119
              have N119 := Fr.app N85 Nq119
              refine own_go (st' := T119.setTop (mkF m 293 #[oi p0, oi p1, oi p2, oi p3, oi 1, oi 2, oi u6, oi u7, oi u8, oi u9, oi m10, oi m11, oR a1_79, oR a1_80, oR b82, oi 1, .val .null, .unset, .unset] [(.int (0 : Int32))])) (fun _ k => st119.trans k) ?_
              have hc120 : (0 : Int32) = (0 : Int32) := by decide
              refine own_go (st' := T119.setTop (mkF m 296 #[oi p0, oi p1, oi p2, oi p3, oi 1, oi 2, oi u6, oi u7, oi u8, oi u9, oi m10, oi m11, oR a1_79, oR a1_80, oR b82, oi 1, .val .null, .unset, .unset] [])) (fun _ k => XS.ifNo X119.here hx rfl (hb hby at_293) rfl ((if0 _ _).trans (teq hc120).2) k) ?_
              refine own_go (st' := T119.setTop (mkF m 298 #[oi p0, oi p1, oi p2, oi p3, oi 1, oi 2, oi u6, oi u7, oi u8, oi u9, oi m10, oi m11, oR a1_79, oR a1_80, oR b82, oi 1, .val .null, .unset, .unset] [(.ref b82)])) (fun _ k => XS.aload X119.here hx rfl (hb hby at_296) rfl rfl k) ?_
              refine own_go (st' := T119.setTop (mkF m 300 #[oi p0, oi p1, oi p2, oi p3, oi 1, oi 2, oi u6, oi u7, oi u8, oi u9, oi m10, oi m11, oR a1_79, oR a1_80, oR b82, oi 1, .val .null, .unset, .unset] [(.ref b82), (.ref b82)])) (fun _ k => XS.aload X119.here hx rfl (hb hby at_298) rfl rfl k) ?_
              have c122 : Exa Z h85 a1_79 oS0 := (c86.keep K85)
              obtain ⟨cq121, kq121, q121a, q121b, q121c⟩ := isOf hZ eq119 g85_0
              obtain ⟨_, _, ⟨T121, LC121, kC121, nC121⟩, -, X121, ⟨Lc121, hQ121, lq121, yq121, zq121⟩, st121⟩ := X119.virtualBack hx (y := oM0) (z := oM0) hown (mvT hZ (own_hw hw 61)) (mvT hZ (own_hw hw 62)) (notFace_of_selects (args := #[]) (mvT hZ (own_hw hw 64))) (mvT hZ (own_hw hw 64)) (mvT hZ (own_hw hw 63)) (by decide) (backOf (W := 0) (rte_self l Z a0 hw [] b82 a1_79 m10 h85 n0 (by omega) g85_0 g85_1 g85_2 c122) hZ (own_hw hw 65) (own_hw hw 37) (by decide) (by decide)) q121a q121c (g := (mkF m 300 #[oi p0, oi p1, oi p2, oi p3, oi 1, oi 2, oi u6, oi u7, oi u8, oi u9, oi m10, oi m11, oR a1_79, oR a1_80, oR b82, oi 1, .val .null, .unset, .unset] [(.ref b82), (.ref b82)])) rfl (by rw [hml]; rfl) (Steps.refl _) (argsL := [(.ref b82)]) (rest := []) (lenOf pd_11 rfl) rfl (by show 2 * 0 + _ ≤ _; exact Nat.le_of_eq rfl) (hb hby at_300) (fun _ _ => ⟨rfl, eq119, (by decide : 9 + 0 ≤ _), (by decide : 40 + 0 ≤ _)⟩)
              dsimp only [Pt.U, Pt.locs, Pt.cells, Pt.slots] at X121 lq121 yq121 zq121 st121 hQ121
              subst lq121 yq121 zq121
              obtain ⟨rfl, Nq121, eq121⟩ := hQ121
              have N121 := Fr.app N119 Nq121
              refine own_go (st' := T121.setTop (mkF m 303 #[oi p0, oi p1, oi p2, oi p3, oi 1, oi 2, oi u6, oi u7, oi u8, oi u9, oi m10, oi m11, oR a1_79, oR a1_80, oR b82, oi 1, .val .null, .unset, .unset] [(.int (1 : Int32))])) (fun _ k => st121.trans k) ?_
              have hc123 : ¬ ((1 : Int32) = (0 : Int32)) := by decide
              refine own_go (st' := T121.setTop (mkF m 306 #[oi p0, oi p1, oi p2, oi p3, oi 1, oi 2, oi u6, oi u7, oi u8, oi u9, oi m10, oi m11, oR a1_79, oR a1_80, oR b82, oi 1, .val .null, .unset, .unset] [])) (fun _ k => XS.ifNo X121.here hx rfl (hb hby at_303) rfl ((if0 _ _).trans (feq hc123).1) k) ?_
              refine own_go (st' := T121.setTop (mkF m 307 #[oi p0, oi p1, oi p2, oi p3, oi 1, oi 2, oi u6, oi u7, oi u8, oi u9, oi m10, oi m11, oR a1_79, oR a1_80, oR b82, oi 1, .val .null, .unset, .unset] [(.int (1 : Int32))])) (fun _ k => XS.iconst X121.here hx rfl (hb hby at_306) k) ?_
              refine own_go (st' := T121.setTop (mkF m 311 #[oi p0, oi p1, oi p2, oi p3, oi 1, oi 2, oi u6, oi u7, oi u8, oi u9, oi m10, oi m11, oR a1_79, oR a1_80, oR b82, oi 1, .val .null, .unset, .unset] [(.int (1 : Int32))])) (fun _ k => XS.goto X121.here hx rfl (pc0 := 307) (pc' := 311) rfl (hb hby at_307) (by decide) (by decide) k) ?_
              obtain ⟨fs, hr, hrun, hended, hR1, hR2, hR3, hR4⟩ := X121.leaveW hS85 (by rw [eq121]; omega) (v := some (.int (1 : Int32))) (fun h => by rw [Bd.returns] at h; cases h)
              refine ⟨_, _, ?_, hP _ _ hrun hended ⟨_, _, rfl, ?_, hR1, hR2, hR3, hR4.mono (by decide) (by decide)⟩⟩
              · exact retN X121 hx (t := .boolean) Bd.returns (by simp) (hb hby at_311) hr
              · show Qrm0 Z p0 p1 p2 p3 ca zc h0 n0 _ T121.heap _
                rw [eq121]
                exact ⟨rfl, N121, trivial⟩
            · --
              refine own_go (st' := T85.setTop (mkF m 153 #[oi p0, oi p1, oi p2, oi p3, oi 1, oi 2, oi u6, oi u7, oi u8, oi u9, oi m10, oi m11, oR a1_79, oR a1_80, oR b82, oi 2, .unset, .unset, .unset] [])) (fun _ k => XS.istore X85.here hx rfl (hb hby at_151) rfl (l' := #[oi p0, oi p1, oi p2, oi p3, oi 1, oi 2, oi u6, oi u7, oi u8, oi u9, oi m10, oi m11, oR a1_79, oR a1_80, oR b82, oi 2, .unset, .unset, .unset]) rfl k) ?_
              refine own_go (st' := T85.setTop (mkF m 155 #[oi p0, oi p1, oi p2, oi p3, oi 1, oi 2, oi u6, oi u7, oi u8, oi u9, oi m10, oi m11, oR a1_79, oR a1_80, oR b82, oi 2, .unset, .unset, .unset] [(.int (2 : Int32))])) (fun _ k => XS.iload X85.here hx rfl (hb hby at_153) rfl k) ?_
              have hc125 : ¬ ((2 : Int32) = (0 : Int32)) := by decide
              refine own_go (st' := T85.setTop (mkF m 254 #[oi p0, oi p1, oi p2, oi p3, oi 1, oi 2, oi u6, oi u7, oi u8, oi u9, oi m10, oi m11, oR a1_79, oR a1_80, oR b82, oi 2, .unset, .unset, .unset] [])) (fun _ k => XS.ifYes X85.here hx rfl (pc0 := 155) (pc' := 254) rfl (hb hby at_155) rfl ((if0 _ _).trans (feq hc125).2) (by decide) (by decide) k) ?_
              refine own_go (st' := T85.setTop (mkF m 256 #[oi p0, oi p1, oi p2, oi p3, oi 1, oi 2, oi u6, oi u7, oi u8, oi u9, oi m10, oi m11, oR a1_79, oR a1_80, oR b82, oi 2, .unset, .unset, .unset] [(.int (2 : Int32))])) (fun _ k => XS.iload X85.here hx rfl (hb hby at_254) rfl k) ?_
              refine own_go (st' := T85.setTop (mkF m 257 #[oi p0, oi p1, oi p2, oi p3, oi 1, oi 2, oi u6, oi u7, oi u8, oi u9, oi m10, oi m11, oR a1_79, oR a1_80, oR b82, oi 2, .unset, .unset, .unset] [(.int (1 : Int32)), (.int (2 : Int32))])) (fun _ k => XS.iconst X85.here hx rfl (hb hby at_256) k) ?_
              have hc126 : ¬ ((2 : Int32) = (1 : Int32)) := by decide
              refine own_go (st' := T85.setTop (mkF m 266 #[oi p0, oi p1, oi p2, oi p3, oi 1, oi 2, oi u6, oi u7, oi u8, oi u9, oi m10, oi m11, oR a1_79, oR a1_80, oR b82, oi 2, .unset, .unset, .unset] [])) (fun _ k => XS.icmpYes X85.here hx rfl (pc0 := 257) (pc' := 266) rfl (hb hby at_257) rfl (feq hc126).2 (by decide) (by decide) k) ?_
              refine own_go (st' := T85.setTop (mkF m 268 #[oi p0, oi p1, oi p2, oi p3, oi 1, oi 2, oi u6, oi u7, oi u8, oi u9, oi m10, oi m11, oR a1_79, oR a1_80, oR b82, oi 2, .unset, .unset, .unset] [(.int (2 : Int32))])) (fun _ k => XS.iload X85.here hx rfl (hb hby at_266) rfl k) ?_
              refine own_go (st' := T85.setTop (mkF m 269 #[oi p0, oi p1, oi p2, oi p3, oi 1, oi 2, oi u6, oi u7, oi u8, oi u9, oi m10, oi m11, oR a1_79, oR a1_80, oR b82, oi 2, .unset, .unset, .unset] [(.int (2 : Int32)), (.int (2 : Int32))])) (fun _ k => XS.iconst X85.here hx rfl (hb hby at_268) k) ?_
              have hc127 : (2 : Int32) = (2 : Int32) := by decide
              refine own_go (st' := T85.setTop (mkF m 272 #[oi p0, oi p1, oi p2, oi p3, oi 1, oi 2, oi u6, oi u7, oi u8, oi u9, oi m10, oi m11, oR a1_79, oR a1_80, oR b82, oi 2, .unset, .unset, .unset] [])) (fun _ k => XS.icmpNo X85.here hx rfl (hb hby at_269) rfl (teq hc127).2 k) ?_
              refine own_go (st' := T85.setTop (mkF m 274 #[oi p0, oi p1, oi p2, oi p3, oi 1, oi 2, oi u6, oi u7, oi u8, oi u9, oi m10, oi m11, oR a1_79, oR a1_80, oR b82, oi 2, .unset, .unset, .unset] [(.ref a1_79)])) (fun _ k => XS.aload X85.here hx rfl (hb hby at_272) rfl rfl k) ?_
              refine own_go (st' := T85.setTop (mkF m 276 #[oi p0, oi p1, oi p2, oi p3, oi 1, oi 2, oi u6, oi u7, oi u8, oi u9, oi m10, oi m11, oR a1_79, oR a1_80, oR b82, oi 2, oR a1_79, .unset, .unset] [])) (fun _ k => XS.astore X85.here hx rfl (hb hby at_274) rfl rfl (l' := #[oi p0, oi p1, oi p2, oi p3, oi 1, oi 2, oi u6, oi u7, oi u8, oi u9, oi m10, oi m11, oR a1_79, oR a1_80, oR b82, oi 2, oR a1_79, .unset, .unset]) rfl k) ?_
              refine own_go (st' := T85.setTop (mkF m 286 #[oi p0, oi p1, oi p2, oi p3, oi 1, oi 2, oi u6, oi u7, oi u8, oi u9, oi m10, oi m11, oR a1_79, oR a1_80, oR b82, oi 2, oR a1_79, .unset, .unset] [])) (fun _ k => XS.goto X85.here hx rfl (pc0 := 276) (pc' := 286) rfl (hb hby at_276) (by decide) (by decide) k) ?_
              refine own_go (st' := T85.setTop (mkF m 288 #[oi p0, oi p1, oi p2, oi p3, oi 1, oi 2, oi u6, oi u7, oi u8, oi u9, oi m10, oi m11, oR a1_79, oR a1_80, oR b82, oi 2, oR a1_79, .unset, .unset] [(.ref b82)])) (fun _ k => XS.aload X85.here hx rfl (hb hby at_286) rfl rfl k) ?_
              refine own_go (st' := T85.setTop (mkF m 290 #[oi p0, oi p1, oi p2, oi p3, oi 1, oi 2, oi u6, oi u7, oi u8, oi u9, oi m10, oi m11, oR a1_79, oR a1_80, oR b82, oi 2, oR a1_79, .unset, .unset] [(.ref a1_79), (.ref b82)])) (fun _ k => XS.aload X85.here hx rfl (hb hby at_288) rfl rfl k) ?_
              have c129 : Exa Z h85 a1_79 oS0 := (c86.keep K85)
              obtain ⟨cq128, kq128, q128a, q128b, q128c⟩ := isOf hZ e85 g85_0
              obtain ⟨_, _, ⟨T128, LC128, kC128, nC128⟩, -, X128, ⟨Lc128, hQ128, lq128, yq128, zq128⟩, st128⟩ := X85.virtualBack hx (y := oM0) (z := oM0) hown (mvT hZ (own_hw hw 61)) (mvT hZ (own_hw hw 62)) (notFace_of_selects (args := #[]) (mvT hZ (own_hw hw 64))) (mvT hZ (own_hw hw 64)) (mvT hZ (own_hw hw 63)) (by decide) (backOf (W := 0) (rte_str l Z a0 hw [] b82 a1_79 h85 n0 (by omega) c129) hZ (own_hw hw 65) (own_hw hw 37) (by decide) (by decide)) q128a q128c (g := (mkF m 290 #[oi p0, oi p1, oi p2, oi p3, oi 1, oi 2, oi u6, oi u7, oi u8, oi u9, oi m10, oi m11, oR a1_79, oR a1_80, oR b82, oi 2, oR a1_79, .unset, .unset] [(.ref a1_79), (.ref b82)])) rfl (by rw [hml]; rfl) (Steps.refl _) (argsL := [(.ref a1_79)]) (rest := []) (lenOf pd_11 rfl) rfl (by show 2 * 0 + _ ≤ _; exact Nat.le_of_eq rfl) (hb hby at_290) (fun _ _ => ⟨rfl, e85, (by decide : 9 + 0 ≤ _), (by decide : 40 + 0 ≤ _)⟩)
              dsimp only [Pt.U, Pt.locs, Pt.cells, Pt.slots] at X128 lq128 yq128 zq128 st128 hQ128
              subst lq128 yq128 zq128
              obtain ⟨rfl, Nq128, eq128⟩ := hQ128
              have N128 := Fr.app N85 Nq128
              refine own_go (st' := T128.setTop (mkF m 293 #[oi p0, oi p1, oi p2, oi p3, oi 1, oi 2, oi u6, oi u7, oi u8, oi u9, oi m10, oi m11, oR a1_79, oR a1_80, oR b82, oi 2, oR a1_79, .unset, .unset] [(.int (0 : Int32))])) (fun _ k => st128.trans k) ?_
              have hc130 : (0 : Int32) = (0 : Int32) := by decide
              refine own_go (st' := T128.setTop (mkF m 296 #[oi p0, oi p1, oi p2, oi p3, oi 1, oi 2, oi u6, oi u7, oi u8, oi u9, oi m10, oi m11, oR a1_79, oR a1_80, oR b82, oi 2, oR a1_79, .unset, .unset] [])) (fun _ k => XS.ifNo X128.here hx rfl (hb hby at_293) rfl ((if0 _ _).trans (teq hc130).2) k) ?_
              refine own_go (st' := T128.setTop (mkF m 298 #[oi p0, oi p1, oi p2, oi p3, oi 1, oi 2, oi u6, oi u7, oi u8, oi u9, oi m10, oi m11, oR a1_79, oR a1_80, oR b82, oi 2, oR a1_79, .unset, .unset] [(.ref b82)])) (fun _ k => XS.aload X128.here hx rfl (hb hby at_296) rfl rfl k) ?_
              refine own_go (st' := T128.setTop (mkF m 300 #[oi p0, oi p1, oi p2, oi p3, oi 1, oi 2, oi u6, oi u7, oi u8, oi u9, oi m10, oi m11, oR a1_79, oR a1_80, oR b82, oi 2, oR a1_79, .unset, .unset] [(.ref b82), (.ref b82)])) (fun _ k => XS.aload X128.here hx rfl (hb hby at_298) rfl rfl k) ?_
              obtain ⟨cq131, kq131, q131a, q131b, q131c⟩ := isOf hZ eq128 g85_0
              obtain ⟨_, _, ⟨T131, LC131, kC131, nC131⟩, -, X131, ⟨Lc131, hQ131, lq131, yq131, zq131⟩, st131⟩ := X128.virtualBack hx (y := oM0) (z := oM0) hown (mvT hZ (own_hw hw 61)) (mvT hZ (own_hw hw 62)) (notFace_of_selects (args := #[]) (mvT hZ (own_hw hw 64))) (mvT hZ (own_hw hw 64)) (mvT hZ (own_hw hw 63)) (by decide) (backOf (W := 0) (rte_self l Z a0 hw [] b82 a1_79 m10 h85 n0 (by omega) g85_0 g85_1 g85_2 c129) hZ (own_hw hw 65) (own_hw hw 37) (by decide) (by decide)) q131a q131c (g := (mkF m 300 #[oi p0, oi p1, oi p2, oi p3, oi 1, oi 2, oi u6, oi u7, oi u8, oi u9, oi m10, oi m11, oR a1_79, oR a1_80, oR b82, oi 2, oR a1_79, .unset, .unset] [(.ref b82), (.ref b82)])) rfl (by rw [hml]; rfl) (Steps.refl _) (argsL := [(.ref b82)]) (rest := []) (lenOf pd_11 rfl) rfl (by show 2 * 0 + _ ≤ _; exact Nat.le_of_eq rfl) (hb hby at_300) (fun _ _ => ⟨rfl, eq128, (by decide : 9 + 0 ≤ _), (by decide : 40 + 0 ≤ _)⟩)
              dsimp only [Pt.U, Pt.locs, Pt.cells, Pt.slots] at X131 lq131 yq131 zq131 st131 hQ131
              subst lq131 yq131 zq131
              obtain ⟨rfl, Nq131, eq131⟩ := hQ131
              have N131 := Fr.app N128 Nq131
              refine own_go (st' := T131.setTop (mkF m 303 #[oi p0, oi p1, oi p2, oi p3, oi 1, oi 2, oi u6, oi u7, oi u8, oi u9, oi m10, oi m11, oR a1_79, oR a1_80, oR b82, oi 2, oR a1_79, .unset, .unset] [(.int (1 : Int32))])) (fun _ k => st131.trans k) ?_
              have hc132 : ¬ ((1 : Int32) = (0 : Int32)) := by decide
              refine own_go (st' := T131.setTop (mkF m 306 #[oi p0, oi p1, oi p2, oi p3, oi 1, oi 2, oi u6, oi u7, oi u8, oi u9, oi m10, oi m11, oR a1_79, oR a1_80, oR b82, oi 2, oR a1_79, .unset, .unset] [])) (fun _ k => XS.ifNo X131.here hx rfl (hb hby at_303) rfl ((if0 _ _).trans (feq hc132).1) k) ?_
              refine own_go (st' := T131.setTop (mkF m 307 #[oi p0, oi p1, oi p2, oi p3, oi 1, oi 2, oi u6, oi u7, oi u8, oi u9, oi m10, oi m11, oR a1_79, oR a1_80, oR b82, oi 2, oR a1_79, .unset, .unset] [(.int (1 : Int32))])) (fun _ k => XS.iconst X131.here hx rfl (hb hby at_306) k) ?_
              refine own_go (st' := T131.setTop (mkF m 311 #[oi p0, oi p1, oi p2, oi p3, oi 1, oi 2, oi u6, oi u7, oi u8, oi u9, oi m10, oi m11, oR a1_79, oR a1_80, oR b82, oi 2, oR a1_79, .unset, .unset] [(.int (1 : Int32))])) (fun _ k => XS.goto X131.here hx rfl (pc0 := 307) (pc' := 311) rfl (hb hby at_307) (by decide) (by decide) k) ?_
              obtain ⟨fs, hr, hrun, hended, hR1, hR2, hR3, hR4⟩ := X131.leaveW hS85 (by rw [eq131]; omega) (v := some (.int (1 : Int32))) (fun h => by rw [Bd.returns] at h; cases h)
              refine ⟨_, _, ?_, hP _ _ hrun hended ⟨_, _, rfl, ?_, hR1, hR2, hR3, hR4.mono (by decide) (by decide)⟩⟩
              · exact retN X131 hx (t := .boolean) Bd.returns (by simp) (hb hby at_311) hr
              · show Qrm0 Z p0 p1 p2 p3 ca zc h0 n0 _ T131.heap _
                rw [eq131]
                exact ⟨rfl, N131, trivial⟩
            · --
              refine own_go (st' := T85.setTop (mkF m 153 #[oi p0, oi p1, oi p2, oi p3, oi 1, oi 2, oi u6, oi u7, oi u8, oi u9, oi m10, oi m11, oR a1_79, oR a1_80, oR b82, oi 3, .unset, .unset, .unset] [])) (fun _ k => XS.istore X85.here hx rfl (hb hby at_151) rfl (l' := #[oi p0, oi p1, oi p2, oi p3, oi 1, oi 2, oi u6, oi u7, oi u8, oi u9, oi m10, oi m11, oR a1_79, oR a1_80, oR b82, oi 3, .unset, .unset, .unset]) rfl k) ?_
              refine own_go (st' := T85.setTop (mkF m 155 #[oi p0, oi p1, oi p2, oi p3, oi 1, oi 2, oi u6, oi u7, oi u8, oi u9, oi m10, oi m11, oR a1_79, oR a1_80, oR b82, oi 3, .unset, .unset, .unset] [(.int (3 : Int32))])) (fun _ k => XS.iload X85.here hx rfl (hb hby at_153) rfl k) ?_
              have hc134 : ¬ ((3 : Int32) = (0 : Int32)) := by decide
              refine own_go (st' := T85.setTop (mkF m 254 #[oi p0, oi p1, oi p2, oi p3, oi 1, oi 2, oi u6, oi u7, oi u8, oi u9, oi m10, oi m11, oR a1_79, oR a1_80, oR b82, oi 3, .unset, .unset, .unset] [])) (fun _ k => XS.ifYes X85.here hx rfl (pc0 := 155) (pc' := 254) rfl (hb hby at_155) rfl ((if0 _ _).trans (feq hc134).2) (by decide) (by decide) k) ?_
              refine own_go (st' := T85.setTop (mkF m 256 #[oi p0, oi p1, oi p2, oi p3, oi 1, oi 2, oi u6, oi u7, oi u8, oi u9, oi m10, oi m11, oR a1_79, oR a1_80, oR b82, oi 3, .unset, .unset, .unset] [(.int (3 : Int32))])) (fun _ k => XS.iload X85.here hx rfl (hb hby at_254) rfl k) ?_
              refine own_go (st' := T85.setTop (mkF m 257 #[oi p0, oi p1, oi p2, oi p3, oi 1, oi 2, oi u6, oi u7, oi u8, oi u9, oi m10, oi m11, oR a1_79, oR a1_80, oR b82, oi 3, .unset, .unset, .unset] [(.int (1 : Int32)), (.int (3 : Int32))])) (fun _ k => XS.iconst X85.here hx rfl (hb hby at_256) k) ?_
              have hc135 : ¬ ((3 : Int32) = (1 : Int32)) := by decide
              refine own_go (st' := T85.setTop (mkF m 266 #[oi p0, oi p1, oi p2, oi p3, oi 1, oi 2, oi u6, oi u7, oi u8, oi u9, oi m10, oi m11, oR a1_79, oR a1_80, oR b82, oi 3, .unset, .unset, .unset] [])) (fun _ k => XS.icmpYes X85.here hx rfl (pc0 := 257) (pc' := 266) rfl (hb hby at_257) rfl (feq hc135).2 (by decide) (by decide) k) ?_
              refine own_go (st' := T85.setTop (mkF m 268 #[oi p0, oi p1, oi p2, oi p3, oi 1, oi 2, oi u6, oi u7, oi u8, oi u9, oi m10, oi m11, oR a1_79, oR a1_80, oR b82, oi 3, .unset, .unset, .unset] [(.int (3 : Int32))])) (fun _ k => XS.iload X85.here hx rfl (hb hby at_266) rfl k) ?_
              refine own_go (st' := T85.setTop (mkF m 269 #[oi p0, oi p1, oi p2, oi p3, oi 1, oi 2, oi u6, oi u7, oi u8, oi u9, oi m10, oi m11, oR a1_79, oR a1_80, oR b82, oi 3, .unset, .unset, .unset] [(.int (2 : Int32)), (.int (3 : Int32))])) (fun _ k => XS.iconst X85.here hx rfl (hb hby at_268) k) ?_
              have hc136 : ¬ ((3 : Int32) = (2 : Int32)) := by decide
              refine own_go (st' := T85.setTop (mkF m 279 #[oi p0, oi p1, oi p2, oi p3, oi 1, oi 2, oi u6, oi u7, oi u8, oi u9, oi m10, oi m11, oR a1_79, oR a1_80, oR b82, oi 3, .unset, .unset, .unset] [])) (fun _ k => XS.icmpYes X85.here hx rfl (pc0 := 269) (pc' := 279) rfl (hb hby at_269) rfl (feq hc136).2 (by decide) (by decide) k) ?_
              refine own_go (st' := T85.setTop (mkF m 281 #[oi p0, oi p1, oi p2, oi p3, oi 1, oi 2, oi u6, oi u7, oi u8, oi u9, oi m10, oi m11, oR a1_79, oR a1_80, oR b82, oi 3, .unset, .unset, .unset] [(.int m10)])) (fun _ k => XS.iload X85.here hx rfl (hb hby at_279) rfl k) ?_
              have c138 : Sta Z h85 oS5 "high" "I" (.int (127 : Int32)) := (own_sta_keep ((own_sta_keep (own_sta_keep pr1 K79 all0) K80 all0).ext E82) K85 (allS (P := fun x => ∀ c : Cell, h82[x]? = some c → c.vm.isStatics = false) (own_pl_exa A82) all0))
              have c139 : Sta Z h85 oS5 "cache" oS8 (.ref ca) := (own_sta_keep ((own_sta_keep (own_sta_keep pr2 K79 all0) K80 all0).ext E82) K85 (allS (P := fun x => ∀ c : Cell, h82[x]? = some c → c.vm.isStatics = false) (own_pl_exa A82) all0))
              have c140 : own_Cache Z h85 ca := (own_Cache_keep (own_Cache_ext (own_Cache_keep (own_Cache_keep pr3 K79 nin0) K80 nin0) E82) K85 (ninS (own_ne (by omega)) nin0))
              obtain ⟨_, _, ⟨T137, LC137, kC137, nC137⟩, -, X137, ⟨Lc137, hQ137, lq137, yq137, zq137⟩, st137⟩ := Jvm.LawKit.callS X85 hx (y := oM6) hown (mvT hZ (own_hw hw 75)) (mvT hZ (own_hw hw 76)) (mvT hZ (own_hw hw 77)) (mvT hZ (own_hw hw 78)) (by decide) (backOf (W := 0) (rm14 l Z a0 hw [] m10 ca h85 n0 (by omega) c138 c139 c140) hZ (own_hw hw 78) (own_hw hw 77) (by decide) (by decide)) (g := (mkF m 281 #[oi p0, oi p1, oi p2, oi p3, oi 1, oi 2, oi u6, oi u7, oi u8, oi u9, oi m10, oi m11, oR a1_79, oR a1_80, oR b82, oi 3, .unset, .unset, .unset] [(.int m10)])) rfl (by rw [hml]; rfl) (argsL := [(.int m10)]) (rest := []) (lenOf pd_14 rfl) rfl (by show 2 * 0 + _ ≤ _; exact Nat.le_of_eq rfl) (hb hby at_281) (fun _ _ => ⟨rfl, e85, (by decide : 9 + 1 ≤ _), (by decide : 40 + 1 ≤ _)⟩)
              dsimp only [Pt.U, Pt.locs, Pt.cells, Pt.slots] at X137 lq137 yq137 zq137 st137 hQ137
              subst lq137 yq137 zq137
              obtain ⟨h137, e137⟩ : ∃ z, T137.heap = z := ⟨_, rfl⟩
              rw [e137] at hQ137
              obtain ⟨r_137, rfl, Nq137, K137, g137_0⟩ := hQ137
              have sz137 : h85.size ≤ h137.size := K137.1
              have N137 := Fr.app N85 Nq137
              have lt137_1 : @LT.lt Nat _ r_137 h137.size := g137_0.lt
              refine own_go (st' := T137.setTop (mkF m 284 #[oi p0, oi p1, oi p2, oi p3, oi 1, oi 2, oi u6, oi u7, oi u8, oi u9, oi m10, oi m11, oR a1_79, oR a1_80, oR b82, oi 3, .unset, .unset, .unset] [(.ref r_137)])) (fun t k => st137 t k) ?_
              refine own_go (st' := T137.setTop (mkF m 286 #[oi p0, oi p1, oi p2, oi p3, oi 1, oi 2, oi u6, oi u7, oi u8, oi u9, oi m10, oi m11, oR a1_79, oR a1_80, oR b82, oi 3, oR r_137, .unset, .unset] [])) (fun _ k => XS.astore X137.here hx rfl (hb hby at_284) rfl rfl (l' := #[oi p0, oi p1, oi p2, oi p3, oi 1, oi 2, oi u6, oi u7, oi u8, oi u9, oi m10, oi m11, oR a1_79, oR a1_80, oR b82, oi 3, oR r_137, .unset, .unset]) rfl k) ?_
              refine own_go (st' := T137.setTop (mkF m 288 #[oi p0, oi p1, oi p2, oi p3, oi 1, oi 2, oi u6, oi u7, oi u8, oi u9, oi m10, oi m11, oR a1_79, oR a1_80, oR b82, oi 3, oR r_137, .unset, .unset] [(.ref b82)])) (fun _ k => XS.aload X137.here hx rfl (hb hby at_286) rfl rfl k) ?_
              refine own_go (st' := T137.setTop (mkF m 290 #[oi p0, oi p1, oi p2, oi p3, oi 1, oi 2, oi u6, oi u7, oi u8, oi u9, oi m10, oi m11, oR a1_79, oR a1_80, oR b82, oi 3, oR r_137, .unset, .unset] [(.ref r_137), (.ref b82)])) (fun _ k => XS.aload X137.here hx rfl (hb hby at_288) rfl rfl k) ?_
              have c142 : Exa Z h137 b82 oS1 := (g85_0.keep K137)
              obtain ⟨cq141, kq141, q141a, q141b, q141c⟩ := isOf hZ e137 c142
              obtain ⟨_, _, ⟨T141, LC141, kC141, nC141⟩, -, X141, ⟨Lc141, hQ141, lq141, yq141, zq141⟩, st141⟩ := X137.virtualBack hx (y := oM0) (z := oM0) hown (mvT hZ (own_hw hw 61)) (mvT hZ (own_hw hw 62)) (notFace_of_selects (args := #[]) (mvT hZ (own_hw hw 64))) (mvT hZ (own_hw hw 64)) (mvT hZ (own_hw hw 63)) (by decide) (backOf (W := 0) (rte_int l Z a0 hw [] b82 r_137 h137 n0 (by omega) g137_0) hZ (own_hw hw 65) (own_hw hw 37) (by decide) (by decide)) q141a q141c (g := (mkF m 290 #[oi p0, oi p1, oi p2, oi p3, oi 1, oi 2, oi u6, oi u7, oi u8, oi u9, oi m10, oi m11, oR a1_79, oR a1_80, oR b82, oi 3, oR r_137, .unset, .unset] [(.ref r_137), (.ref b82)])) rfl (by rw [hml]; rfl) (Steps.refl _) (argsL := [(.ref r_137)]) (rest := []) (lenOf pd_11 rfl) rfl (by show 2 * 0 + _ ≤ _; exact Nat.le_of_eq rfl) (hb hby at_290) (fun _ _ => ⟨rfl, e137, (by decide : 10 + 0 ≤ _), (by decide : 41 + 0 ≤ _)⟩)
              dsimp only [Pt.U, Pt.locs, Pt.cells, Pt.slots] at X141 lq141 yq141 zq141 st141 hQ141
              subst lq141 yq141 zq141
              obtain ⟨rfl, Nq141, eq141⟩ := hQ141
              have N141 := Fr.app N137 Nq141
              refine own_go (st' := T141.setTop (mkF m 293 #[oi p0, oi p1, oi p2, oi p3, oi 1, oi 2, oi u6, oi u7, oi u8, oi u9, oi m10, oi m11, oR a1_79, oR a1_80, oR b82, oi 3, oR r_137, .unset, .unset] [(.int (0 : Int32))])) (fun _ k => st141.trans k) ?_
              have hc143 : (0 : Int32) = (0 : Int32) := by decide
              refine own_go (st' := T141.setTop (mkF m 296 #[oi p0, oi p1, oi p2, oi p3, oi 1, oi 2, oi u6, oi u7, oi u8, oi u9, oi m10, oi m11, oR a1_79, oR a1_80, oR b82, oi 3, oR r_137, .unset, .unset] [])) (fun _ k => XS.ifNo X141.here hx rfl (hb hby at_293) rfl ((if0 _ _).trans (teq hc143).2) k) ?_
              refine own_go (st' := T141.setTop (mkF m 298 #[oi p0, oi p1, oi p2, oi p3, oi 1, oi 2, oi u6, oi u7, oi u8, oi u9, oi m10, oi m11, oR a1_79, oR a1_80, oR b82, oi 3, oR r_137, .unset, .unset] [(.ref b82)])) (fun _ k => XS.aload X141.here hx rfl (hb hby at_296) rfl rfl k) ?_
              refine own_go (st' := T141.setTop (mkF m 300 #[oi p0, oi p1, oi p2, oi p3, oi 1, oi 2, oi u6, oi u7, oi u8, oi u9, oi m10, oi m11, oR a1_79, oR a1_80, oR b82, oi 3, oR r_137, .unset, .unset] [(.ref b82), (.ref b82)])) (fun _ k => XS.aload X141.here hx rfl (hb hby at_298) rfl rfl k) ?_
              have c145 : Fld Z h137 b82 oS1 "topic" oS2 (.ref a1_79) := (g85_1.keep K137 nin0)
              have c146 : Fld Z h137 b82 oS1 "number" "I" (.int m10) := (g85_2.keep K137 nin0)
              have c147 : Exa Z h137 a1_79 oS0 := ((c86.keep K85).keep K137)
              obtain ⟨cq144, kq144, q144a, q144b, q144c⟩ := isOf hZ eq141 c142
              obtain ⟨_, _, ⟨T144, LC144, kC144, nC144⟩, -, X144, ⟨Lc144, hQ144, lq144, yq144, zq144⟩, st144⟩ := X141.virtualBack hx (y := oM0) (z := oM0) hown (mvT hZ (own_hw hw 61)) (mvT hZ (own_hw hw 62)) (notFace_of_selects (args := #[]) (mvT hZ (own_hw hw 64))) (mvT hZ (own_hw hw 64)) (mvT hZ (own_hw hw 63)) (by decide) (backOf (W := 0) (rte_self l Z a0 hw [] b82 a1_79 m10 h137 n0 (by omega) c142 c145 c146 c147) hZ (own_hw hw 65) (own_hw hw 37) (by decide) (by decide)) q144a q144c (g := (mkF m 300 #[oi p0, oi p1, oi p2, oi p3, oi 1, oi 2, oi u6, oi u7, oi u8, oi u9, oi m10, oi m11, oR a1_79, oR a1_80, oR b82, oi 3, oR r_137, .unset, .unset] [(.ref b82), (.ref b82)])) rfl (by rw [hml]; rfl) (Steps.refl _) (argsL := [(.ref b82)]) (rest := []) (lenOf pd_11 rfl) rfl (by show 2 * 0 + _ ≤ _; exact Nat.le_of_eq rfl) (hb hby at_300) (fun _ _ => ⟨rfl, eq141, (by decide : 10 + 0 ≤ _), (by decide : 41 + 0 ≤ _)⟩)
              dsimp only [Pt.U, Pt.locs, Pt.cells, Pt.slots] at X144 lq144 yq144 zq144 st144 hQ144
              subst lq144 yq144 zq144
              obtain ⟨rfl, Nq144, eq144⟩ := hQ144
              have N144 := Fr.app N141 Nq144
              refine own_go (st' := T144.setTop (mkF m 303 #[oi p0, oi p1, oi p2, oi p3, oi 1, oi 2, oi u6, oi u7, oi u8, oi u9, oi m10, oi m11, oR a1_79, oR a1_80, oR b82, oi 3, oR r_137, .unset, .unset] [(.int (1 : Int32))])) (fun _ k => st144.trans k) ?_
              have hc148 : ¬ ((1 : Int32) = (0 : Int32)) := by decide
              refine own_go (st' := T144.setTop (mkF m 306 #[oi p0, oi p1, oi p2, oi p3, oi 1, oi 2, oi u6, oi u7, oi u8, oi u9, oi m10, oi m11, oR a1_79, oR a1_80, oR b82, oi 3, oR r_137, .unset, .unset] [])) (fun _ k => XS.ifNo X144.here hx rfl (hb hby at_303) rfl ((if0 _ _).trans (feq hc148).1) k) ?_
              refine own_go (st' := T144.setTop (mkF m 307 #[oi p0, oi p1, oi p2, oi p3, oi 1, oi 2, oi u6, oi u7, oi u8, oi u9, oi m10, oi m11, oR a1_79, oR a1_80, oR b82, oi 3, oR r_137, .unset, .unset] [(.int (1 : Int32))])) (fun _ k => XS.iconst X144.here hx rfl (hb hby at_306) k) ?_
              refine own_go (st' := T144.setTop (mkF m 311 #[oi p0, oi p1, oi p2, oi p3, oi 1, oi 2, oi u6, oi u7, oi u8, oi u9, oi m10, oi m11, oR a1_79, oR a1_80, oR b82, oi 3, oR r_137, .unset, .unset] [(.int (1 : Int32))])) (fun _ k => XS.goto X144.here hx rfl (pc0 := 307) (pc' := 311) rfl (hb hby at_307) (by decide) (by decide) k) ?_
              obtain ⟨fs, hr, hrun, hended, hR1, hR2, hR3, hR4⟩ := X144.leaveW hS85 (by rw [eq144]; omega) (v := some (.int (1 : Int32))) (fun h => by rw [Bd.returns] at h; cases h)
              refine ⟨_, _, ?_, hP _ _ hrun hended ⟨_, _, rfl, ?_, hR1, hR2, hR3, hR4.mono (by decide) (by decide)⟩⟩
              · exact retN X144 hx (t := .boolean) Bd.returns (by simp) (hb hby at_311) hr
              · show Qrm0 Z p0 p1 p2 p3 ca zc h0 n0 _ T144.heap _
                rw [eq144]
                exact ⟨rfl, N144, trivial⟩
        · --
          rcases ht_n5 with rfl | rfl
          · --
            refine own_go (st' := Tj3.setTop (mkF m 112 #[oi p0, oi p1, oi p2, oi p3, oi 2, oi 1, oi u6, oi u7, oi u8, oi u9, oi m10, oi m11, .unset, .unset, .unset, .unset, .unset, .unset, .unset] [(.int (2 : Int32))])) (fun _ k => XS.iload Xj3.here hx rfl (hb hby at_110) rfl k) ?_
            refine own_go (st' := Tj3.setTop (mkF m 114 #[oi p0, oi p1, oi p2, oi p3, oi 2, oi 1, oi u6, oi u7, oi u8, oi u9, oi m10, oi m11, .unset, .unset, .unset, .unset, .unset, .unset, .unset] [(.int u6), (.int (2 : Int32))])) (fun _ k => XS.iload Xj3.here hx rfl (hb hby at_112) rfl k) ?_
            refine own_go (st' := Tj3.setTop (mkF m 116 #[oi p0, oi p1, oi p2, oi p3, oi 2, oi 1, oi u6, oi u7, oi u8, oi u9, oi m10, oi m11, .unset, .unset, .unset, .unset, .unset, .unset, .unset] [(.int u7), (.int u6), (.int (2 : Int32))])) (fun _ k => XS.iload Xj3.here hx rfl (hb hby at_114) rfl k) ?_
            obtain ⟨_, _, ⟨T150, LC150, kC150, nC150⟩, -, X150, ⟨Lc150, hQ150, lq150, yq150, zq150⟩, st150⟩ := Jvm.LawKit.callS Xj3 hx (y := oM3) hown (mvT hZ (own_hw hw 1)) (mvT hZ (own_hw hw 2)) (mvT hZ (own_hw hw 3)) (mvT hZ (own_hw hw 4)) (by decide) (backOf (W := 0) (rmk_2 l Z a0 hw [] zc u6 u7 h0 n0 (by omega) pr4 (by assumption) hl_u6 hl_u7) hZ (own_hw hw 4) (own_hw hw 3) (by decide) (by decide)) (g := (mkF m 116 #[oi p0, oi p1, oi p2, oi p3, oi 2, oi 1, oi u6, oi u7, oi u8, oi u9, oi m10, oi m11, .unset, .unset, .unset, .unset, .unset, .unset, .unset] [(.int u7), (.int u6), (.int (2 : Int32))])) rfl (by rw [hml]; rfl) (argsL := [(.int (2 : Int32)), (.int u6), (.int u7)]) (rest := []) (lenOf pd_12 rfl) rfl (by show 2 * 0 + _ ≤ _; exact Nat.le_of_eq rfl) (hb hby at_116) (fun _ _ => ⟨rfl, ej3, (by decide : 0 + 3 ≤ _), (by decide : 0 + 8 ≤ _)⟩)
            dsimp only [Pt.U, Pt.locs, Pt.cells, Pt.slots] at X150 lq150 yq150 zq150 st150 hQ150
            subst lq150 yq150 zq150
            obtain ⟨h150, e150⟩ : ∃ z, T150.heap = z := ⟨_, rfl⟩
            rw [e150] at hQ150
            obtain ⟨a1_150, r_150, kr_150, rfl, Nq150, K150, g150_0, g150_1, g150_2, g150_3, g150_4, g150_5, g150_6⟩ := hQ150
            have sz150 : h0.size ≤ h150.size := K150.1
            have N150 := Fr.app Nj3 Nq150
            have lt150_1 : @LT.lt Nat _ a1_150 h150.size := g150_0.lt
            have lt150_2 : @LT.lt Nat _ r_150 h150.size := g150_3.lt
            refine own_go (st' := T150.setTop (mkF m 119 #[oi p0, oi p1, oi p2, oi p3, oi 2, oi 1, oi u6, oi u7, oi u8, oi u9, oi m10, oi m11, .unset, .unset, .unset, .unset, .unset, .unset, .unset] [(.ref a1_150)])) (fun t k => st150 t k) ?_
            refine own_go (st' := T150.setTop (mkF m 121 #[oi p0, oi p1, oi p2, oi p3, oi 2, oi 1, oi u6, oi u7, oi u8, oi u9, oi m10, oi m11, oR a1_150, .unset, .unset, .unset, .unset, .unset, .unset] [])) (fun _ k => XS.astore X150.here hx rfl (hb hby at_119) rfl rfl (l' := #[oi p0, oi p1, oi p2, oi p3, oi 2, oi 1, oi u6, oi u7, oi u8, oi u9, oi m10, oi m11, oR a1_150, .unset, .unset, .unset, .unset, .unset, .unset]) rfl k) ?_
            refine own_go (st' := T150.setTop (mkF m 123 #[oi p0, oi p1, oi p2, oi p3, oi 2, oi 1, oi u6, oi u7, oi u8, oi u9, oi m10, oi m11, oR a1_150, .unset, .unset, .unset, .unset, .unset, .unset] [(.int (1 : Int32))])) (fun _ k => XS.iload X150.here hx rfl (hb hby at_121) rfl k) ?_
            refine own_go (st' := T150.setTop (mkF m 125 #[oi p0, oi p1, oi p2, oi p3, oi 2, oi 1, oi u6, oi u7, oi u8, oi u9, oi m10, oi m11, oR a1_150, .unset, .unset, .unset, .unset, .unset, .unset] [(.int u8), (.int (1 : Int32))])) (fun _ k => XS.iload X150.here hx rfl (hb hby at_123) rfl k) ?_
            refine own_go (st' := T150.setTop (mkF m 127 #[oi p0, oi p1, oi p2, oi p3, oi 2, oi 1, oi u6, oi u7, oi u8, oi u9, oi m10, oi m11, oR a1_150, .unset, .unset, .unset, .unset, .unset, .unset] [(.int u9), (.int u8), (.int (1 : Int32))])) (fun _ k => XS.iload X150.here hx rfl (hb hby at_125) rfl k) ?_
            have c152 : Sta Z h150 oS0 oS4 "Z" (.int zc) := (own_sta_keep pr4 K150 all0)
            obtain ⟨_, _, ⟨T151, LC151, kC151, nC151⟩, -, X151, ⟨Lc151, hQ151, lq151, yq151, zq151⟩, st151⟩ := Jvm.LawKit.callS X150 hx (y := oM3) hown (mvT hZ (own_hw hw 1)) (mvT hZ (own_hw hw 2)) (mvT hZ (own_hw hw 3)) (mvT hZ (own_hw hw 4)) (by decide) (backOf (W := 0) (rmk_1 l Z a0 hw [] zc u8 u9 h150 n0 (by omega) c152 (by assumption) hl_u8 hl_u9) hZ (own_hw hw 4) (own_hw hw 3) (by decide) (by decide)) (g := (mkF m 127 #[oi p0, oi p1, oi p2, oi p3, oi 2, oi 1, oi u6, oi u7, oi u8, oi u9, oi m10, oi m11, oR a1_150, .unset, .unset, .unset, .unset, .unset, .unset] [(.int u9), (.int u8), (.int (1 : Int32))])) rfl (by rw [hml]; rfl) (argsL := [(.int (1 : Int32)), (.int u8), (.int u9)]) (rest := []) (lenOf pd_12 rfl) rfl (by show 2 * 0 + _ ≤ _; exact Nat.le_of_eq rfl) (hb hby at_127) (fun _ _ => ⟨rfl, e150, (by decide : 3 + 3 ≤ _), (by decide : 8 + 6 ≤ _)⟩)
            dsimp only [Pt.U, Pt.locs, Pt.cells, Pt.slots] at X151 lq151 yq151 zq151 st151 hQ151
            subst lq151 yq151 zq151
            obtain ⟨h151, e151⟩ : ∃ z, T151.heap = z := ⟨_, rfl⟩
            rw [e151] at hQ151
            obtain ⟨a1_151, r_151, kr_151, rfl, Nq151, K151, g151_0, g151_1, g151_2, g151_3, g151_4, g151_5, g151_6⟩ := hQ151
            have sz151 : h150.size ≤ h151.size := K151.1
            have N151 := Fr.app N150 Nq151
            have lt151_1 : @LT.lt Nat _ a1_151 h151.size := g151_0.lt
            have lt151_2 : @LT.lt Nat _ r_151 h151.size := g151_3.lt
            refine own_go (st' := T151.setTop (mkF m 130 #[oi p0, oi p1, oi p2, oi p3, oi 2, oi 1, oi u6, oi u7, oi u8, oi u9, oi m10, oi m11, oR a1_150, .unset, .unset, .unset, .unset, .unset, .unset] [(.ref a1_151)])) (fun t k => st151 t k) ?_
            refine own_go (st' := T151.setTop (mkF m 132 #[oi p0, oi p1, oi p2, oi p3, oi 2, oi 1, oi u6, oi u7, oi u8, oi u9, oi m10, oi m11, oR a1_150, oR a1_151, .unset, .unset, .unset, .unset, .unset] [])) (fun _ k => XS.astore X151.here hx rfl (hb hby at_130) rfl rfl (l' := #[oi p0, oi p1, oi p2, oi p3, oi 2, oi 1, oi u6, oi u7, oi u8, oi u9, oi m10, oi m11, oR a1_150, oR a1_151, .unset, .unset, .unset, .unset, .unset]) rfl k) ?_
            obtain ⟨T153, h153, X153, e153, E153, A153, D153, -, st153⟩ := newO X151 hx hZ hown (own_hw hw 35) (own_hw hw 36) (own_hw hw 37) e151 (g := (mkF m 132 #[oi p0, oi p1, oi p2, oi p3, oi 2, oi 1, oi u6, oi u7, oi u8, oi u9, oi m10, oi m11, oR a1_150, oR a1_151, .unset, .unset, .unset, .unset, .unset] [])) rfl (hb hby at_132) (by decide) (by decide)
            obtain ⟨b153, g153⟩ : ∃ z, z = h151.size := ⟨_, rfl⟩
            rw [← g153] at A153 D153 st153
            have sz153 : h151.size ≤ h153.size := E153.1
            have lt153 : @LT.lt Nat _ b153 h153.size := A153.lt
            have f154 : Fld Z h153 b153 oS1 "topic" oS2 .null := D153 (Or.inr (own_hw hw 58)) (ty := (.object oS0)) (by decide)
            have f155 : Fld Z h153 b153 oS1 "number" "I" (.int (0 : Int32)) := D153 (Or.inr (own_hw hw 60)) (ty := .int) (by decide)
            refine own_go (st' := T153.setTop (mkF m 135 #[oi p0, oi p1, oi p2, oi p3, oi 2, oi 1, oi u6, oi u7, oi u8, oi u9, oi m10, oi m11, oR a1_150, oR a1_151, .unset, .unset, .unset, .unset, .unset] [(.ref b153)])) (st153) ?_
            refine own_go (st' := T153.setTop (mkF m 136 #[oi p0, oi p1, oi p2, oi p3, oi 2, oi 1, oi u6, oi u7, oi u8, oi u9, oi m10, oi m11, oR a1_150, oR a1_151, .unset, .unset, .unset, .unset, .unset] [(.ref b153), (.ref b153)])) (fun _ k => XS.dup X153.here hx rfl (hb hby at_135) rfl rfl k) ?_
            refine own_go (st' := T153.setTop (mkF m 138 #[oi p0, oi p1, oi p2, oi p3, oi 2, oi 1, oi u6, oi u7, oi u8, oi u9, oi m10, oi m11, oR a1_150, oR a1_151, .unset, .unset, .unset, .unset, .unset] [(.ref a1_150), (.ref b153), (.ref b153)])) (fun _ k => XS.aload X153.here hx rfl (hb hby at_136) rfl rfl k) ?_
            refine own_go (st' := T153.setTop (mkF m 140 #[oi p0, oi p1, oi p2, oi p3, oi 2, oi 1, oi u6, oi u7, oi u8, oi u9, oi m10, oi m11, oR a1_150, oR a1_151, .unset, .unset, .unset, .unset, .unset] [(.int m10), (.ref a1_150), (.ref b153), (.ref b153)])) (fun _ k => XS.iload X153.here hx rfl (hb hby at_138) rfl k) ?_
            have c157 : Exa Z h153 a1_150 oS0 := ((g150_0.keep K151).ext E153)
            have c158 : Fld Z h153 a1_150 oS0 "value" "[B" (.ref r_150) := ((g150_1.keep K151 nin0).ext E153)
            have c159 : Arv Z h153 r_150 kr_150 .byte (2 : Int32) [(.int (own_by u6)), (.int (own_by u7))] (.int (0 : Int32)) := ((g150_3.keep K151 nin0).ext E153)
            obtain ⟨_, _, ⟨T156, LC156, kC156, nC156⟩, -, X156, hS156, hg156, ⟨Lc156, hQ156, lq156, yq156, zq156⟩, st156⟩ := X153.specialBackS hx (y := oM4) rfl hown (mvT hZ (own_hw hw 38)) (mvT hZ (own_hw hw 39)) (mvT hZ (own_hw hw 40)) (by decide) (backOfS (W := 1) (rti_2 l Z a0 hw [] b153 a1_150 r_150 kr_150 [(.int (own_by u6)), (.int (own_by u7))] m10 (0 : Int32) h153 n0 (by omega) A153 f154 f155 c157 c158 c159 (by omega) (own_ne (by omega)) (own_ne (by omega)) hp_m10) hZ (own_hw hw 40) (own_hw hw 37) (by decide) (by decide)) (g := (mkF m 140 #[oi p0, oi p1, oi p2, oi p3, oi 2, oi 1, oi u6, oi u7, oi u8, oi u9, oi m10, oi m11, oR a1_150, oR a1_151, .unset, .unset, .unset, .unset, .unset] [(.int m10), (.ref a1_150), (.ref b153), (.ref b153)])) rfl (by rw [hml]; rfl) (Steps.refl _) (a := b153) (argsL := [(.ref a1_150), (.int m10)]) (rest := [(.ref b153)]) (lenOf pd_13 rfl) rfl (by show 2 * 0 + _ ≤ _; exact Nat.le_of_eq rfl) (hb hby at_140) (fun _ _ => ⟨rfl, e153, (by decide : 7 + 2 ≤ _), (by decide : 16 + 24 ≤ _)⟩)
            dsimp only [Pt.U, Pt.locs, Pt.cells, Pt.slots] at X156 lq156 yq156 zq156 st156 hQ156
            subst lq156 yq156 zq156
            dsimp only [Pt.U, Pt.locs, Pt.cells, Pt.slots] at hS156 hg156
            obtain ⟨X156, hS156, hZ, hown⟩ := rebS hSj3 (by rw [e153]; omega) X156 hS156 hg156 hZ hown
            obtain ⟨h156, e156⟩ : ∃ z, T156.heap = z := ⟨_, rfl⟩
            rw [e156] at hQ156 hS156
            obtain ⟨rfl, Nq156, K156, g156_0, g156_1, g156_2⟩ := hQ156
            have sz156 : h153.size ≤ h156.size := K156.1
            have N156 := Fr.app N151 Nq156
            have lt156_1 : @LT.lt Nat _ b153 h156.size := g156_0.lt
            refine own_go (st' := T156.setTop (mkF m 143 #[oi p0, oi p1, oi p2, oi p3, oi 2, oi 1, oi u6, oi u7, oi u8, oi u9, oi m10, oi m11, oR a1_150, oR a1_151, .unset, .unset, .unset, .unset, .unset] [(.ref b153)])) (fun _ k => st156.trans k) ?_
            refine own_go (st' := T156.setTop (mkF m 145 #[oi p0, oi p1, oi p2, oi p3, oi 2, oi 1, oi u6, oi u7, oi u8, oi u9, oi m10, oi m11, oR a1_150, oR a1_151, oR b153, .unset, .unset, .unset, .unset] [])) (fun _ k => XS.astore X156.here hx rfl (hb hby at_143) rfl rfl (l' := #[oi p0, oi p1, oi p2, oi p3, oi 2, oi 1, oi u6, oi u7, oi u8, oi u9, oi m10, oi m11, oR a1_150, oR a1_151, oR b153, .unset, .unset, .unset, .unset]) rfl k) ?_
            refine own_go (st' := T156.setTop (mkF m 146 #[oi p0, oi p1, oi p2, oi p3, oi 2, oi 1, oi u6, oi u7, oi u8, oi u9, oi m10, oi m11, oR a1_150, oR a1_151, oR b153, .unset, .unset, .unset, .unset] [(.int p0)])) (fun _ k => XS.iloadN X156.here hx rfl (hb hby at_145) rfl k) ?_
            refine own_go (st' := T156.setTop (mkF m 148 #[oi p0, oi p1, oi p2, oi p3, oi 2, oi 1, oi u6, oi u7, oi u8, oi u9, oi m10, oi m11, oR a1_150, oR a1_151, oR b153, .unset, .unset, .unset, .unset] [(.int (6 : Int32)), (.int p0)])) (fun _ k => XS.bipush X156.here hx rfl (hb hby at_146) k) ?_
            refine own_go (st' := T156.setTop (mkF m 149 #[oi p0, oi p1, oi p2, oi p3, oi 2, oi 1, oi u6, oi u7, oi u8, oi u9, oi m10, oi m11, oR a1_150, oR a1_151, oR b153, .unset, .unset, .unset, .unset] [(.int ((p0.toUInt32 >>> ((6 : Int32) &&& 31).toUInt32).toInt32))])) (fun _ k => XS.iushr X156.here hx rfl (hb hby at_148) rfl k) ?_
            refine own_go (st' := T156.setTop (mkF m 150 #[oi p0, oi p1, oi p2, oi p3, oi 2, oi 1, oi u6, oi u7, oi u8, oi u9, oi m10, oi m11, oR a1_150, oR a1_151, oR b153, .unset, .unset, .unset, .unset] [(.int (3 : Int32)), (.int ((p0.toUInt32 >>> ((6 : Int32) &&& 31).toUInt32).toInt32))])) (fun _ k => XS.iconst X156.here hx rfl (hb hby at_149) k) ?_
            refine own_go (st' := T156.setTop (mkF m 151 #[oi p0, oi p1, oi p2, oi p3, oi 2, oi 1, oi u6, oi u7, oi u8, oi u9, oi m10, oi m11, oR a1_150, oR a1_151, oR b153, .unset, .unset, .unset, .unset] [(.int (((p0.toUInt32 >>> ((6 : Int32) &&& 31).toUInt32).toInt32) &&& (3 : Int32)))])) (fun _ k => XS.iand X156.here hx rfl (hb hby at_150) rfl k) ?_
            have hm := own_and3 ((p0.toUInt32 >>> ((6 : Int32) &&& 31).toUInt32).toInt32)
            obtain ⟨xs, hxs⟩ : ∃ z : Int32, z = (((p0.toUInt32 >>> ((6 : Int32) &&& 31).toUInt32).toInt32) &&& (3 : Int32)) := ⟨_, rfl⟩
            rw [← hxs] at hm ⊢
            clear hxs
            rcases hm with rfl | rfl | rfl | rfl
            · --
              refine own_go (st' := T156.setTop (mkF m 153 #[oi p0, oi p1, oi p2, oi p3, oi 2, oi 1, oi u6, oi u7, oi u8, oi u9, oi m10, oi m11, oR a1_150, oR a1_151, oR b153, oi 0, .unset, .unset, .unset] [])) (fun _ k => XS.istore X156.here hx rfl (hb hby at_151) rfl (l' := #[oi p0, oi p1, oi p2, oi p3, oi 2, oi 1, oi u6, oi u7, oi u8, oi u9, oi m10, oi m11, oR a1_150, oR a1_151, oR b153, oi 0, .unset, .unset, .unset]) rfl k) ?_
              refine own_go (st' := T156.setTop (mkF m 155 #[oi p0, oi p1, oi p2, oi p3, oi 2, oi 1, oi u6, oi u7, oi u8, oi u9, oi m10, oi m11, oR a1_150, oR a1_151, oR b153, oi 0, .unset, .unset, .unset] [(.int (0 : Int32))])) (fun _ k => XS.iload X156.here hx rfl (hb hby at_153) rfl k) ?_
              have hc160 : (0 : Int32) = (0 : Int32) := by decide
              refine own_go (st' := T156.setTop (mkF m 158 #[oi p0, oi p1, oi p2, oi p3, oi 2, oi 1, oi u6, oi u7, oi u8, oi u9, oi m10, oi m11, oR a1_150, oR a1_151, oR b153, oi 0, .unset, .unset, .unset] [])) (fun _ k => XS.ifNo X156.here hx rfl (hb hby at_155) rfl ((if0 _ _).trans (teq hc160).2) k) ?_
              obtain ⟨T161, h161, X161, e161, E161, A161, D161, -, st161⟩ := newO X156 hx hZ hown (own_hw hw 35) (own_hw hw 36) (own_hw hw 37) e156 (g := (mkF m 158 #[oi p0, oi p1, oi p2, oi p3, oi 2, oi 1, oi u6, oi u7, oi u8, oi u9, oi m10, oi m11, oR a1_150, oR a1_151, oR b153, oi 0, .unset, .unset, .unset] [])) rfl (hb hby at_158) (by decide) (by decide)
              obtain ⟨b161, g161⟩ : ∃ z, z = h156.size := ⟨_, rfl⟩
              rw [← g161] at A161 D161 st161
              have sz161 : h156.size ≤ h161.size := E161.1
              have lt161 : @LT.lt Nat _ b161 h161.size := A161.lt
              have f162 : Fld Z h161 b161 oS1 "topic" oS2 .null := D161 (Or.inr (own_hw hw 58)) (ty := (.object oS0)) (by decide)
              have f163 : Fld Z h161 b161 oS1 "number" "I" (.int (0 : Int32)) := D161 (Or.inr (own_hw hw 60)) (ty := .int) (by decide)
              refine own_go (st' := T161.setTop (mkF m 161 #[oi p0, oi p1, oi p2, oi p3, oi 2, oi 1, oi u6, oi u7, oi u8, oi u9, oi m10, oi m11, oR a1_150, oR a1_151, oR b153, oi 0, .unset, .unset, .unset] [(.ref b161)])) (st161) ?_
              refine own_go (st' := T161.setTop (mkF m 162 #[oi p0, oi p1, oi p2, oi p3, oi 2, oi 1, oi u6, oi u7, oi u8, oi u9, oi m10, oi m11, oR a1_150, oR a1_151, oR b153, oi 0, .unset, .unset, .unset] [(.ref b161), (.ref b161)])) (fun _ k => XS.dup X161.here hx rfl (hb hby at_161) rfl rfl k) ?_
              refine own_go (st' := T161.setTop (mkF m 164 #[oi p0, oi p1, oi p2, oi p3, oi 2, oi 1, oi u6, oi u7, oi u8, oi u9, oi m10, oi m11, oR a1_150, oR a1_151, oR b153, oi 0, .unset, .unset, .unset] [(.ref a1_151), (.ref b161), (.ref b161)])) (fun _ k => XS.aload X161.here hx rfl (hb hby at_162) rfl rfl k) ?_
              refine own_go (st' := T161.setTop (mkF m 166 #[oi p0, oi p1, oi p2, oi p3, oi 2, oi 1, oi u6, oi u7, oi u8, oi u9, oi m10, oi m11, oR a1_150, oR a1_151, oR b153, oi 0, .unset, .unset, .unset] [(.int m11), (.ref a1_151), (.ref b161), (.ref b161)])) (fun _ k => XS.iload X161.here hx rfl (hb hby at_164) rfl k) ?_
              have c165 : Exa Z h161 a1_151 oS0 := (((g151_0.ext E153).keep K156).ext E161)
              have c166 : Fld Z h161 a1_151 oS0 "value" "[B" (.ref r_151) := (((g151_1.ext E153).keep K156 (ninS (own_ne (by omega)) nin0)).ext E161)
              have c167 : Arv Z h161 r_151 kr_151 .byte (1 : Int32) [(.int (own_by u8))] (.int (0 : Int32)) := (((g151_3.ext E153).keep K156 (ninS (own_ne (by omega)) nin0)).ext E161)
              obtain ⟨_, _, ⟨T164, LC164, kC164, nC164⟩, -, X164, hS164, hg164, ⟨Lc164, hQ164, lq164, yq164, zq164⟩, st164⟩ := X161.specialBackS hx (y := oM4) rfl hown (mvT hZ (own_hw hw 38)) (mvT hZ (own_hw hw 39)) (mvT hZ (own_hw hw 40)) (by decide) (backOfS (W := 1) (rti_1 l Z a0 hw [] b161 a1_151 r_151 kr_151 [(.int (own_by u8))] m11 (0 : Int32) h161 n0 (by omega) A161 f162 f163 c165 c166 c167 (by omega) (own_ne (by omega)) (own_ne (by omega)) hp_m11) hZ (own_hw hw 40) (own_hw hw 37) (by decide) (by decide)) (g := (mkF m 166 #[oi p0, oi p1, oi p2, oi p3, oi 2, oi 1, oi u6, oi u7, oi u8, oi u9, oi m10, oi m11, oR a1_150, oR a1_151, oR b153, oi 0, .unset, .unset, .unset] [(.int m11), (.ref a1_151), (.ref b161), (.ref b161)])) rfl (by rw [hml]; rfl) (Steps.refl _) (a := b161) (argsL := [(.ref a1_151), (.int m11)]) (rest := [(.ref b161)]) (lenOf pd_13 rfl) rfl (by show 2 * 0 + _ ≤ _; exact Nat.le_of_eq rfl) (hb hby at_166) (fun _ _ => ⟨rfl, e161, (by decide : 10 + 2 ≤ _), (by decide : 42 + 24 ≤ _)⟩)
              dsimp only [Pt.U, Pt.locs, Pt.cells, Pt.slots] at X164 lq164 yq164 zq164 st164 hQ164
              subst lq164 yq164 zq164
              dsimp only [Pt.U, Pt.locs, Pt.cells, Pt.slots] at hS164 hg164
              obtain ⟨X164, hS164, hZ, hown⟩ := rebS hS156 (by rw [e161]; omega) X164 hS164 hg164 hZ hown
              obtain ⟨h164, e164⟩ : ∃ z, T164.heap = z := ⟨_, rfl⟩
              rw [e164] at hQ164 hS164
              obtain ⟨rfl, Nq164, K164, g164_0, g164_1, g164_2⟩ := hQ164
              have sz164 : h161.size ≤ h164.size := K164.1
              have N164 := Fr.app N156 Nq164
              have lt164_1 : @LT.lt Nat _ b161 h164.size := g164_0.lt
              refine own_go (st' := T164.setTop (mkF m 169 #[oi p0, oi p1, oi p2, oi p3, oi 2, oi 1, oi u6, oi u7, oi u8, oi u9, oi m10, oi m11, oR a1_150, oR a1_151, oR b153, oi 0, .unset, .unset, .unset] [(.ref b161)])) (fun _ k => st164.trans k) ?_
              refine own_go (st' := T164.setTop (mkF m 171 #[oi p0, oi p1, oi p2, oi p3, oi 2, oi 1, oi u6, oi u7, oi u8, oi u9, oi m10, oi m11, oR a1_150, oR a1_151, oR b153, oi 0, oR b161, .unset, .unset] [])) (fun _ k => XS.astore X164.here hx rfl (hb hby at_169) rfl rfl (l' := #[oi p0, oi p1, oi p2, oi p3, oi 2, oi 1, oi u6, oi u7, oi u8, oi u9, oi m10, oi m11, oR a1_150, oR a1_151, oR b153, oi 0, oR b161, .unset, .unset]) rfl k) ?_
              have J222_168 : ∀ (Tj168 : State) (lj168 : List Loc) (fx : Int32) (f17 : Int32) (vj168 : Vm) (kj168 : Nat) (Xj168 : Stand p l e room_1 (s.setVm vj168) m #[(.int p0), (.int p1), (.int p2), (.int p3)] below meth c Tj168 lj168 12 66) (ej168 : Tj168.heap = h164) (Nj168 : Fr n0 lj168) (hSj168 : s.Since vj168 kj168) (hkj168 : kj168 ≤ h164.size) (hZj168 : Z.Warmed39 (s.setVm vj168).vm) (hoj168 : (s.setVm vj168).vm.findClass oS3 = some m.cls) (hE1 : fx = own_tp m10 m11 (0 : Int32)) (hE2 : fx = own_tp m11 m10 (0 : Int32)), own_Go p.tables e below P (Tj168.setTop (mkF m 222 #[oi p0, oi p1, oi p2, oi p3, oi 2, oi 1, oi u6, oi u7, oi u8, oi u9, oi m10, oi m11, oR a1_150, oR a1_151, oR b153, oi 0, oR b161, oi f17, .unset] [(.int fx)])) := by
                intro Tj168 lj168 fx f17 vj168 kj168 Xj168 ej168 Nj168 hSj168 hkj168 hZ hown hE1 hE2
                refine own_go (st' := Tj168.setTop (mkF m 224 #[oi p0, oi p1, oi p2, oi p3, oi 2, oi 1, oi u6, oi u7, oi u8, oi u9, oi m10, oi m11, oR a1_150, oR a1_151, oR b153, oi 0, oR b161, oi f17, oi fx] [])) (fun _ k => XS.istore Xj168.here hx rfl (hb hby at_222) rfl (l' := #[oi p0, oi p1, oi p2, oi p3, oi 2, oi 1, oi u6, oi u7, oi u8, oi u9, oi m10, oi m11, oR a1_150, oR a1_151, oR b153, oi 0, oR b161, oi f17, oi fx]) rfl k) ?_
                refine own_go (st' := Tj168.setTop (mkF m 226 #[oi p0, oi p1, oi p2, oi p3, oi 2, oi 1, oi u6, oi u7, oi u8, oi u9, oi m10, oi m11, oR a1_150, oR a1_151, oR b153, oi 0, oR b161, oi f17, oi fx] [(.ref b153)])) (fun _ k => XS.aload Xj168.here hx rfl (hb hby at_224) rfl rfl k) ?_
                refine own_go (st' := Tj168.setTop (mkF m 228 #[oi p0, oi p1, oi p2, oi p3, oi 2, oi 1, oi u6, oi u7, oi u8, oi u9, oi m10, oi m11, oR a1_150, oR a1_151, oR b153, oi 0, oR b161, oi f17, oi fx] [(.ref b161), (.ref b153)])) (fun _ k => XS.aload Xj168.here hx rfl (hb hby at_226) rfl rfl k) ?_
                have c170 : Sta Z h164 oS0 oS4 "Z" (.int zc) := (own_sta_keep ((own_sta_keep ((own_sta_keep c152 K151 all0).ext E153) K156 (allS (P := fun x => ∀ c : Cell, h153[x]? = some c → c.vm.isStatics = false) (own_pl_exa A153) all0)).ext E161) K164 (allS (P := fun x => ∀ c : Cell, h161[x]? = some c → c.vm.isStatics = false) (own_pl_exa A161) all0))
                have c171 : Exa Z h164 b153 oS1 := ((g156_0.ext E161).keep K164)
                have c172 : Fld Z h164 b153 oS1 "topic" oS2 (.ref a1_150) := ((g156_1.ext E161).keep K164 (ninS (own_ne (by omega)) nin0))
                have c173 : Fld Z h164 b153 oS1 "number" "I" (.int m10) := ((g156_2.ext E161).keep K164 (ninS (own_ne (by omega)) nin0))
                have c174 : Exa Z h164 a1_150 oS0 := (((c157.keep K156).ext E161).keep K164)
                have c175 : Fld Z h164 a1_150 oS0 "value" "[B" (.ref r_150) := (((c158.keep K156 (ninS (own_ne (by omega)) nin0)).ext E161).keep K164 (ninS (own_ne (by omega)) nin0))
                have c176 : Fld Z h164 a1_150 oS0 "coder" "B" (.int (0 : Int32)) := (((((g150_2.keep K151 nin0).ext E153).keep K156 (ninS (own_ne (by omega)) nin0)).ext E161).keep K164 (ninS (own_ne (by omega)) nin0))
                have c177 : Exa Z h164 a1_151 oS0 := (c165.keep K164)
                have c178 : Fld Z h164 a1_151 oS0 "value" "[B" (.ref r_151) := (c166.keep K164 (ninS (own_ne (by omega)) nin0))
                have c179 : Fld Z h164 a1_151 oS0 "coder" "B" (.int (0 : Int32)) := ((((g151_2.ext E153).keep K156 (ninS (own_ne (by omega)) nin0)).ext E161).keep K164 (ninS (own_ne (by omega)) nin0))
                have c180 : Arv Z h164 r_150 kr_150 .byte (2 : Int32) [(.int (own_by u6)), (.int (own_by u7))] (.int (0 : Int32)) := (((c159.keep K156 (ninS (own_ne (by omega)) nin0)).ext E161).keep K164 (ninS (own_ne (by omega)) nin0))
                have c181 : Arv Z h164 r_151 kr_151 .byte (1 : Int32) [(.int (own_by u8))] (.int (0 : Int32)) := (c167.keep K164 (ninS (own_ne (by omega)) nin0))
                obtain ⟨cq169, kq169, q169a, q169b, q169c⟩ := isOf hZ ej168 c171
                obtain ⟨_, _, ⟨T169, LC169, kC169, nC169⟩, -, X169, ⟨Lc169, hQ169, lq169, yq169, zq169⟩, st169⟩ := Xj168.virtualBack hx (y := oM0) (z := oM0) hown (mvT hZ (own_hw hw 61)) (mvT hZ (own_hw hw 62)) (notFace_of_selects (args := #[]) (mvT hZ (own_hw hw 64))) (mvT hZ (own_hw hw 64)) (mvT hZ (own_hw hw 63)) (by decide) (backOf (W := 0) (rte_21 l Z a0 hw [] b153 b161 a1_150 a1_151 m10 m11 zc r_150 kr_150 r_151 kr_151 (own_by u6) (own_by u7) (own_by u8) h164 n0 (by omega) c170 (by assumption) c171 c172 c173 g164_0 g164_1 g164_2 (own_ne (by omega)) c174 c175 c176 c177 c178 c179 c180 c181) hZ (own_hw hw 65) (own_hw hw 37) (by decide) (by decide)) q169a q169c (g := (mkF m 228 #[oi p0, oi p1, oi p2, oi p3, oi 2, oi 1, oi u6, oi u7, oi u8, oi u9, oi m10, oi m11, oR a1_150, oR a1_151, oR b153, oi 0, oR b161, oi f17, oi fx] [(.ref b161), (.ref b153)])) rfl (by rw [hml]; rfl) (Steps.refl _) (argsL := [(.ref b161)]) (rest := []) (lenOf pd_11 rfl) rfl (by show 2 * 0 + _ ≤ _; exact Nat.le_of_eq rfl) (hb hby at_228) (fun _ _ => ⟨rfl, ej168, (by decide : 12 + 0 ≤ _), (by decide : 66 + 0 ≤ _)⟩)
                dsimp only [Pt.U, Pt.locs, Pt.cells, Pt.slots] at X169 lq169 yq169 zq169 st169 hQ169
                subst lq169 yq169 zq169
                obtain ⟨rfl, Nq169, eq169⟩ := hQ169
                have N169 := Fr.app Nj168 Nq169
                refine own_go (st' := T169.setTop (mkF m 231 #[oi p0, oi p1, oi p2, oi p3, oi 2, oi 1, oi u6, oi u7, oi u8, oi u9, oi m10, oi m11, oR a1_150, oR a1_151, oR b153, oi 0, oR b161, oi f17, oi fx] [(.int (own_tp m10 m11 (0 : Int32)))])) (fun _ k => st169.trans k) ?_
                refine own_go (st' := T169.setTop (mkF m 233 #[oi p0, oi p1, oi p2, oi p3, oi 2, oi 1, oi u6, oi u7, oi u8, oi u9, oi m10, oi m11, oR a1_150, oR a1_151, oR b153, oi 0, oR b161, oi f17, oi fx] [(.int fx), (.int (own_tp m10 m11 (0 : Int32)))])) (fun _ k => XS.iload X169.here hx rfl (hb hby at_231) rfl k) ?_
                have hc182 : (own_tp m10 m11 (0 : Int32)) = fx := hE1.symm
                refine own_go (st' := T169.setTop (mkF m 236 #[oi p0, oi p1, oi p2, oi p3, oi 2, oi 1, oi u6, oi u7, oi u8, oi u9, oi m10, oi m11, oR a1_150, oR a1_151, oR b153, oi 0, oR b161, oi f17, oi fx] [])) (fun _ k => XS.icmpNo X169.here hx rfl (hb hby at_233) rfl (teq hc182).2 k) ?_
                refine own_go (st' := T169.setTop (mkF m 238 #[oi p0, oi p1, oi p2, oi p3, oi 2, oi 1, oi u6, oi u7, oi u8, oi u9, oi m10, oi m11, oR a1_150, oR a1_151, oR b153, oi 0, oR b161, oi f17, oi fx] [(.ref b161)])) (fun _ k => XS.aload X169.here hx rfl (hb hby at_236) rfl rfl k) ?_
                refine own_go (st' := T169.setTop (mkF m 240 #[oi p0, oi p1, oi p2, oi p3, oi 2, oi 1, oi u6, oi u7, oi u8, oi u9, oi m10, oi m11, oR a1_150, oR a1_151, oR b153, oi 0, oR b161, oi f17, oi fx] [(.ref b153), (.ref b161)])) (fun _ k => XS.aload X169.here hx rfl (hb hby at_238) rfl rfl k) ?_
                obtain ⟨cq183, kq183, q183a, q183b, q183c⟩ := isOf hZ eq169 g164_0
                obtain ⟨_, _, ⟨T183, LC183, kC183, nC183⟩, -, X183, ⟨Lc183, hQ183, lq183, yq183, zq183⟩, st183⟩ := X169.virtualBack hx (y := oM0) (z := oM0) hown (mvT hZ (own_hw hw 61)) (mvT hZ (own_hw hw 62)) (notFace_of_selects (args := #[]) (mvT hZ (own_hw hw 64))) (mvT hZ (own_hw hw 64)) (mvT hZ (own_hw hw 63)) (by decide) (backOf (W := 0) (rte_12 l Z a0 hw [] b161 b153 a1_151 a1_150 m11 m10 zc r_151 kr_151 r_150 kr_150 (own_by u8) (own_by u6) (own_by u7) h164 n0 (by omega) c170 (by assumption) g164_0 g164_1 g164_2 c171 c172 c173 (own_ne (by omega)) c177 c178 c179 c174 c175 c176 c181 c180) hZ (own_hw hw 65) (own_hw hw 37) (by decide) (by decide)) q183a q183c (g := (mkF m 240 #[oi p0, oi p1, oi p2, oi p3, oi 2, oi 1, oi u6, oi u7, oi u8, oi u9, oi m10, oi m11, oR a1_150, oR a1_151, oR b153, oi 0, oR b161, oi f17, oi fx] [(.ref b153), (.ref b161)])) rfl (by rw [hml]; rfl) (Steps.refl _) (argsL := [(.ref b153)]) (rest := []) (lenOf pd_11 rfl) rfl (by show 2 * 0 + _ ≤ _; exact Nat.le_of_eq rfl) (hb hby at_240) (fun _ _ => ⟨rfl, eq169, (by decide : 12 + 0 ≤ _), (by decide : 66 + 0 ≤ _)⟩)
                dsimp only [Pt.U, Pt.locs, Pt.cells, Pt.slots] at X183 lq183 yq183 zq183 st183 hQ183
                subst lq183 yq183 zq183
                obtain ⟨rfl, Nq183, eq183⟩ := hQ183
                have N183 := Fr.app N169 Nq183
                refine own_go (st' := T183.setTop (mkF m 243 #[oi p0, oi p1, oi p2, oi p3, oi 2, oi 1, oi u6, oi u7, oi u8, oi u9, oi m10, oi m11, oR a1_150, oR a1_151, oR b153, oi 0, oR b161, oi f17, oi fx] [(.int (own_tp m11 m10 (0 : Int32)))])) (fun _ k => st183.trans k) ?_
                refine own_go (st' := T183.setTop (mkF m 245 #[oi p0, oi p1, oi p2, oi p3, oi 2, oi 1, oi u6, oi u7, oi u8, oi u9, oi m10, oi m11, oR a1_150, oR a1_151, oR b153, oi 0, oR b161, oi f17, oi fx] [(.int fx), (.int (own_tp m11 m10 (0 : Int32)))])) (fun _ k => XS.iload X183.here hx rfl (hb hby at_243) rfl k) ?_
                have hc184 : (own_tp m11 m10 (0 : Int32)) = fx := hE2.symm
                refine own_go (st' := T183.setTop (mkF m 248 #[oi p0, oi p1, oi p2, oi p3, oi 2, oi 1, oi u6, oi u7, oi u8, oi u9, oi m10, oi m11, oR a1_150, oR a1_151, oR b153, oi 0, oR b161, oi f17, oi fx] [])) (fun _ k => XS.icmpNo X183.here hx rfl (hb hby at_245) rfl (teq hc184).2 k) ?_
                refine own_go (st' := T183.setTop (mkF m 249 #[oi p0, oi p1, oi p2, oi p3, oi 2, oi 1, oi u6, oi u7, oi u8, oi u9, oi m10, oi m11, oR a1_150, oR a1_151, oR b153, oi 0, oR b161, oi f17, oi fx] [(.int (1 : Int32))])) (fun _ k => XS.iconst X183.here hx rfl (hb hby at_248) k) ?_
                refine own_go (st' := T183.setTop (mkF m 253 #[oi p0, oi p1, oi p2, oi p3, oi 2, oi 1, oi u6, oi u7, oi u8, oi u9, oi m10, oi m11, oR a1_150, oR a1_151, oR b153, oi 0, oR b161, oi f17, oi fx] [(.int (1 : Int32))])) (fun _ k => XS.goto X183.here hx rfl (pc0 := 249) (pc' := 253) rfl (hb hby at_249) (by decide) (by decide) k) ?_
                obtain ⟨fs, hr, hrun, hended, hR1, hR2, hR3, hR4⟩ := X183.leaveW hSj168 (by rw [eq183]; omega) (v := some (.int (1 : Int32))) (fun h => by rw [Bd.returns] at h; cases h)
                refine ⟨_, _, ?_, hP _ _ hrun hended ⟨_, _, rfl, ?_, hR1, hR2, hR3, hR4.mono (by decide) (by decide)⟩⟩
                · exact retN X183 hx (t := .boolean) Bd.returns (by simp) (hb hby at_253) hr
                · show Qrm0 Z p0 p1 p2 p3 ca zc h0 n0 _ T183.heap _
                  rw [eq183]
                  exact ⟨rfl, N183, trivial⟩
              refine own_go (st' := T164.setTop (mkF m 173 #[oi p0, oi p1, oi p2, oi p3, oi 2, oi 1, oi u6, oi u7, oi u8, oi u9, oi m10, oi m11, oR a1_150, oR a1_151, oR b153, oi 0, oR b161, .unset, .unset] [(.int (2 : Int32))])) (fun _ k => XS.iload X164.here hx rfl (hb hby at_171) rfl k) ?_
              refine own_go (st' := T164.setTop (mkF m 175 #[oi p0, oi p1, oi p2, oi p3, oi 2, oi 1, oi u6, oi u7, oi u8, oi u9, oi m10, oi m11, oR a1_150, oR a1_151, oR b153, oi 0, oR b161, .unset, .unset] [(.int (1 : Int32)), (.int (2 : Int32))])) (fun _ k => XS.iload X164.here hx rfl (hb hby at_173) rfl k) ?_
              have hc186 : ¬ ((2 : Int32) = (1 : Int32)) := by decide
              refine own_go (st' := T164.setTop (mkF m 202 #[oi p0, oi p1, oi p2, oi p3, oi 2, oi 1, oi u6, oi u7, oi u8, oi u9, oi m10, oi m11, oR a1_150, oR a1_151, oR b153, oi 0, oR b161, .unset, .unset] [])) (fun _ k => XS.icmpYes X164.here hx rfl (pc0 := 175) (pc' := 202) rfl (hb hby at_175) rfl (feq hc186).2 (by decide) (by decide) k) ?_
              refine own_go (st' := T164.setTop (mkF m 203 #[oi p0, oi p1, oi p2, oi p3, oi 2, oi 1, oi u6, oi u7, oi u8, oi u9, oi m10, oi m11, oR a1_150, oR a1_151, oR b153, oi 0, oR b161, .unset, .unset] [(.int (0 : Int32))])) (fun _ k => XS.iconst X164.here hx rfl (hb hby at_202) k) ?_
              refine own_go (st' := T164.setTop (mkF m 205 #[oi p0, oi p1, oi p2, oi p3, oi 2, oi 1, oi u6, oi u7, oi u8, oi u9, oi m10, oi m11, oR a1_150, oR a1_151, oR b153, oi 0, oR b161, oi 0, .unset] [])) (fun _ k => XS.istore X164.here hx rfl (hb hby at_203) rfl (l' := #[oi p0, oi p1, oi p2, oi p3, oi 2, oi 1, oi u6, oi u7, oi u8, oi u9, oi m10, oi m11, oR a1_150, oR a1_151, oR b153, oi 0, oR b161, oi 0, .unset]) rfl k) ?_
              refine own_go (st' := T164.setTop (mkF m 207 #[oi p0, oi p1, oi p2, oi p3, oi 2, oi 1, oi u6, oi u7, oi u8, oi u9, oi m10, oi m11, oR a1_150, oR a1_151, oR b153, oi 0, oR b161, oi 0, .unset] [(.int (0 : Int32))])) (fun _ k => XS.iload X164.here hx rfl (hb hby at_205) rfl k) ?_
              have hc187 : (0 : Int32) = (0 : Int32) := by decide
              refine own_go (st' := T164.setTop (mkF m 221 #[oi p0, oi p1, oi p2, oi p3, oi 2, oi 1, oi u6, oi u7, oi u8, oi u9, oi m10, oi m11, oR a1_150, oR a1_151, oR b153, oi 0, oR b161, oi 0, .unset] [])) (fun _ k => XS.ifYes X164.here hx rfl (pc0 := 207) (pc' := 221) rfl (hb hby at_207) rfl ((if0 _ _).trans (teq hc187).1) (by decide) (by decide) k) ?_
              refine own_go (st' := T164.setTop (mkF m 222 #[oi p0, oi p1, oi p2, oi p3, oi 2, oi 1, oi u6, oi u7, oi u8, oi u9, oi m10, oi m11, oR a1_150, oR a1_151, oR b153, oi 0, oR b161, oi 0, .unset] [(.int (0 : Int32))])) (fun _ k => XS.iconst X164.here hx rfl (hb hby at_221) k) ?_
              exact J222_168 _ _ (0 : Int32) (0 : Int32) _ _ X164 e164 N164 hS164 (by omega) hZ hown (by simp [own_tp]) (by simp [own_tp])
            · --
              refine own_go (st' := T156.setTop (mkF m 153 #[oi p0, oi p1, oi p2, oi p3, oi 2, oi 1, oi u6, oi u7, oi u8, oi u9, oi m10, oi m11, oR a1_150, oR a1_151, oR b153, oi 1, .unset, .unset, .unset] [])) (fun _ k => XS.istore X156.here hx rfl (hb hby at_151) rfl (l' := #[oi p0, oi p1, oi p2, oi p3, oi 2, oi 1, oi u6, oi u7, oi u8, oi u9, oi m10, oi m11, oR a1_150, oR a1_151, oR b153, oi 1, .unset, .unset, .unset]) rfl k) ?_
              refine own_go (st' := T156.setTop (mkF m 155 #[oi p0, oi p1, oi p2, oi p3, oi 2, oi 1, oi u6, oi u7, oi u8, oi u9, oi m10, oi m11, oR a1_150, oR a1_151, oR b153, oi 1, .unset, .unset, .unset] [(.int (1 : Int32))])) (fun _ k => XS.iload X156.here hx rfl (hb hby at_153) rfl k) ?_
              have hc188 : ¬ ((1 : Int32) = (0 : Int32)) := by decide
              refine own_go (st' := T156.setTop (mkF m 254 #[oi p0, oi p1, oi p2, oi p3, oi 2, oi 1, oi u6, oi u7, oi u8, oi u9, oi m10, oi m11, oR a1_150, oR a1_151, oR b153, oi 1, .unset, .unset, .unset] [])) (fun _ k => XS.ifYes X156.here hx rfl (pc0 := 155) (pc' := 254) rfl (hb hby at_155) rfl ((if0 _ _).trans (feq hc188).2) (by decide) (by decide) k) ?_
              refine own_go (st' := T156.setTop (mkF m 256 #[oi p0, oi p1, oi p2, oi p3, oi 2, oi 1, oi u6, oi u7, oi u8, oi u9, oi m10, oi m11, oR a1_150, oR a1_151, oR b153, oi 1, .unset, .unset, .unset] [(.int (1 : Int32))])) (fun _ k => XS.iload X156.here hx rfl (hb hby at_254) rfl k) ?_
              refine own_go (st' := T156.setTop (mkF m 257 #[oi p0, oi p1, oi p2, oi p3, oi 2, oi 1, oi u6, oi u7, oi u8, oi u9, oi m10, oi m11, oR a1_150, oR a1_151, oR b153, oi 1, .unset, .unset, .unset] [(.int (1 : Int32)), (.int (1 : Int32))])) (fun _ k => XS.iconst X156.here hx rfl (hb hby at_256) k) ?_
              have hc189 : (1 : Int32) = (1 : Int32) := by decide
              refine own_go (st' := T156.setTop (mkF m 260 #[oi p0, oi p1, oi p2, oi p3, oi 2, oi 1, oi u6, oi u7, oi u8, oi u9, oi m10, oi m11, oR a1_150, oR a1_151, oR b153, oi 1, .unset, .unset, .unset] [])) (fun _ k => XS.icmpNo X156.here hx rfl (hb hby at_257) rfl (teq hc189).2 k) ?_
              refine own_go (st' := T156.setTop (mkF m 261 #[oi p0, oi p1, oi p2, oi p3, oi 2, oi 1, oi u6, oi u7, oi u8, oi u9, oi m10, oi m11, oR a1_150, oR a1_151, oR b153, oi 1, .unset, .unset, .unset] [.null])) (fun _ k => XS.aconstNull X156.here hx rfl (hb hby at_260) k) ?_
              refine own_go (st' := T156.setTop (mkF m 263 #[oi p0, oi p1, oi p2, oi p3, oi 2, oi 1, oi u6, oi u7, oi u8, oi u9, oi m10, oi m11, oR a1_150, oR a1_151, oR b153, oi 1, .val .null, .unset, .unset] [])) (fun _ k => XS.astore X156.here hx rfl (hb hby at_261) rfl rfl (l' := #[oi p0, oi p1, oi p2, oi p3, oi 2, oi 1, oi u6, oi u7, oi u8, oi u9, oi m10, oi m11, oR a1_150, oR a1_151, oR b153, oi 1, .val .null, .unset, .unset]) rfl k) ?_
              refine own_go (st' := T156.setTop (mkF m 286 #[oi p0, oi p1, oi p2, oi p3, oi 2, oi 1, oi u6, oi u7, oi u8, oi u9, oi m10, oi m11, oR a1_150, oR a1_151, oR b153, oi 1, .val .null, .unset, .unset] [])) (fun _ k => XS.goto X156.here hx rfl (pc0 := 263) (pc' := 286) rfl (hb hby at_263) (by decide) (by decide) k) ?_
              refine own_go (st' := T156.setTop (mkF m 288 #[oi p0, oi p1, oi p2, oi p3, oi 2, oi 1, oi u6, oi u7, oi u8, oi u9, oi m10, oi m11, oR a1_150, oR a1_151, oR b153, oi 1, .val .null, .unset, .unset] [(.ref b153)])) (fun _ k => XS.aload X156.here hx rfl (hb hby at_286) rfl rfl k) ?_
              refine own_go (st' := T156.setTop (mkF m 290 #[oi p0, oi p1, oi p2, oi p3, oi 2, oi 1, oi u6, oi u7, oi u8, oi u9, oi m10, oi m11, oR a1_150, oR a1_151, oR b153, oi 1, .val .null, .unset, .unset] [.null, (.ref b153)])) (fun _ k => XS.aload X156.here hx rfl (hb hby at_288) rfl rfl k) ?_
              obtain ⟨cq190, kq190, q190a, q190b, q190c⟩ := isOf hZ e156 g156_0
              obtain ⟨_, _, ⟨T190, LC190, kC190, nC190⟩, -, X190, ⟨Lc190, hQ190, lq190, yq190, zq190⟩, st190⟩ := X156.virtualBack hx (y := oM0) (z := oM0) hown (mvT hZ (own_hw hw 61)) (mvT hZ (own_hw hw 62)) (notFace_of_selects (args := #[]) (mvT hZ (own_hw hw 64))) (mvT hZ (own_hw hw 64)) (mvT hZ (own_hw hw 63)) (by decide) (backOf (W := 0) (rte_null l Z a0 hw [] b153 h156 n0 (by omega) ) hZ (own_hw hw 65) (own_hw hw 37) (by decide) (by decide)) q190a q190c (g := (mkF m 290 #[oi p0, oi p1, oi p2, oi p3, oi 2, oi 1, oi u6, oi u7, oi u8, oi u9, oi m10, oi m11, oR a1_150, oR a1_151, oR b153, oi 1, .val .null, .unset, .unset] [.null, (.ref b153)])) rfl (by rw [hml]; rfl) (Steps.refl _) (argsL := [.null]) (rest := []) (lenOf pd_11 rfl) rfl (by show 2 * 0 + _ ≤ _; exact Nat.le_of_eq rfl) (hb hby at_290) (fun _ _ => ⟨rfl, e156, (by decide : 9 + 0 ≤ _), (by decide : 40 + 0 ≤ _)⟩)
              dsimp only [Pt.U, Pt.locs, Pt.cells, Pt.slots] at X190 lq190 yq190 zq190 st190 hQ190
              subst lq190 yq190 zq190
              obtain ⟨rfl, Nq190, eq190⟩ := hQ190
              have N190 := Fr.app N156 Nq190
              refine own_go (st' := T190.setTop (mkF m 293 #[oi p0, oi p1, oi p2, oi p3, oi 2, oi 1, oi u6, oi u7, oi u8, oi u9, oi m10, oi m11, oR a1_150, oR a1_151, oR b153, oi 1, .val .null, .unset, .unset] [(.int (0 : Int32))])) (fun _ k => st190.trans k) ?_
              have hc191 : (0 : Int32) = (0 : Int32) := by decide
              refine own_go (st' := T190.setTop (mkF m 296 #[oi p0, oi p1, oi p2, oi p3, oi 2, oi 1, oi u6, oi u7, oi u8, oi u9, oi m10, oi m11, oR a1_150, oR a1_151, oR b153, oi 1, .val .null, .unset, .unset] [])) (fun _ k => XS.ifNo X190.here hx rfl (hb hby at_293) rfl ((if0 _ _).trans (teq hc191).2) k) ?_
              refine own_go (st' := T190.setTop (mkF m 298 #[oi p0, oi p1, oi p2, oi p3, oi 2, oi 1, oi u6, oi u7, oi u8, oi u9, oi m10, oi m11, oR a1_150, oR a1_151, oR b153, oi 1, .val .null, .unset, .unset] [(.ref b153)])) (fun _ k => XS.aload X190.here hx rfl (hb hby at_296) rfl rfl k) ?_
              refine own_go (st' := T190.setTop (mkF m 300 #[oi p0, oi p1, oi p2, oi p3, oi 2, oi 1, oi u6, oi u7, oi u8, oi u9, oi m10, oi m11, oR a1_150, oR a1_151, oR b153, oi 1, .val .null, .unset, .unset] [(.ref b153), (.ref b153)])) (fun _ k => XS.aload X190.here hx rfl (hb hby at_298) rfl rfl k) ?_
              have c193 : Exa Z h156 a1_150 oS0 := (c157.keep K156)
              obtain ⟨cq192, kq192, q192a, q192b, q192c⟩ := isOf hZ eq190 g156_0
              obtain ⟨_, _, ⟨T192, LC192, kC192, nC192⟩, -, X192, ⟨Lc192, hQ192, lq192, yq192, zq192⟩, st192⟩ := X190.virtualBack hx (y := oM0) (z := oM0) hown (mvT hZ (own_hw hw 61)) (mvT hZ (own_hw hw 62)) (notFace_of_selects (args := #[]) (mvT hZ (own_hw hw 64))) (mvT hZ (own_hw hw 64)) (mvT hZ (own_hw hw 63)) (by decide) (backOf (W := 0) (rte_self l Z a0 hw [] b153 a1_150 m10 h156 n0 (by omega) g156_0 g156_1 g156_2 c193) hZ (own_hw hw 65) (own_hw hw 37) (by decide) (by decide)) q192a q192c (g := (mkF m 300 #[oi p0, oi p1, oi p2, oi p3, oi 2, oi 1, oi u6, oi u7, oi u8, oi u9, oi m10, oi m11, oR a1_150, oR a1_151, oR b153, oi 1, .val .null, .unset, .unset] [(.ref b153), (.ref b153)])) rfl (by rw [hml]; rfl) (Steps.refl _) (argsL := [(.ref b153)]) (rest := []) (lenOf pd_11 rfl) rfl (by show 2 * 0 + _ ≤ _; exact Nat.le_of_eq rfl) (hb hby at_300) (fun _ _ => ⟨rfl, eq190, (by decide : 9 + 0 ≤ _), (by decide : 40 + 0 ≤ _)⟩)
              dsimp only [Pt.U, Pt.locs, Pt.cells, Pt.slots] at X192 lq192 yq192 zq192 st192 hQ192
              subst lq192 yq192 zq192
              obtain ⟨rfl, Nq192, eq192⟩ := hQ192
              have N192 := Fr.app N190 Nq192
              refine own_go (st' := T192.setTop (mkF m 303 #[oi p0, oi p1, oi p2, oi p3, oi 2, oi 1, oi u6, oi u7, oi u8, oi u9, oi m10, oi m11, oR a1_150, oR a1_151, oR b153, oi 1, .val .null, .unset, .unset] [(.int (1 : Int32))])) (fun _ k => st192.trans k) ?_
              have hc194 : ¬ ((1 : Int32) = (0 : Int32)) := by decide
              refine own_go (st' := T192.setTop (mkF m 306 #[oi p0, oi p1, oi p2, oi p3, oi 2, oi 1, oi u6, oi u7, oi u8, oi u9, oi m10, oi m11, oR a1_150, oR a1_151, oR b153, oi 1, .val .null, .unset, .unset] [])) (fun _ k => XS.ifNo X192.here hx rfl (hb hby at_303) rfl ((if0 _ _).trans (feq hc194).1) k) ?_
              refine own_go (st' := T192.setTop (mkF m 307 #[oi p0, oi p1, oi p2, oi p3, oi 2, oi 1, oi u6, oi u7, oi u8, oi u9, oi m10, oi m11, oR a1_150, oR a1_151, oR b153, oi 1, .val .null, .unset, .unset] [(.int (1 : Int32))])) (fun _ k => XS.iconst X192.here hx rfl (hb hby at_306) k) ?_
              refine own_go (st' := T192.setTop (mkF m 311 #[oi p0, oi p1, oi p2, oi p3, oi 2, oi 1, oi u6, oi u7, oi u8, oi u9, oi m10, oi m11, oR a1_150, oR a1_151, oR b153, oi 1, .val .null, .unset, .unset] [(.int (1 : Int32))])) (fun _ k => XS.goto X192.here hx rfl (pc0 := 307) (pc' := 311) rfl (hb hby at_307) (by decide) (by decide) k) ?_
              obtain ⟨fs, hr, hrun, hended, hR1, hR2, hR3, hR4⟩ := X192.leaveW hS156 (by rw [eq192]; omega) (v := some (.int (1 : Int32))) (fun h => by rw [Bd.returns] at h; cases h)
              refine ⟨_, _, ?_, hP _ _ hrun hended ⟨_, _, rfl, ?_, hR1, hR2, hR3, hR4.mono (by decide) (by decide)⟩⟩
              · exact retN X192 hx (t := .boolean) Bd.returns (by simp) (hb hby at_311) hr
              · show Qrm0 Z p0 p1 p2 p3 ca zc h0 n0 _ T192.heap _
                rw [eq192]
                exact ⟨rfl, N192, trivial⟩
            · --
              refine own_go (st' := T156.setTop (mkF m 153 #[oi p0, oi p1, oi p2, oi p3, oi 2, oi 1, oi u6, oi u7, oi u8, oi u9, oi m10, oi m11, oR a1_150, oR a1_151, oR b153, oi 2, .unset, .unset, .unset] [])) (fun _ k => XS.istore X156.here hx rfl (hb hby at_151) rfl (l' := #[oi p0, oi p1, oi p2, oi p3, oi 2, oi 1, oi u6, oi u7, oi u8, oi u9, oi m10, oi m11, oR a1_150, oR a1_151, oR b153, oi 2, .unset, .unset, .unset]) rfl k) ?_
              refine own_go (st' := T156.setTop (mkF m 155 #[oi p0, oi p1, oi p2, oi p3, oi 2, oi 1, oi u6, oi u7, oi u8, oi u9, oi m10, oi m11, oR a1_150, oR a1_151, oR b153, oi 2, .unset, .unset, .unset] [(.int (2 : Int32))])) (fun _ k => XS.iload X156.here hx rfl (hb hby at_153) rfl k) ?_
              have hc196 : ¬ ((2 : Int32) = (0 : Int32)) := by decide
              refine own_go (st' := T156.setTop (mkF m 254 #[oi p0, oi p1, oi p2, oi p3, oi 2, oi 1, oi u6, oi u7, oi u8, oi u9, oi m10, oi m11, oR a1_150, oR a1_151, oR b153, oi 2, .unset, .unset, .unset] [])) (fun _ k => XS.ifYes X156.here hx rfl (pc0 := 155) (pc' := 254) rfl (hb hby at_155) rfl ((if0 _ _).trans (feq hc196).2) (by decide) (by decide) k) ?_
              refine own_go (st' := T156.setTop (mkF m 256 #[oi p0, oi p1, oi p2, oi p3, oi 2, oi 1, oi u6, oi u7, oi u8, oi u9, oi m10, oi m11, oR a1_150, oR a1_151, oR b153, oi 2, .unset, .unset, .unset] [(.int (2 : Int32))])) (fun _ k => XS.iload X156.here hx rfl (hb hby at_254) rfl k) ?_
              refine own_go (st' := T156.setTop (mkF m 257 #[oi p0, oi p1, oi p2, oi p3, oi 2, oi 1, oi u6, oi u7, oi u8, oi u9, oi m10, oi m11, oR a1_150, oR a1_151, oR b153, oi 2, .unset, .unset, .unset] [(.int (1 : Int32)), (.int (2 : Int32))])) (fun _ k => XS.iconst X156.here hx rfl (hb hby at_256) k) ?_
              have hc197 : ¬ ((2 : Int32) = (1 : Int32)) := by decide
              refine own_go (st' := T156.setTop (mkF m 266 #[oi p0, oi p1, oi p2, oi p3, oi 2, oi 1, oi u6, oi u7, oi u8, oi u9, oi m10, oi m11, oR a1_150, oR a1_151, oR b153, oi 2, .unset, .unset, .unset] [])) (fun _ k => XS.icmpYes X156.here hx rfl (pc0 := 257) (pc' := 266) rfl (hb hby at_257) rfl (feq hc197).2 (by decide) (by decide) k) ?_
              refine own_go (st' := T156.setTop (mkF m 268 #[oi p0, oi p1, oi p2, oi p3, oi 2, oi 1, oi u6, oi u7, oi u8, oi u9, oi m10, oi m11, oR a1_150, oR a1_151, oR b153, oi 2, .unset, .unset, .unset] [(.int (2 : Int32))])) (fun _ k => XS.iload X156.here hx rfl (hb hby at_266) rfl k) ?_
              refine own_go (st' := T156.setTop (mkF m 269 #[oi p0, oi p1, oi p2, oi p3, oi 2, oi 1, oi u6, oi u7, oi u8, oi u9, oi m10, oi m11, oR a1_150, oR a1_151, oR b153, oi 2, .unset, .unset, .unset] [(.int (2 : Int32)), (.int (2 : Int32))])) (fun _ k => XS.iconst X156.here hx rfl (hb hby at_268) k) ?_
              have hc198 : (2 : Int32) = (2 : Int32) := by decide
              refine own_go (st' := T156.setTop (mkF m 272 #[oi p0, oi p1, oi p2, oi p3, oi 2, oi 1, oi u6, oi u7, oi u8, oi u9, oi m10, oi m11, oR a1_150, oR a1_151, oR b153, oi 2, .unset, .unset, .unset] [])) (fun _ k => XS.icmpNo X156.here hx rfl (hb hby at_269) rfl (teq hc198).2 k) ?_
              refine own_go (st' := T156.setTop (mkF m 274 #[oi p0, oi p1, oi p2, oi p3, oi 2, oi 1, oi u6, oi u7, oi u8, oi u9, oi m10, oi m11, oR a1_150, oR a1_151, oR b153, oi 2, .unset, .unset, .unset] [(.ref a1_150)])) (fun _ k => XS.aload X156.here hx rfl (hb hby at_272) rfl rfl k) ?_
              refine own_go (st' := T156.setTop (mkF m 276 #[oi p0, oi p1, oi p2, oi p3, oi 2, oi 1, oi u6, oi u7, oi u8, oi u9, oi m10, oi m11, oR a1_150, oR a1_151, oR b153, oi 2, oR a1_150, .unset, .unset] [])) (fun _ k => XS.astore X156.here hx rfl (hb hby at_274) rfl rfl (l' := #[oi p0, oi p1, oi p2, oi p3, oi 2, oi 1, oi u6, oi u7, oi u8, oi u9, oi m10, oi m11, oR a1_150, oR a1_151, oR b153, oi 2, oR a1_150, .unset, .unset]) rfl k) ?_
              refine own_go (st' := T156.setTop (mkF m 286 #[oi p0, oi p1, oi p2, oi p3, oi 2, oi 1, oi u6, oi u7, oi u8, oi u9, oi m10, oi m11, oR a1_150, oR a1_151, oR b153, oi 2, oR a1_150, .unset, .unset] [])) (fun _ k => XS.goto X156.here hx rfl (pc0 := 276) (pc' := 286) rfl (hb hby at_276) (by decide) (by decide) k) ?_
              refine own_go (st' := T156.setTop (mkF m 288 #[oi p0, oi p1, oi p2, oi p3, oi 2, oi 1, oi u6, oi u7, oi u8, oi u9, oi m10, oi m11, oR a1_150, oR a1_151, oR b153, oi 2, oR a1_150, .unset, .unset] [(.ref b153)])) (fun _ k => XS.aload X156.here hx rfl (hb hby at_286) rfl rfl k) ?_
              refine own_go (st' := T156.setTop (mkF m 290 #[oi p0, oi p1, oi p2, oi p3, oi 2, oi 1, oi u6, oi u7, oi u8, oi u9, oi m10, oi m11, oR a1_150, oR a1_151, oR b153, oi 2, oR a1_150, .unset, .unset] [(.ref a1_150), (.ref b153)])) (fun _ k => XS.aload X156.here hx rfl (hb hby at_288) rfl rfl k) ?_
              have c200 : Exa Z h156 a1_150 oS0 := (c157.keep K156)
              obtain ⟨cq199, kq199, q199a, q199b, q199c⟩ := isOf hZ e156 g156_0
              obtain ⟨_, _, ⟨T199, LC199, kC199, nC199⟩, -, X199, ⟨Lc199, hQ199, lq199, yq199, zq199⟩, st199⟩ := X156.virtualBack hx (y := oM0) (z := oM0) hown (mvT hZ (own_hw hw 61)) (mvT hZ (own_hw hw 62)) (notFace_of_selects (args := #[]) (mvT hZ (own_hw hw 64))) (mvT hZ (own_hw hw 64)) (mvT hZ (own_hw hw 63)) (by decide) (backOf (W := 0) (rte_str l Z a0 hw [] b153 a1_150 h156 n0 (by omega) c200) hZ (own_hw hw 65) (own_hw hw 37) (by decide) (by decide)) q199a q199c (g := (mkF m 290 #[oi p0, oi p1, oi p2, oi p3, oi 2, oi 1, oi u6, oi u7, oi u8, oi u9, oi m10, oi m11, oR a1_150, oR a1_151, oR b153, oi 2, oR a1_150, .unset, .unset] [(.ref a1_150), (.ref b153)])) rfl (by rw [hml]; rfl) (Steps.refl _) (argsL := [(.ref a1_150)]) (rest := []) (lenOf pd_11 rfl) rfl (by show 2 * 0 + _ ≤ _; exact Nat.le_of_eq rfl) (hb hby at_290) (fun _ _ => ⟨rfl, e156, (by decide : 9 + 0 ≤ _), (by decide : 40 + 0 ≤ _)⟩)
              dsimp only [Pt.U, Pt.locs, Pt.cells, Pt.slots] at X199 lq199 yq199 zq199 st199 hQ199
              subst lq199 yq199 zq199
              obtain ⟨rfl, Nq199, eq199⟩ := hQ199
              have N199 := Fr.app N156 Nq199
              refine own_go (st' := T199.setTop (mkF m 293 #[oi p0, oi p1, oi p2, oi p3, oi 2, oi 1, oi u6, oi u7, oi u8, oi u9, oi m10, oi m11, oR a1_150, oR a1_151, oR b153, oi 2, oR a1_150, .unset, .unset] [(.int (0 : Int32))])) (fun _ k => st199.trans k) ?_
              have hc201 : (0 : Int32) = (0 : Int32) := by decide
              refine own_go (st' := T199.setTop (mkF m 296 #[oi p0, oi p1, oi p2, oi p3, oi 2, oi 1, oi u6, oi u7, oi u8, oi u9, oi m10, oi m11, oR a1_150, oR a1_151, oR b153, oi 2, oR a1_150, .unset, .unset] [])) (fun _ k => XS.ifNo X199.here hx rfl (hb hby at_293) rfl ((if0 _ _).trans (teq hc201).2) k) ?_
              refine own_go (st' := T199.setTop (mkF m 298 #[oi p0, oi p1, oi p2, oi p3, oi 2, oi 1, oi u6, oi u7, oi u8, oi u9, oi m10, oi m11, oR a1_150, oR a1_151, oR b153, oi 2, oR a1_150, .unset, .unset] [(.ref b153)])) (fun _ k => XS.aload X199.here hx rfl (hb hby at_296) rfl rfl k) ?_
              refine own_go (st' := T199.setTop (mkF m 300 #[oi p0, oi p1, oi p2, oi p3, oi 2, oi 1, oi u6, oi u7, oi u8, oi u9, oi m10, oi m11, oR a1_150, oR a1_151, oR b153, oi 2, oR a1_150, .unset, .unset] [(.ref b153), (.ref b153)])) (fun _ k => XS.aload X199.here hx rfl (hb hby at_298) rfl rfl k) ?_
              obtain ⟨cq202, kq202, q202a, q202b, q202c⟩ := isOf hZ eq199 g156_0
              obtain ⟨_, _, ⟨T202, LC202, kC202, nC202⟩, -, X202, ⟨Lc202, hQ202, lq202, yq202, zq202⟩, st202⟩ := X199.virtualBack hx (y := oM0) (z := oM0) hown (mvT hZ (own_hw hw 61)) (mvT hZ (own_hw hw 62)) (notFace_of_selects (args := #[]) (mvT hZ (own_hw hw 64))) (mvT hZ (own_hw hw 64)) (mvT hZ (own_hw hw 63)) (by decide) (backOf (W := 0) (rte_self l Z a0 hw [] b153 a1_150 m10 h156 n0 (by omega) g156_0 g156_1 g156_2 c200) hZ (own_hw hw 65) (own_hw hw 37) (by decide) (by decide)) q202a q202c (g := (mkF m 300 #[oi p0, oi p1, oi p2, oi p3, oi 2, oi 1, oi u6, oi u7, oi u8, oi u9, oi m10, oi m11, oR a1_150, oR a1_151, oR b153, oi 2, oR a1_150, .unset, .unset] [(.ref b153), (.ref b153)])) rfl (by rw [hml]; rfl) (Steps.refl _) (argsL := [(.ref b153)]) (rest := []) (lenOf pd_11 rfl) rfl (by show 2 * 0 + _ ≤ _; exact Nat.le_of_eq rfl) (hb hby at_300) (fun _ _ => ⟨rfl, eq199, (by decide : 9 + 0 ≤ _), (by decide : 40 + 0 ≤ _)⟩)
              dsimp only [Pt.U, Pt.locs, Pt.cells, Pt.slots] at X202 lq202 yq202 zq202 st202 hQ202
              subst lq202 yq202 zq202
              obtain ⟨rfl, Nq202, eq202⟩ := hQ202
              have N202 := Fr.app N199 Nq202
              refine own_go (st' := T202.setTop (mkF m 303 #[oi p0, oi p1, oi p2, oi p3, oi 2, oi 1, oi u6, oi u7, oi u8, oi u9, oi m10, oi m11, oR a1_150, oR a1_151, oR b153, oi 2, oR a1_150, .unset, .unset] [(.int (1 : Int32))])) (fun _ k => st202.trans k) ?_
              have hc203 : ¬ ((1 : Int32) = (0 : Int32)) := by decide
              refine own_go (st' := T202.setTop (mkF m 306 #[oi p0, oi p1, oi p2, oi p3, oi 2, oi 1, oi u6, oi u7, oi u8, oi u9, oi m10, oi m11, oR a1_150, oR a1_151, oR b153, oi 2, oR a1_150, .unset, .unset] [])) (fun _ k => XS.ifNo X202.here hx rfl (hb hby at_303) rfl ((if0 _ _).trans (feq hc203).1) k) ?_
              refine own_go (st' := T202.setTop (mkF m 307 #[oi p0, oi p1, oi p2, oi p3, oi 2, oi 1, oi u6, oi u7, oi u8, oi u9, oi m10, oi m11, oR a1_150, oR a1_151, oR b153, oi 2, oR a1_150, .unset, .unset] [(.int (1 : Int32))])) (fun _ k => XS.iconst X202.here hx rfl (hb hby at_306) k) ?_
              refine own_go (st' := T202.setTop (mkF m 311 #[oi p0, oi p1, oi p2, oi p3, oi 2, oi 1, oi u6, oi u7, oi u8, oi u9, oi m10, oi m11, oR a1_150, oR a1_151, oR b153, oi 2, oR a1_150, .unset, .unset] [(.int (1 : Int32))])) (fun _ k => XS.goto X202.here hx rfl (pc0 := 307) (pc' := 311) rfl (hb hby at_307) (by decide) (by decide) k) ?_
              obtain ⟨fs, hr, hrun, hended, hR1, hR2, hR3, hR4⟩ := X202.leaveW hS156 (by rw [eq202]; omega) (v := some (.int (1 : Int32))) (fun h => by rw [Bd.returns] at h; cases h)
              refine ⟨_, _, ?_, hP _ _ hrun hended ⟨_, _, rfl, ?_, hR1, hR2, hR3, hR4.mono (by decide) (by decide)⟩⟩
              · exact retN X202 hx (t := .boolean) Bd.returns (by simp) (hb hby at_311) hr
              · show Qrm0 Z p0 p1 p2 p3 ca zc h0 n0 _ T202.heap _
                rw [eq202]
                exact ⟨rfl, N202, trivial⟩
            · --
              refine own_go (st' := T156.setTop (mkF m 153 #[oi p0, oi p1, oi p2, oi p3, oi 2, oi 1, oi u6, oi u7, oi u8, oi u9, oi m10, oi m11, oR a1_150, oR a1_151, oR b153, oi 3, .unset, .unset, .unset] [])) (fun _ k => XS.istore X156.here hx rfl (hb hby at_151) rfl (l' := #[oi p0, oi p1, oi p2, oi p3, oi 2, oi 1, oi u6, oi u7, oi u8, oi u9, oi m10, oi m11, oR a1_150, oR a1_151, oR b153, oi 3, .unset, .unset, .unset]) rfl k) ?_
              refine own_go (st' := T156.setTop (mkF m 155 #[oi p0, oi p1, oi p2, oi p3, oi 2, oi 1, oi u6, oi u7, oi u8, oi u9, oi m10, oi m11, oR a1_150, oR a1_151, oR b153, oi 3, .unset, .unset, .unset] [(.int (3 : Int32))])) (fun _ k => XS.iload X156.here hx rfl (hb hby at_153) rfl k) ?_
              have hc205 : ¬ ((3 : Int32) = (0 : Int32)) := by decide
              refine own_go (st' := T156.setTop (mkF m 254 #[oi p0, oi p1, oi p2, oi p3, oi 2, oi 1, oi u6, oi u7, oi u8, oi u9, oi m10, oi m11, oR a1_150, oR a1_151, oR b153, oi 3, .unset, .unset, .unset] [])) (fun _ k => XS.ifYes X156.here hx rfl (pc0 := 155) (pc' := 254) rfl (hb hby at_155) rfl ((if0 _ _).trans (feq hc205).2) (by decide) (by decide) k) ?_
              refine own_go (st' := T156.setTop (mkF m 256 #[oi p0, oi p1, oi p2, oi p3, oi 2, oi 1, oi u6, oi u7, oi u8, oi u9, oi m10, oi m11, oR a1_150, oR a1_151, oR b153, oi 3, .unset, .unset, .unset] [(.int (3 : Int32))])) (fun _ k => XS.iload X156.here hx rfl (hb hby at_254) rfl k) ?_
              refine own_go (st' := T156.setTop (mkF m 257 #[oi p0, oi p1, oi p2, oi p3, oi 2, oi 1, oi u6, oi u7, oi u8, oi u9, oi m10, oi m11, oR a1_150, oR a1_151, oR b153, oi 3, .unset, .unset, .unset] [(.int (1 : Int32)), (.int (3 : Int32))])) (fun _ k => XS.iconst X156.here hx rfl (hb hby at_256) k) ?_
              have hc206 : ¬ ((3 : Int32) = (1 : Int32)) := by decide
              refine own_go (st' := T156.setTop (mkF m 266 #[oi p0, oi p1, oi p2, oi p3, oi 2, oi 1, oi u6, oi u7, oi u8, oi u9, oi m10, oi m11, oR a1_150, oR a1_151, oR b153, oi 3, .unset, .unset, .unset] [])) (fun _ k => XS.icmpYes X156.here hx rfl (pc0 := 257) (pc' := 266) rfl (hb hby at_257) rfl (feq hc206).2 (by decide) (by decide) k) ?_
              refine own_go (st' := T156.setTop (mkF m 268 #[oi p0, oi p1, oi p2, oi p3, oi 2, oi 1, oi u6, oi u7, oi u8, oi u9, oi m10, oi m11, oR a1_150, oR a1_151, oR b153, oi 3, .unset, .unset, .unset] [(.int (3 : Int32))])) (fun _ k => XS.iload X156.here hx rfl (hb hby at_266) rfl k) ?_
              refine own_go (st' := T156.setTop (mkF m 269 #[oi p0, oi p1, oi p2, oi p3, oi 2, oi 1, oi u6, oi u7, oi u8, oi u9, oi m10, oi m11, oR a1_150, oR a1_151, oR b153, oi 3, .unset, .unset, .unset] [(.int (2 : Int32)), (.int (3 : Int32))])) (fun _ k => XS.iconst X156.here hx rfl (hb hby at_268) k) ?_
              have hc207 : ¬ ((3 : Int32) = (2 : Int32)) := by decide
              refine own_go (st' := T156.setTop (mkF m 279 #[oi p0, oi p1, oi p2, oi p3, oi 2, oi 1, oi u6, oi u7, oi u8, oi u9, oi m10, oi m11, oR a1_150, oR a1_151, oR b153, oi 3, .unset, .unset, .unset] [])) (fun _ k => XS.icmpYes X156.here hx rfl (pc0 := 269) (pc' := 279) rfl (hb hby at_269) rfl (feq hc207).2 (by decide) (by decide) k) ?_
              refine own_go (st' := T156.setTop (mkF m 281 #[oi p0, oi p1, oi p2, oi p3, oi 2, oi 1, oi u6, oi u7, oi u8, oi u9, oi m10, oi m11, oR a1_150, oR a1_151, oR b153, oi 3, .unset, .unset, .unset] [(.int m10)])) (fun _ k => XS.iload X156.here hx rfl (hb hby at_279) rfl k) ?_
              have c209 : Sta Z h156 oS5 "high" "I" (.int (127 : Int32)) := (own_sta_keep ((own_sta_keep (own_sta_keep pr1 K150 all0) K151 all0).ext E153) K156 (allS (P := fun x => ∀ c : Cell, h153[x]? = some c → c.vm.isStatics = false) (own_pl_exa A153) all0))
              have c210 : Sta Z h156 oS5 "cache" oS8 (.ref ca) := (own_sta_keep ((own_sta_keep (own_sta_keep pr2 K150 all0) K151 all0).ext E153) K156 (allS (P := fun x => ∀ c : Cell, h153[x]? = some c → c.vm.isStatics = false) (own_pl_exa A153) all0))
              have c211 : own_Cache Z h156 ca := (own_Cache_keep (own_Cache_ext (own_Cache_keep (own_Cache_keep pr3 K150 nin0) K151 nin0) E153) K156 (ninS (own_ne (by omega)) nin0))
              obtain ⟨_, _, ⟨T208, LC208, kC208, nC208⟩, -, X208, ⟨Lc208, hQ208, lq208, yq208, zq208⟩, st208⟩ := Jvm.LawKit.callS X156 hx (y := oM6) hown (mvT hZ (own_hw hw 75)) (mvT hZ (own_hw hw 76)) (mvT hZ (own_hw hw 77)) (mvT hZ (own_hw hw 78)) (by decide) (backOf (W := 0) (rm14 l Z a0 hw [] m10 ca h156 n0 (by omega) c209 c210 c211) hZ (own_hw hw 78) (own_hw hw 77) (by decide) (by decide)) (g := (mkF m 281 #[oi p0, oi p1, oi p2, oi p3, oi 2, oi 1, oi u6, oi u7, oi u8, oi u9, oi m10, oi m11, oR a1_150, oR a1_151, oR b153, oi 3, .unset, .unset, .unset] [(.int m10)])) rfl (by rw [hml]; rfl) (argsL := [(.int m10)]) (rest := []) (lenOf pd_14 rfl) rfl (by show 2 * 0 + _ ≤ _; exact Nat.le_of_eq rfl) (hb hby at_281) (fun _ _ => ⟨rfl, e156, (by decide : 9 + 1 ≤ _), (by decide : 40 + 1 ≤ _)⟩)
              dsimp only [Pt.U, Pt.locs, Pt.cells, Pt.slots] at X208 lq208 yq208 zq208 st208 hQ208
              subst lq208 yq208 zq208
              obtain ⟨h208, e208⟩ : ∃ z, T208.heap = z := ⟨_, rfl⟩
              rw [e208] at hQ208
              obtain ⟨r_208, rfl, Nq208, K208, g208_0⟩ := hQ208
              have sz208 : h156.size ≤ h208.size := K208.1
              have N208 := Fr.app N156 Nq208
              have lt208_1 : @LT.lt Nat _ r_208 h208.size := g208_0.lt
              refine own_go (st' := T208.setTop (mkF m 284 #[oi p0, oi p1, oi p2, oi p3, oi 2, oi 1, oi u6, oi u7, oi u8, oi u9, oi m10, oi m11, oR a1_150, oR a1_151, oR b153, oi 3, .unset, .unset, .unset] [(.ref r_208)])) (fun t k => st208 t k) ?_
              refine own_go (st' := T208.setTop (mkF m 286 #[oi p0, oi p1, oi p2, oi p3, oi 2, oi 1, oi u6, oi u7, oi u8, oi u9, oi m10, oi m11, oR a1_150, oR a1_151, oR b153, oi 3, oR r_208, .unset, .unset] [])) (fun _ k => XS.astore X208.here hx rfl (hb hby at_284) rfl rfl (l' := #[oi p0, oi p1, oi p2, oi p3, oi 2, oi 1, oi u6, oi u7, oi u8, oi u9, oi m10, oi m11, oR a1_150, oR a1_151, oR b153, oi 3, oR r_208, .unset, .unset]) rfl k) ?_
              refine own_go (st' := T208.setTop (mkF m 288 #[oi p0, oi p1, oi p2, oi p3, oi 2, oi 1, oi u6, oi u7, oi u8, oi u9, oi m10, oi m11, oR a1_150, oR a1_151, oR b153, oi 3, oR r_208, .unset, .unset] [(.ref b153)])) (fun _ k => XS.aload X208.here hx rfl (hb hby at_286) rfl rfl k) ?_
              refine own_go (st' := T208.setTop (mkF m 290 #[oi p0, oi p1, oi p2, oi p3, oi 2, oi 1, oi u6, oi u7, oi u8, oi u9, oi m10, oi m11, oR a1_150, oR a1_151, oR b153, oi 3, oR r_208, .unset, .unset] [(.ref r_208), (.ref b153)])) (fun _ k => XS.aload X208.here hx rfl (hb hby at_288) rfl rfl k) ?_
              have c213 : Exa Z h208 b153 oS1 := (g156_0.keep K208)
              obtain ⟨cq212, kq212, q212a, q212b, q212c⟩ := isOf hZ e208 c213
              obtain ⟨_, _, ⟨T212, LC212, kC212, nC212⟩, -, X212, ⟨Lc212, hQ212, lq212, yq212, zq212⟩, st212⟩ := X208.virtualBack hx (y := oM0) (z := oM0) hown (mvT hZ (own_hw hw 61)) (mvT hZ (own_hw hw 62)) (notFace_of_selects (args := #[]) (mvT hZ (own_hw hw 64))) (mvT hZ (own_hw hw 64)) (mvT hZ (own_hw hw 63)) (by decide) (backOf (W := 0) (rte_int l Z a0 hw [] b153 r_208 h208 n0 (by omega) g208_0) hZ (own_hw hw 65) (own_hw hw 37) (by decide) (by decide)) q212a q212c (g := (mkF m 290 #[oi p0, oi p1, oi p2, oi p3, oi 2, oi 1, oi u6, oi u7, oi u8, oi u9, oi m10, oi m11, oR a1_150, oR a1_151, oR b153, oi 3, oR r_208, .unset, .unset] [(.ref r_208), (.ref b153)])) rfl (by rw [hml]; rfl) (Steps.refl _) (argsL := [(.ref r_208)]) (rest := []) (lenOf pd_11 rfl) rfl (by show 2 * 0 + _ ≤ _; exact Nat.le_of_eq rfl) (hb hby at_290) (fun _ _ => ⟨rfl, e208, (by decide : 10 + 0 ≤ _), (by decide : 41 + 0 ≤ _)⟩)
              dsimp only [Pt.U, Pt.locs, Pt.cells, Pt.slots] at X212 lq212 yq212 zq212 st212 hQ212
              subst lq212 yq212 zq212
              obtain ⟨rfl, Nq212, eq212⟩ := hQ212
              have N212 := Fr.app N208 Nq212
              refine own_go (st' := T212.setTop (mkF m 293 #[oi p0, oi p1, oi p2, oi p3, oi 2, oi 1, oi u6, oi u7, oi u8, oi u9, oi m10, oi m11, oR a1_150, oR a1_151, oR b153, oi 3, oR r_208, .unset, .unset] [(.int (0 : Int32))])) (fun _ k => st212.trans k) ?_
              have hc214 : (0 : Int32) = (0 : Int32) := by decide
              refine own_go (st' := T212.setTop (mkF m 296 #[oi p0, oi p1, oi p2, oi p3, oi 2, oi 1, oi u6, oi u7, oi u8, oi u9, oi m10, oi m11, oR a1_150, oR a1_151, oR b153, oi 3, oR r_208, .unset, .unset] [])) (fun _ k => XS.ifNo X212.here hx rfl (hb hby at_293) rfl ((if0 _ _).trans (teq hc214).2) k) ?_
              refine own_go (st' := T212.setTop (mkF m 298 #[oi p0, oi p1, oi p2, oi p3, oi 2, oi 1, oi u6, oi u7, oi u8, oi u9, oi m10, oi m11, oR a1_150, oR a1_151, oR b153, oi 3, oR r_208, .unset, .unset] [(.ref b153)])) (fun _ k => XS.aload X212.here hx rfl (hb hby at_296) rfl rfl k) ?_
              refine own_go (st' := T212.setTop (mkF m 300 #[oi p0, oi p1, oi p2, oi p3, oi 2, oi 1, oi u6, oi u7, oi u8, oi u9, oi m10, oi m11, oR a1_150, oR a1_151, oR b153, oi 3, oR r_208, .unset, .unset] [(.ref b153), (.ref b153)])) (fun _ k => XS.aload X212.here hx rfl (hb hby at_298) rfl rfl k) ?_
              have c216 : Fld Z h208 b153 oS1 "topic" oS2 (.ref a1_150) := (g156_1.keep K208 nin0)
              have c217 : Fld Z h208 b153 oS1 "number" "I" (.int m10) := (g156_2.keep K208 nin0)
              have c218 : Exa Z h208 a1_150 oS0 := ((c157.keep K156).keep K208)
              obtain ⟨cq215, kq215, q215a, q215b, q215c⟩ := isOf hZ eq212 c213
              obtain ⟨_, _, ⟨T215, LC215, kC215, nC215⟩, -, X215, ⟨Lc215, hQ215, lq215, yq215, zq215⟩, st215⟩ := X212.virtualBack hx (y := oM0) (z := oM0) hown (mvT hZ (own_hw hw 61)) (mvT hZ (own_hw hw 62)) (notFace_of_selects (args := #[]) (mvT hZ (own_hw hw 64))) (mvT hZ (own_hw hw 64)) (mvT hZ (own_hw hw 63)) (by decide) (backOf (W := 0) (rte_self l Z a0 hw [] b153 a1_150 m10 h208 n0 (by omega) c213 c216 c217 c218) hZ (own_hw hw 65) (own_hw hw 37) (by decide) (by decide)) q215a q215c (g := (mkF m 300 #[oi p0, oi p1, oi p2, oi p3, oi 2, oi 1, oi u6, oi u7, oi u8, oi u9, oi m10, oi m11, oR a1_150, oR a1_151, oR b153, oi 3, oR r_208, .unset, .unset] [(.ref b153), (.ref b153)])) rfl (by rw [hml]; rfl) (Steps.refl _) (argsL := [(.ref b153)]) (rest := []) (lenOf pd_11 rfl) rfl (by show 2 * 0 + _ ≤ _; exact Nat.le_of_eq rfl) (hb hby at_300) (fun _ _ => ⟨rfl, eq212, (by decide : 10 + 0 ≤ _), (by decide : 41 + 0 ≤ _)⟩)
              dsimp only [Pt.U, Pt.locs, Pt.cells, Pt.slots] at X215 lq215 yq215 zq215 st215 hQ215
              subst lq215 yq215 zq215
              obtain ⟨rfl, Nq215, eq215⟩ := hQ215
              have N215 := Fr.app N212 Nq215
              refine own_go (st' := T215.setTop (mkF m 303 #[oi p0, oi p1, oi p2, oi p3, oi 2, oi 1, oi u6, oi u7, oi u8, oi u9, oi m10, oi m11, oR a1_150, oR a1_151, oR b153, oi 3, oR r_208, .unset, .unset] [(.int (1 : Int32))])) (fun _ k => st215.trans k) ?_
              have hc219 : ¬ ((1 : Int32) = (0 : Int32)) := by decide
              refine own_go (st' := T215.setTop (mkF m 306 #[oi p0, oi p1, oi p2, oi p3, oi 2, oi 1, oi u6, oi u7, oi u8, oi u9, oi m10, oi m11, oR a1_150, oR a1_151, oR b153, oi 3, oR r_208, .unset, .unset] [])) (fun _ k => XS.ifNo X215.here hx rfl (hb hby at_303) rfl ((if0 _ _).trans (feq hc219).1) k) ?_
              refine own_go (st' := T215.setTop (mkF m 307 #[oi p0, oi p1, oi p2, oi p3, oi 2, oi 1, oi u6, oi u7, oi u8, oi u9, oi m10, oi m11, oR a1_150, oR a1_151, oR b153, oi 3, oR r_208, .unset, .unset] [(.int (1 : Int32))])) (fun _ k => XS.iconst X215.here hx rfl (hb hby at_306) k) ?_
              refine own_go (st' := T215.setTop (mkF m 311 #[oi p0, oi p1, oi p2, oi p3, oi 2, oi 1, oi u6, oi u7, oi u8, oi u9, oi m10, oi m11, oR a1_150, oR a1_151, oR b153, oi 3, oR r_208, .unset, .unset] [(.int (1 : Int32))])) (fun _ k => XS.goto X215.here hx rfl (pc0 := 307) (pc' := 311) rfl (hb hby at_307) (by decide) (by decide) k) ?_
              obtain ⟨fs, hr, hrun, hended, hR1, hR2, hR3, hR4⟩ := X215.leaveW hS156 (by rw [eq215]; omega) (v := some (.int (1 : Int32))) (fun h => by rw [Bd.returns] at h; cases h)
              refine ⟨_, _, ?_, hP _ _ hrun hended ⟨_, _, rfl, ?_, hR1, hR2, hR3, hR4.mono (by decide) (by decide)⟩⟩
              · exact retN X215 hx (t := .boolean) Bd.returns (by simp) (hb hby at_311) hr
              · show Qrm0 Z p0 p1 p2 p3 ca zc h0 n0 _ T215.heap _
                rw [eq215]
                exact ⟨rfl, N215, trivial⟩
          · --
            refine own_go (st' := Tj3.setTop (mkF m 112 #[oi p0, oi p1, oi p2, oi p3, oi 2, oi 2, oi u6, oi u7, oi u8, oi u9, oi m10, oi m11, .unset, .unset, .unset, .unset, .unset, .unset, .unset] [(.int (2 : Int32))])) (fun _ k => XS.iload Xj3.here hx rfl (hb hby at_110) rfl k) ?_
            refine own_go (st' := Tj3.setTop (mkF m 114 #[oi p0, oi p1, oi p2, oi p3, oi 2, oi 2, oi u6, oi u7, oi u8, oi u9, oi m10, oi m11, .unset, .unset, .unset, .unset, .unset, .unset, .unset] [(.int u6), (.int (2 : Int32))])) (fun _ k => XS.iload Xj3.here hx rfl (hb hby at_112) rfl k) ?_
            refine own_go (st' := Tj3.setTop (mkF m 116 #[oi p0, oi p1, oi p2, oi p3, oi 2, oi 2, oi u6, oi u7, oi u8, oi u9, oi m10, oi m11, .unset, .unset, .unset, .unset, .unset, .unset, .unset] [(.int u7), (.int u6), (.int (2 : Int32))])) (fun _ k => XS.iload Xj3.here hx rfl (hb hby at_114) rfl k) ?_
            obtain ⟨_, _, ⟨T221, LC221, kC221, nC221⟩, -, X221, ⟨Lc221, hQ221, lq221, yq221, zq221⟩, st221⟩ := Jvm.LawKit.callS Xj3 hx (y := oM3) hown (mvT hZ (own_hw hw 1)) (mvT hZ (own_hw hw 2)) (mvT hZ (own_hw hw 3)) (mvT hZ (own_hw hw 4)) (by decide) (backOf (W := 0) (rmk_2 l Z a0 hw [] zc u6 u7 h0 n0 (by omega) pr4 (by assumption) hl_u6 hl_u7) hZ (own_hw hw 4) (own_hw hw 3) (by decide) (by decide)) (g := (mkF m 116 #[oi p0, oi p1, oi p2, oi p3, oi 2, oi 2, oi u6, oi u7, oi u8, oi u9, oi m10, oi m11, .unset, .unset, .unset, .unset, .unset, .unset, .unset] [(.int u7), (.int u6), (.int (2 : Int32))])) rfl (by rw [hml]; rfl) (argsL := [(.int (2 : Int32)), (.int u6), (.int u7)]) (rest := []) (lenOf pd_12 rfl) rfl (by show 2 * 0 + _ ≤ _; exact Nat.le_of_eq rfl) (hb hby at_116) (fun _ _ => ⟨rfl, ej3, (by decide : 0 + 3 ≤ _), (by decide : 0 + 8 ≤ _)⟩)
            dsimp only [Pt.U, Pt.locs, Pt.cells, Pt.slots] at X221 lq221 yq221 zq221 st221 hQ221
            subst lq221 yq221 zq221
            obtain ⟨h221, e221⟩ : ∃ z, T221.heap = z := ⟨_, rfl⟩
            rw [e221] at hQ221
            obtain ⟨a1_221, r_221, kr_221, rfl, Nq221, K221, g221_0, g221_1, g221_2, g221_3, g221_4, g221_5, g221_6⟩ := hQ221
            have sz221 : h0.size ≤ h221.size := K221.1
            have N221 := Fr.app Nj3 Nq221
            have lt221_1 : @LT.lt Nat _ a1_221 h221.size := g221_0.lt
            have lt221_2 : @LT.lt Nat _ r_221 h221.size := g221_3.lt
            refine own_go (st' := T221.setTop (mkF m 119 #[oi p0, oi p1, oi p2, oi p3, oi 2, oi 2, oi u6, oi u7, oi u8, oi u9, oi m10, oi m11, .unset, .unset, .unset, .unset, .unset, .unset, .unset] [(.ref a1_221)])) (fun t k => st221 t k) ?_
            refine own_go (st' := T221.setTop (mkF m 121 #[oi p0, oi p1, oi p2, oi p3, oi 2, oi 2, oi u6, oi u7, oi u8, oi u9, oi m10, oi m11, oR a1_221, .unset, .unset, .unset, .unset, .unset, .unset] [])) (fun _ k => XS.astore X221.here hx rfl (hb hby at_119) rfl rfl (l' := #[oi p0, oi p1, oi p2, oi p3, oi 2, oi 2, oi u6, oi u7, oi u8, oi u9, oi m10, oi m11, oR a1_221, .unset, .unset, .unset, .unset, .unset, .unset]) rfl k) ?_
            refine own_go (st' := T221.setTop (mkF m 123 #[oi p0, oi p1, oi p2, oi p3, oi 2, oi 2, oi u6, oi u7, oi u8, oi u9, oi m10, oi m11, oR a1_221, .unset, .unset, .unset, .unset, .unset, .unset] [(.int (2 : Int32))])) (fun _ k => XS.iload X221.here hx rfl (hb hby at_121) rfl k) ?_
            refine own_go (st' := T221.setTop (mkF m 125 #[oi p0, oi p1, oi p2, oi p3, oi 2, oi 2, oi u6, oi u7, oi u8, oi u9, oi m10, oi m11, oR a1_221, .unset, .unset, .unset, .unset, .unset, .unset] [(.int u8), (.int (2 : Int32))])) (fun _ k => XS.iload X221.here hx rfl (hb hby at_123) rfl k) ?_
            refine own_go (st' := T221.setTop (mkF m 127 #[oi p0, oi p1, oi p2, oi p3, oi 2, oi 2, oi u6, oi u7, oi u8, oi u9, oi m10, oi m11, oR a1_221, .unset, .unset, .unset, .unset, .unset, .unset] [(.int u9), (.int u8), (.int (2 : Int32))])) (fun _ k => XS.iload X221.here hx rfl (hb hby at_125) rfl k) ?_
            have c223 : Sta Z h221 oS0 oS4 "Z" (.int zc) := (own_sta_keep pr4 K221 all0)
            obtain ⟨_, _, ⟨T222, LC222, kC222, nC222⟩, -, X222, ⟨Lc222, hQ222, lq222, yq222, zq222⟩, st222⟩ := Jvm.LawKit.callS X221 hx (y := oM3) hown (mvT hZ (own_hw hw 1)) (mvT hZ (own_hw hw 2)) (mvT hZ (own_hw hw 3)) (mvT hZ (own_hw hw 4)) (by decide) (backOf (W := 0) (rmk_2 l Z a0 hw [] zc u8 u9 h221 n0 (by omega) c223 (by assumption) hl_u8 hl_u9) hZ (own_hw hw 4) (own_hw hw 3) (by decide) (by decide)) (g := (mkF m 127 #[oi p0, oi p1, oi p2, oi p3, oi 2, oi 2, oi u6, oi u7, oi u8, oi u9, oi m10, oi m11, oR a1_221, .unset, .unset, .unset, .unset, .unset, .unset] [(.int u9), (.int u8), (.int (2 : Int32))])) rfl (by rw [hml]; rfl) (argsL := [(.int (2 : Int32)), (.int u8), (.int u9)]) (rest := []) (lenOf pd_12 rfl) rfl (by show 2 * 0 + _ ≤ _; exact Nat.le_of_eq rfl) (hb hby at_127) (fun _ _ => ⟨rfl, e221, (by decide : 3 + 3 ≤ _), (by decide : 8 + 8 ≤ _)⟩)
            dsimp only [Pt.U, Pt.locs, Pt.cells, Pt.slots] at X222 lq222 yq222 zq222 st222 hQ222
            subst lq222 yq222 zq222
            obtain ⟨h222, e222⟩ : ∃ z, T222.heap = z := ⟨_, rfl⟩
            rw [e222] at hQ222
            obtain ⟨a1_222, r_222, kr_222, rfl, Nq222, K222, g222_0, g222_1, g222_2, g222_3, g222_4, g222_5, g222_6⟩ := hQ222
            have sz222 : h221.size ≤ h222.size := K222.1
            have N222 := Fr.app N221 Nq222
            have lt222_1 : @LT.lt Nat _ a1_222 h222.size := g222_0.lt
            have lt222_2 : @LT.lt Nat _ r_222 h222.size := g222_3.lt
            refine own_go (st' := T222.setTop (mkF m 130 #[oi p0, oi p1, oi p2, oi p3, oi 2, oi 2, oi u6, oi u7, oi u8, oi u9, oi m10, oi m11, oR a1_221, .unset, .unset, .unset, .unset, .unset, .unset] [(.ref a1_222)])) (fun t k => st222 t k) ?_
            refine own_go (st' := T222.setTop (mkF m 132 #[oi p0, oi p1, oi p2, oi p3, oi 2, oi 2, oi u6, oi u7, oi u8, oi u9, oi m10, oi m11, oR a1_221, oR a1_222, .unset, .unset, .unset, .unset, .unset] [])) (fun _ k => XS.astore X222.here hx rfl (hb hby at_130) rfl rfl (l' := #[oi p0, oi p1, oi p2, oi p3, oi 2, oi 2, oi u6, oi u7, oi u8, oi u9, oi m10, oi m11, oR a1_221, oR a1_222, .unset, .unset, .unset, .unset, .unset]) rfl k) ?_
            obtain ⟨T224, h224, X224, e224, E224, A224, D224, -, st224⟩ := newO X222 hx hZ hown (own_hw hw 35) (own_hw hw 36) (own_hw hw 37) e222 (g := (mkF m 132 #[oi p0, oi p1, oi p2, oi p3, oi 2, oi 2, oi u6, oi u7, oi u8, oi u9, oi m10, oi m11, oR a1_221, oR a1_222, .unset, .unset, .unset, .unset, .unset] [])) rfl (hb hby at_132) (by decide) (by decide)
            obtain ⟨b224, g224⟩ : ∃ z, z = h222.size := ⟨_, rfl⟩
            rw [← g224] at A224 D224 st224
            have sz224 : h222.size ≤ h224.size := E224.1
            have lt224 : @LT.lt Nat _ b224 h224.size := A224.lt
            have f225 : Fld Z h224 b224 oS1 "topic" oS2 .null := D224 (Or.inr (own_hw hw 58)) (ty := (.object oS0)) (by decide)
            have f226 : Fld Z h224 b224 oS1 "number" "I" (.int (0 : Int32)) := D224 (Or.inr (own_hw hw 60)) (ty := .int) (by decide)
            refine own_go (st' := T224.setTop (mkF m 135 #[oi p0, oi p1, oi p2, oi p3, oi 2, oi 2, oi u6, oi u7, oi u8, oi u9, oi m10, oi m11, oR a1_221, oR a1_222, .unset, .unset, .unset, .unset, .unset] [(.ref b224)])) (st224) ?_
            refine own_go (st' := T224.setTop (mkF m 136 #[oi p0, oi p1, oi p2, oi p3, oi 2, oi 2, oi u6, oi u7, oi u8, oi u9, oi m10, oi m11, oR a1_221, oR a1_222, .unset, .unset, .unset, .unset, .unset] [(.ref b224), (.ref b224)])) (fun _ k => XS.dup X224.here hx rfl (hb hby at_135) rfl rfl k) ?_
            refine own_go (st' := T224.setTop (mkF m 138 #[oi p0, oi p1, oi p2, oi p3, oi 2, oi 2, oi u6, oi u7, oi u8, oi u9, oi m10, oi m11, oR a1_221, oR a1_222, .unset, .unset, .unset, .unset, .unset] [(.ref a1_221), (.ref b224), (.ref b224)])) (fun _ k => XS.aload X224.here hx rfl (hb hby at_136) rfl rfl k) ?_
            refine own_go (st' := T224.setTop (mkF m 140 #[oi p0, oi p1, oi p2, oi p3, oi 2, oi 2, oi u6, oi u7, oi u8, oi u9, oi m10, oi m11, oR a1_221, oR a1_222, .unset, .unset, .unset, .unset, .unset] [(.int m10), (.ref a1_221), (.ref b224), (.ref b224)])) (fun _ k => XS.iload X224.here hx rfl (hb hby at_138) rfl k) ?_
            have c228 : Exa Z h224 a1_221 oS0 := ((g221_0.keep K222).ext E224)
            have c229 : Fld Z h224 a1_221 oS0 "value" "[B" (.ref r_221) := ((g221_1.keep K222 nin0).ext E224)
            have c230 : Arv Z h224 r_221 kr_221 .byte (2 : Int32) [(.int (own_by u6)), (.int (own_by u7))] (.int (0 : Int32)) := ((g221_3.keep K222 nin0).ext E224)
            obtain ⟨_, _, ⟨T227, LC227, kC227, nC227⟩, -, X227, hS227, hg227, ⟨Lc227, hQ227, lq227, yq227, zq227⟩, st227⟩ := X224.specialBackS hx (y := oM4) rfl hown (mvT hZ (own_hw hw 38)) (mvT hZ (own_hw hw 39)) (mvT hZ (own_hw hw 40)) (by decide) (backOfS (W := 1) (rti_2 l Z a0 hw [] b224 a1_221 r_221 kr_221 [(.int (own_by u6)), (.int (own_by u7))] m10 (0 : Int32) h224 n0 (by omega) A224 f225 f226 c228 c229 c230 (by omega) (own_ne (by omega)) (own_ne (by omega)) hp_m10) hZ (own_hw hw 40) (own_hw hw 37) (by decide) (by decide)) (g := (mkF m 140 #[oi p0, oi p1, oi p2, oi p3, oi 2, oi 2, oi u6, oi u7, oi u8, oi u9, oi m10, oi m11, oR a1_221, oR a1_222, .unset, .unset, .unset, .unset, .unset] [(.int m10), (.ref a1_221), (.ref b224), (.ref b224)])) rfl (by rw [hml]; rfl) (Steps.refl _) (a := b224) (argsL := [(.ref a1_221), (.int m10)]) (rest := [(.ref b224)]) (lenOf pd_13 rfl) rfl (by show 2 * 0 + _ ≤ _; exact Nat.le_of_eq rfl) (hb hby at_140) (fun _ _ => ⟨rfl, e224, (by decide : 7 + 2 ≤ _), (by decide : 18 + 24 ≤ _)⟩)
            dsimp only [Pt.U, Pt.locs, Pt.cells, Pt.slots] at X227 lq227 yq227 zq227 st227 hQ227
            subst lq227 yq227 zq227
            dsimp only [Pt.U, Pt.locs, Pt.cells, Pt.slots] at hS227 hg227
            obtain ⟨X227, hS227, hZ, hown⟩ := rebS hSj3 (by rw [e224]; omega) X227 hS227 hg227 hZ hown
            obtain ⟨h227, e227⟩ : ∃ z, T227.heap = z := ⟨_, rfl⟩
            rw [e227] at hQ227 hS227
            obtain ⟨rfl, Nq227, K227, g227_0, g227_1, g227_2⟩ := hQ227
            have sz227 : h224.size ≤ h227.size := K227.1
            have N227 := Fr.app N222 Nq227
            have lt227_1 : @LT.lt Nat _ b224 h227.size := g227_0.lt
            refine own_go (st' := T227.setTop (mkF m 143 #[oi p0, oi p1, oi p2, oi p3, oi 2, oi 2, oi u6, oi u7, oi u8, oi u9, oi m10, oi m11, oR a1_221, oR a1_222, .unset, .unset, .unset, .unset, .unset] [(.ref b224)])) (fun _ k => st227.trans k) ?_
            refine own_go (st' := T227.setTop (mkF m 145 #[oi p0, oi p1, oi p2, oi p3, oi 2, oi 2, oi u6, oi u7, oi u8, oi u9, oi m10, oi m11, oR a1_221, oR a1_222, oR b224, .unset, .unset, .unset, .unset] [])) (fun _ k => XS.astore X227.here hx rfl (hb hby at_143) rfl rfl (l' := #[oi p0, oi p1, oi p2, oi p3, oi 2, oi 2, oi u6, oi u7, oi u8, oi u9, oi m10, oi m11, oR a1_221, oR a1_222, oR b224, .unset, .unset, .unset, .unset]) rfl k) ?_
            refine own_go (st' := T227.setTop (mkF m 146 #[oi p0, oi p1, oi p2, oi p3, oi 2, oi 2, oi u6, oi u7, oi u8, oi u9, oi m10, oi m11, oR a1_221, oR a1_222, oR b224, .unset, .unset, .unset, .unset] [(.int p0)])) (fun _ k => XS.iloadN X227.here hx rfl (hb hby at_145) rfl k) ?_
            refine own_go (st' := T227.setTop (mkF m 148 #[oi p0, oi p1, oi p2, oi p3, oi 2, oi 2, oi u6, oi u7, oi u8, oi u9, oi m10, oi m11, oR a1_221, oR a1_222, oR b224, .unset, .unset, .unset, .unset] [(.int (6 : Int32)), (.int p0)])) (fun _ k => XS.bipush X227.here hx rfl (hb hby at_146) k) ?_
            refine own_go (st' := T227.setTop (mkF m 149 #[oi p0, oi p1, oi p2, oi p3, oi 2, oi 2, oi u6, oi u7, oi u8, oi u9, oi m10, oi m11, oR a1_221, oR a1_222, oR b224, .unset, .unset, .unset, .unset] [(.int ((p0.toUInt32 >>> ((6 : Int32) &&& 31).toUInt32).toInt32))])) (fun _ k => XS.iushr X227.here hx rfl (hb hby at_148) rfl k) ?_
            refine own_go (st' := T227.setTop (mkF m 150 #[oi p0, oi p1, oi p2, oi p3, oi 2, oi 2, oi u6, oi u7, oi u8, oi u9, oi m10, oi m11, oR a1_221, oR a1_222, oR b224, .unset, .unset, .unset, .unset] [(.int (3 : Int32)), (.int ((p0.toUInt32 >>> ((6 : Int32) &&& 31).toUInt32).toInt32))])) (fun _ k => XS.iconst X227.here hx rfl (hb hby at_149) k) ?_
            refine own_go (st' := T227.setTop (mkF m 151 #[oi p0, oi p1, oi p2, oi p3, oi 2, oi 2, oi u6, oi u7, oi u8, oi u9, oi m10, oi m11, oR a1_221, oR a1_222, oR b224, .unset, .unset, .unset, .unset] [(.int (((p0.toUInt32 >>> ((6 : Int32) &&& 31).toUInt32).toInt32) &&& (3 : Int32)))])) (fun _ k => XS.iand X227.here hx rfl (hb hby at_150) rfl k) ?_
            have hm := own_and3 ((p0.toUInt32 >>> ((6 : Int32) &&& 31).toUInt32).toInt32)
            obtain ⟨xs, hxs⟩ : ∃ z : Int32, z = (((p0.toUInt32 >>> ((6 : Int32) &&& 31).toUInt32).toInt32) &&& (3 : Int32)) := ⟨_, rfl⟩
            rw [← hxs] at hm ⊢
            clear hxs
            rcases hm with rfl | rfl | rfl | rfl
            · --
              refine own_go (st' := T227.setTop (mkF m 153 #[oi p0, oi p1, oi p2, oi p3, oi 2, oi 2, oi u6, oi u7, oi u8, oi u9, oi m10, oi m11, oR a1_221, oR a1_222, oR b224, oi 0, .unset, .unset, .unset] [])) (fun _ k => XS.istore X227.here hx rfl (hb hby at_151) rfl (l' := #[oi p0, oi p1, oi p2, oi p3, oi 2, oi 2, oi u6, oi u7, oi u8, oi u9, oi m10, oi m11, oR a1_221, oR a1_222, oR b224, oi 0, .unset, .unset, .unset]) rfl k) ?_
              refine own_go (st' := T227.setTop (mkF m 155 #[oi p0, oi p1, oi p2, oi p3, oi 2, oi 2, oi u6, oi u7, oi u8, oi u9, oi m10, oi m11, oR a1_221, oR a1_222, oR b224, oi 0, .unset, .unset, .unset] [(.int (0 : Int32))])) (fun _ k => XS.iload X227.here hx rfl (hb hby at_153) rfl k) ?_
              have hc231 : (0 : Int32) = (0 : Int32) := by decide
              refine own_go (st' := T227.setTop (mkF m 158 #[oi p0, oi p1, oi p2, oi p3, oi 2, oi 2, oi u6, oi u7, oi u8, oi u9, oi m10, oi m11, oR a1_221, oR a1_222, oR b224, oi 0, .unset, .unset, .unset] [])) (fun _ k => XS.ifNo X227.here hx rfl (hb hby at_155) rfl ((if0 _ _).trans (teq hc231).2) k) ?_
              obtain ⟨T232, h232, X232, e232, E232, A232, D232, -, st232⟩ := newO X227 hx hZ hown (own_hw hw 35) (own_hw hw 36) (own_hw hw 37) e227 (g := (mkF m 158 #[oi p0, oi p1, oi p2, oi p3, oi 2, oi 2, oi u6, oi u7, oi u8, oi u9, oi m10, oi m11, oR a1_221, oR a1_222, oR b224, oi 0, .unset, .unset, .unset] [])) rfl (hb hby at_158) (by decide) (by decide)
              obtain ⟨b232, g232⟩ : ∃ z, z = h227.size := ⟨_, rfl⟩
              rw [← g232] at A232 D232 st232
              have sz232 : h227.size ≤ h232.size := E232.1
              have lt232 : @LT.lt Nat _ b232 h232.size := A232.lt
              have f233 : Fld Z h232 b232 oS1 "topic" oS2 .null := D232 (Or.inr (own_hw hw 58)) (ty := (.object oS0)) (by decide)
              have f234 : Fld Z h232 b232 oS1 "number" "I" (.int (0 : Int32)) := D232 (Or.inr (own_hw hw 60)) (ty := .int) (by decide)
              refine own_go (st' := T232.setTop (mkF m 161 #[oi p0, oi p1, oi p2, oi p3, oi 2, oi 2, oi u6, oi u7, oi u8, oi u9, oi m10, oi m11, oR a1_221, oR a1_222, oR b224, oi 0, .unset, .unset, .unset] [(.ref b232)])) (st232) ?_
              refine own_go (st' := T232.setTop (mkF m 162 #[oi p0, oi p1, oi p2, oi p3, oi 2, oi 2, oi u6, oi u7, oi u8, oi u9, oi m10, oi m11, oR a1_221, oR a1_222, oR b224, oi 0, .unset, .unset, .unset] [(.ref b232), (.ref b232)])) (fun _ k => XS.dup X232.here hx rfl (hb hby at_161) rfl rfl k) ?_
              refine own_go (st' := T232.setTop (mkF m 164 #[oi p0, oi p1, oi p2, oi p3, oi 2, oi 2, oi u6, oi u7, oi u8, oi u9, oi m10, oi m11, oR a1_221, oR a1_222, oR b224, oi 0, .unset, .unset, .unset] [(.ref a1_222), (.ref b232), (.ref b232)])) (fun _ k => XS.aload X232.here hx rfl (hb hby at_162) rfl rfl k) ?_
              refine own_go (st' := T232.setTop (mkF m 166 #[oi p0, oi p1, oi p2, oi p3, oi 2, oi 2, oi u6, oi u7, oi u8, oi u9, oi m10, oi m11, oR a1_221, oR a1_222, oR b224, oi 0, .unset, .unset, .unset] [(.int m11), (.ref a1_222), (.ref b232), (.ref b232)])) (fun _ k => XS.iload X232.here hx rfl (hb hby at_164) rfl k) ?_
              have c236 : Exa Z h232 a1_222 oS0 := (((g222_0.ext E224).keep K227).ext E232)
              have c237 : Fld Z h232 a1_222 oS0 "value" "[B" (.ref r_222) := (((g222_1.ext E224).keep K227 (ninS (own_ne (by omega)) nin0)).ext E232)
              have c238 : Arv Z h232 r_222 kr_222 .byte (2 : Int32) [(.int (own_by u8)), (.int (own_by u9))] (.int (0 : Int32)) := (((g222_3.ext E224).keep K227 (ninS (own_ne (by omega)) nin0)).ext E232)
              obtain ⟨_, _, ⟨T235, LC235, kC235, nC235⟩, -, X235, hS235, hg235, ⟨Lc235, hQ235, lq235, yq235, zq235⟩, st235⟩ := X232.specialBackS hx (y := oM4) rfl hown (mvT hZ (own_hw hw 38)) (mvT hZ (own_hw hw 39)) (mvT hZ (own_hw hw 40)) (by decide) (backOfS (W := 1) (rti_2 l Z a0 hw [] b232 a1_222 r_222 kr_222 [(.int (own_by u8)), (.int (own_by u9))] m11 (0 : Int32) h232 n0 (by omega) A232 f233 f234 c236 c237 c238 (by omega) (own_ne (by omega)) (own_ne (by omega)) hp_m11) hZ (own_hw hw 40) (own_hw hw 37) (by decide) (by decide)) (g := (mkF m 166 #[oi p0, oi p1, oi p2, oi p3, oi 2, oi 2, oi u6, oi u7, oi u8, oi u9, oi m10, oi m11, oR a1_221, oR a1_222, oR b224, oi 0, .unset, .unset, .unset] [(.int m11), (.ref a1_222), (.ref b232), (.ref b232)])) rfl (by rw [hml]; rfl) (Steps.refl _) (a := b232) (argsL := [(.ref a1_222), (.int m11)]) (rest := [(.ref b232)]) (lenOf pd_13 rfl) rfl (by show 2 * 0 + _ ≤ _; exact Nat.le_of_eq rfl) (hb hby at_166) (fun _ _ => ⟨rfl, e232, (by decide : 10 + 2 ≤ _), (by decide : 44 + 24 ≤ _)⟩)
              dsimp only [Pt.U, Pt.locs, Pt.cells, Pt.slots] at X235 lq235 yq235 zq235 st235 hQ235
              subst lq235 yq235 zq235
              dsimp only [Pt.U, Pt.locs, Pt.cells, Pt.slots] at hS235 hg235
              obtain ⟨X235, hS235, hZ, hown⟩ := rebS hS227 (by rw [e232]; omega) X235 hS235 hg235 hZ hown
              obtain ⟨h235, e235⟩ : ∃ z, T235.heap = z := ⟨_, rfl⟩
              rw [e235] at hQ235 hS235
              obtain ⟨rfl, Nq235, K235, g235_0, g235_1, g235_2⟩ := hQ235
              have sz235 : h232.size ≤ h235.size := K235.1
              have N235 := Fr.app N227 Nq235
              have lt235_1 : @LT.lt Nat _ b232 h235.size := g235_0.lt
              refine own_go (st' := T235.setTop (mkF m 169 #[oi p0, oi p1, oi p2, oi p3, oi 2, oi 2, oi u6, oi u7, oi u8, oi u9, oi m10, oi m11, oR a1_221, oR a1_222, oR b224, oi 0, .unset, .unset, .unset] [(.ref b232)])) (fun _ k => st235.trans k) ?_
              refine own_go (st' := T235.setTop (mkF m 171 #[oi p0, oi p1, oi p2, oi p3, oi 2, oi 2, oi u6, oi u7, oi u8, oi u9, oi m10, oi m11, oR a1_221, oR a1_222, oR b224, oi 0, oR b232, .unset, .unset] [])) (fun _ k => XS.astore X235.here hx rfl (hb hby at_169) rfl rfl (l' := #[oi p0, oi p1, oi p2, oi p3, oi 2, oi 2, oi u6, oi u7, oi u8, oi u9, oi m10, oi m11, oR a1_221, oR a1_222, oR b224, oi 0, oR b232, .unset, .unset]) rfl k) ?_
              have J222_239 : ∀ (Tj239 : State) (lj239 : List Loc) (fx : Int32) (f17 : Int32) (vj239 : Vm) (kj239 : Nat) (Xj239 : Stand p l e room_1 (s.setVm vj239) m #[(.int p0), (.int p1), (.int p2), (.int p3)] below meth c Tj239 lj239 12 68) (ej239 : Tj239.heap = h235) (Nj239 : Fr n0 lj239) (hSj239 : s.Since vj239 kj239) (hkj239 : kj239 ≤ h235.size) (hZj239 : Z.Warmed39 (s.setVm vj239).vm) (hoj239 : (s.setVm vj239).vm.findClass oS3 = some m.cls) (hE1 : fx = own_tp m10 m11 (own_eq2 (own_by u6) (own_by u7) (own_by u8) (own_by u9))) (hE2 : fx = own_tp m11 m10 (own_eq2 (own_by u8) (own_by u9) (own_by u6) (own_by u7))), own_Go p.tables e below P (Tj239.setTop (mkF m 222 #[oi p0, oi p1, oi p2, oi p3, oi 2, oi 2, oi u6, oi u7, oi u8, oi u9, oi m10, oi m11, oR a1_221, oR a1_222, oR b224, oi 0, oR b232, oi f17, .unset] [(.int fx)])) := by
                intro Tj239 lj239 fx f17 vj239 kj239 Xj239 ej239 Nj239 hSj239 hkj239 hZ hown hE1 hE2
                refine own_go (st' := Tj239.setTop (mkF m 224 #[oi p0, oi p1, oi p2, oi p3, oi 2, oi 2, oi u6, oi u7, oi u8, oi u9, oi m10, oi m11, oR a1_221, oR a1_222, oR b224, oi 0, oR b232, oi f17, oi fx] [])) (fun _ k => XS.istore Xj239.here hx rfl (hb hby at_222) rfl (l' := #[oi p0, oi p1, oi p2, oi p3, oi 2, oi 2, oi u6, oi u7, oi u8, oi u9, oi m10, oi m11, oR a1_221, oR a1_222, oR b224, oi 0, oR b232, oi f17, oi fx]) rfl k) ?_
                refine own_go (st' := Tj239.setTop (mkF m 226 #[oi p0, oi p1, oi p2, oi p3, oi 2, oi 2, oi u6, oi u7, oi u8, oi u9, oi m10, oi m11, oR a1_221, oR a1_222, oR b224, oi 0, oR b232, oi f17, oi fx] [(.ref b224)])) (fun _ k => XS.aload Xj239.here hx rfl (hb hby at_224) rfl rfl k) ?_
                refine own_go (st' := Tj239.setTop (mkF m 228 #[oi p0, oi p1, oi p2, oi p3, oi 2, oi 2, oi u6, oi u7, oi u8, oi u9, oi m10, oi m11, oR a1_221, oR a1_222, oR b224, oi 0, oR b232, oi f17, oi fx] [(.ref b232), (.ref b224)])) (fun _ k => XS.aload Xj239.here hx rfl (hb hby at_226) rfl rfl k) ?_
                have c241 : Sta Z h235 oS0 oS4 "Z" (.int zc) := (own_sta_keep ((own_sta_keep ((own_sta_keep c223 K222 all0).ext E224) K227 (allS (P := fun x => ∀ c : Cell, h224[x]? = some c → c.vm.isStatics = false) (own_pl_exa A224) all0)).ext E232) K235 (allS (P := fun x => ∀ c : Cell, h232[x]? = some c → c.vm.isStatics = false) (own_pl_exa A232) all0))
                have c242 : Exa Z h235 b224 oS1 := ((g227_0.ext E232).keep K235)
                have c243 : Fld Z h235 b224 oS1 "topic" oS2 (.ref a1_221) := ((g227_1.ext E232).keep K235 (ninS (own_ne (by omega)) nin0))
                have c244 : Fld Z h235 b224 oS1 "number" "I" (.int m10) := ((g227_2.ext E232).keep K235 (ninS (own_ne (by omega)) nin0))
                have c245 : Exa Z h235 a1_221 oS0 := (((c228.keep K227).ext E232).keep K235)
                have c246 : Fld Z h235 a1_221 oS0 "value" "[B" (.ref r_221) := (((c229.keep K227 (ninS (own_ne (by omega)) nin0)).ext E232).keep K235 (ninS (own_ne (by omega)) nin0))
                have c247 : Fld Z h235 a1_221 oS0 "coder" "B" (.int (0 : Int32)) := (((((g221_2.keep K222 nin0).ext E224).keep K227 (ninS (own_ne (by omega)) nin0)).ext E232).keep K235 (ninS (own_ne (by omega)) nin0))
                have c248 : Exa Z h235 a1_222 oS0 := (c236.keep K235)
                have c249 : Fld Z h235 a1_222 oS0 "value" "[B" (.ref r_222) := (c237.keep K235 (ninS (own_ne (by omega)) nin0))
                have c250 : Fld Z h235 a1_222 oS0 "coder" "B" (.int (0 : Int32)) := ((((g222_2.ext E224).keep K227 (ninS (own_ne (by omega)) nin0)).ext E232).keep K235 (ninS (own_ne (by omega)) nin0))
                have c251 : Arv Z h235 r_221 kr_221 .byte (2 : Int32) [(.int (own_by u6)), (.int (own_by u7))] (.int (0 : Int32)) := (((c230.keep K227 (ninS (own_ne (by omega)) nin0)).ext E232).keep K235 (ninS (own_ne (by omega)) nin0))
                have c252 : Arv Z h235 r_222 kr_222 .byte (2 : Int32) [(.int (own_by u8)), (.int (own_by u9))] (.int (0 : Int32)) := (c238.keep K235 (ninS (own_ne (by omega)) nin0))
                obtain ⟨cq240, kq240, q240a, q240b, q240c⟩ := isOf hZ ej239 c242
                obtain ⟨_, _, ⟨T240, LC240, kC240, nC240⟩, -, X240, ⟨Lc240, hQ240, lq240, yq240, zq240⟩, st240⟩ := Xj239.virtualBack hx (y := oM0) (z := oM0) hown (mvT hZ (own_hw hw 61)) (mvT hZ (own_hw hw 62)) (notFace_of_selects (args := #[]) (mvT hZ (own_hw hw 64))) (mvT hZ (own_hw hw 64)) (mvT hZ (own_hw hw 63)) (by decide) (backOf (W := 0) (rte_22 l Z a0 hw [] b224 b232 a1_221 a1_222 m10 m11 zc r_221 kr_221 r_222 kr_222 (own_by u6) (own_by u7) (own_by u8) (own_by u9) h235 n0 (by omega) c241 (by assumption) c242 c243 c244 g235_0 g235_1 g235_2 (own_ne (by omega)) c245 c246 c247 c248 c249 c250 c251 c252) hZ (own_hw hw 65) (own_hw hw 37) (by decide) (by decide)) q240a q240c (g := (mkF m 228 #[oi p0, oi p1, oi p2, oi p3, oi 2, oi 2, oi u6, oi u7, oi u8, oi u9, oi m10, oi m11, oR a1_221, oR a1_222, oR b224, oi 0, oR b232, oi f17, oi fx] [(.ref b232), (.ref b224)])) rfl (by rw [hml]; rfl) (Steps.refl _) (argsL := [(.ref b232)]) (rest := []) (lenOf pd_11 rfl) rfl (by show 2 * 0 + _ ≤ _; exact Nat.le_of_eq rfl) (hb hby at_228) (fun _ _ => ⟨rfl, ej239, (by decide : 12 + 0 ≤ _), (by decide : 68 + 0 ≤ _)⟩)
                dsimp only [Pt.U, Pt.locs, Pt.cells, Pt.slots] at X240 lq240 yq240 zq240 st240 hQ240
                subst lq240 yq240 zq240
                obtain ⟨rfl, Nq240, eq240⟩ := hQ240
                have N240 := Fr.app Nj239 Nq240
                refine own_go (st' := T240.setTop (mkF m 231 #[oi p0, oi p1, oi p2, oi p3, oi 2, oi 2, oi u6, oi u7, oi u8, oi u9, oi m10, oi m11, oR a1_221, oR a1_222, oR b224, oi 0, oR b232, oi f17, oi fx] [(.int (own_tp m10 m11 (own_eq2 (own_by u6) (own_by u7) (own_by u8) (own_by u9))))])) (fun _ k => st240.trans k) ?_
                refine own_go (st' := T240.setTop (mkF m 233 #[oi p0, oi p1, oi p2, oi p3, oi 2, oi 2, oi u6, oi u7, oi u8, oi u9, oi m10, oi m11, oR a1_221, oR a1_222, oR b224, oi 0, oR b232, oi f17, oi fx] [(.int fx), (.int (own_tp m10 m11 (own_eq2 (own_by u6) (own_by u7) (own_by u8) (own_by u9))))])) (fun _ k => XS.iload X240.here hx rfl (hb hby at_231) rfl k) ?_
                have hc253 : (own_tp m10 m11 (own_eq2 (own_by u6) (own_by u7) (own_by u8) (own_by u9))) = fx := hE1.symm
                refine own_go (st' := T240.setTop (mkF m 236 #[oi p0, oi p1, oi p2, oi p3, oi 2, oi 2, oi u6, oi u7, oi u8, oi u9, oi m10, oi m11, oR a1_221, oR a1_222, oR b224, oi 0, oR b232, oi f17, oi fx] [])) (fun _ k => XS.icmpNo X240.here hx rfl (hb hby at_233) rfl (teq hc253).2 k) ?_
                refine own_go (st' := T240.setTop (mkF m 238 #[oi p0, oi p1, oi p2, oi p3, oi 2, oi 2, oi u6, oi u7, oi u8, oi u9, oi m10, oi m11, oR a1_221, oR a1_222, oR b224, oi 0, oR b232, oi f17, oi fx] [(.ref b232)])) (fun _ k => XS.aload X240.here hx rfl (hb hby at_236) rfl rfl k) ?_
                refine own_go (st' := T240.setTop (mkF m 240 #[oi p0, oi p1, oi p2, oi p3, oi 2, oi 2, oi u6, oi u7, oi u8, oi u9, oi m10, oi m11, oR a1_221, oR a1_222, oR b224, oi 0, oR b232, oi f17, oi fx] [(.ref b224), (.ref b232)])) (fun _ k => XS.aload X240.here hx rfl (hb hby at_238) rfl rfl k) ?_
                obtain ⟨cq254, kq254, q254a, q254b, q254c⟩ := isOf hZ eq240 g235_0
                obtain ⟨_, _, ⟨T254, LC254, kC254, nC254⟩, -, X254, ⟨Lc254, hQ254, lq254, yq254, zq254⟩, st254⟩ := X240.virtualBack hx (y := oM0) (z := oM0) hown (mvT hZ (own_hw hw 61)) (mvT hZ (own_hw hw 62)) (notFace_of_selects (args := #[]) (mvT hZ (own_hw hw 64))) (mvT hZ (own_hw hw 64)) (mvT hZ (own_hw hw 63)) (by decide) (backOf (W := 0) (rte_22 l Z a0 hw [] b232 b224 a1_222 a1_221 m11 m10 zc r_222 kr_222 r_221 kr_221 (own_by u8) (own_by u9) (own_by u6) (own_by u7) h235 n0 (by omega) c241 (by assumption) g235_0 g235_1 g235_2 c242 c243 c244 (own_ne (by omega)) c248 c249 c250 c245 c246 c247 c252 c251) hZ (own_hw hw 65) (own_hw hw 37) (by decide) (by decide)) q254a q254c (g := (mkF m 240 #[oi p0, oi p1, oi p2, oi p3, oi 2, oi 2, oi u6, oi u7, oi u8, oi u9, oi m10, oi m11, oR a1_221, oR a1_222, oR b224, oi 0, oR b232, oi f17, oi fx] [(.ref b224), (.ref b232)])) rfl (by rw [hml]; rfl) (Steps.refl _) (argsL := [(.ref b224)]) (rest := []) (lenOf pd_11 rfl) rfl (by show 2 * 0 + _ ≤ _; exact Nat.le_of_eq rfl) (hb hby at_240) (fun _ _ => ⟨rfl, eq240, (by decide : 12 + 0 ≤ _), (by decide : 68 + 0 ≤ _)⟩)
                dsimp only [Pt.U, Pt.locs, Pt.cells, Pt.slots] at X254 lq254 yq254 zq254 st254 hQ254
                subst lq254 yq254 zq254
                obtain ⟨rfl, Nq254, eq254⟩ := hQ254
                have N254 := Fr.app N240 Nq254
                refine own_go (st' := T254.setTop (mkF m 243 #[oi p0, oi p1, oi p2, oi p3, oi 2, oi 2, oi u6, oi u7, oi u8, oi u9, oi m10, oi m11, oR a1_221, oR a1_222, oR b224, oi 0, oR b232, oi f17, oi fx] [(.int (own_tp m11 m10 (own_eq2 (own_by u8) (own_by u9) (own_by u6) (own_by u7))))])) (fun _ k => st254.trans k) ?_
                refine own_go (st' := T254.setTop (mkF m 245 #[oi p0, oi p1, oi p2, oi p3, oi 2, oi 2, oi u6, oi u7, oi u8, oi u9, oi m10, oi m11, oR a1_221, oR a1_222, oR b224, oi 0, oR b232, oi f17, oi fx] [(.int fx), (.int (own_tp m11 m10 (own_eq2 (own_by u8) (own_by u9) (own_by u6) (own_by u7))))])) (fun _ k => XS.iload X254.here hx rfl (hb hby at_243) rfl k) ?_
                have hc255 : (own_tp m11 m10 (own_eq2 (own_by u8) (own_by u9) (own_by u6) (own_by u7))) = fx := hE2.symm
                refine own_go (st' := T254.setTop (mkF m 248 #[oi p0, oi p1, oi p2, oi p3, oi 2, oi 2, oi u6, oi u7, oi u8, oi u9, oi m10, oi m11, oR a1_221, oR a1_222, oR b224, oi 0, oR b232, oi f17, oi fx] [])) (fun _ k => XS.icmpNo X254.here hx rfl (hb hby at_245) rfl (teq hc255).2 k) ?_
                refine own_go (st' := T254.setTop (mkF m 249 #[oi p0, oi p1, oi p2, oi p3, oi 2, oi 2, oi u6, oi u7, oi u8, oi u9, oi m10, oi m11, oR a1_221, oR a1_222, oR b224, oi 0, oR b232, oi f17, oi fx] [(.int (1 : Int32))])) (fun _ k => XS.iconst X254.here hx rfl (hb hby at_248) k) ?_
                refine own_go (st' := T254.setTop (mkF m 253 #[oi p0, oi p1, oi p2, oi p3, oi 2, oi 2, oi u6, oi u7, oi u8, oi u9, oi m10, oi m11, oR a1_221, oR a1_222, oR b224, oi 0, oR b232, oi f17, oi fx] [(.int (1 : Int32))])) (fun _ k => XS.goto X254.here hx rfl (pc0 := 249) (pc' := 253) rfl (hb hby at_249) (by decide) (by decide) k) ?_
                obtain ⟨fs, hr, hrun, hended, hR1, hR2, hR3, hR4⟩ := X254.leaveW hSj239 (by rw [eq254]; omega) (v := some (.int (1 : Int32))) (fun h => by rw [Bd.returns] at h; cases h)
                refine ⟨_, _, ?_, hP _ _ hrun hended ⟨_, _, rfl, ?_, hR1, hR2, hR3, hR4.mono (by decide) (by decide)⟩⟩
                · exact retN X254 hx (t := .boolean) Bd.returns (by simp) (hb hby at_253) hr
                · show Qrm0 Z p0 p1 p2 p3 ca zc h0 n0 _ T254.heap _
                  rw [eq254]
                  exact ⟨rfl, N254, trivial⟩
              refine own_go (st' := T235.setTop (mkF m 173 #[oi p0, oi p1, oi p2, oi p3, oi 2, oi 2, oi u6, oi u7, oi u8, oi u9, oi m10, oi m11, oR a1_221, oR a1_222, oR b224, oi 0, oR b232, .unset, .unset] [(.int (2 : Int32))])) (fun _ k => XS.iload X235.here hx rfl (hb hby at_171) rfl k) ?_
              refine own_go (st' := T235.setTop (mkF m 175 #[oi p0, oi p1, oi p2, oi p3, oi 2, oi 2, oi u6, oi u7, oi u8, oi u9, oi m10, oi m11, oR a1_221, oR a1_222, oR b224, oi 0, oR b232, .unset, .unset] [(.int (2 : Int32)), (.int (2 : Int32))])) (fun _ k => XS.iload X235.here hx rfl (hb hby at_173) rfl k) ?_
              have hc257 : (2 : Int32) = (2 : Int32) := by decide
              refine own_go (st' := T235.setTop (mkF m 178 #[oi p0, oi p1, oi p2, oi p3, oi 2, oi 2, oi u6, oi u7, oi u8, oi u9, oi m10, oi m11, oR a1_221, oR a1_222, oR b224, oi 0, oR b232, .unset, .unset] [])) (fun _ k => XS.icmpNo X235.here hx rfl (hb hby at_175) rfl (teq hc257).2 k) ?_
              refine own_go (st' := T235.setTop (mkF m 180 #[oi p0, oi p1, oi p2, oi p3, oi 2, oi 2, oi u6, oi u7, oi u8, oi u9, oi m10, oi m11, oR a1_221, oR a1_222, oR b224, oi 0, oR b232, .unset, .unset] [(.int u6)])) (fun _ k => XS.iload X235.here hx rfl (hb hby at_178) rfl k) ?_
              refine own_go (st' := T235.setTop (mkF m 182 #[oi p0, oi p1, oi p2, oi p3, oi 2, oi 2, oi u6, oi u7, oi u8, oi u9, oi m10, oi m11, oR a1_221, oR a1_222, oR b224, oi 0, oR b232, .unset, .unset] [(.int u8), (.int u6)])) (fun _ k => XS.iload X235.here hx rfl (hb hby at_180) rfl k) ?_
              by_cases hc258 : u6 = u8
              · --
                refine own_go (st' := T235.setTop (mkF m 185 #[oi p0, oi p1, oi p2, oi p3, oi 2, oi 2, oi u6, oi u7, oi u8, oi u9, oi m10, oi m11, oR a1_221, oR a1_222, oR b224, oi 0, oR b232, .unset, .unset] [])) (fun _ k => XS.icmpNo X235.here hx rfl (hb hby at_182) rfl (teq hc258).2 k) ?_
                refine own_go (st' := T235.setTop (mkF m 187 #[oi p0, oi p1, oi p2, oi p3, oi 2, oi 2, oi u6, oi u7, oi u8, oi u9, oi m10, oi m11, oR a1_221, oR a1_222, oR b224, oi 0, oR b232, .unset, .unset] [(.int (2 : Int32))])) (fun _ k => XS.iload X235.here hx rfl (hb hby at_185) rfl k) ?_
                refine own_go (st' := T235.setTop (mkF m 188 #[oi p0, oi p1, oi p2, oi p3, oi 2, oi 2, oi u6, oi u7, oi u8, oi u9, oi m10, oi m11, oR a1_221, oR a1_222, oR b224, oi 0, oR b232, .unset, .unset] [(.int (1 : Int32)), (.int (2 : Int32))])) (fun _ k => XS.iconst X235.here hx rfl (hb hby at_187) k) ?_
                have hc259 : ¬ ((2 : Int32) = (1 : Int32)) := by decide
                refine own_go (st' := T235.setTop (mkF m 191 #[oi p0, oi p1, oi p2, oi p3, oi 2, oi 2, oi u6, oi u7, oi u8, oi u9, oi m10, oi m11, oR a1_221, oR a1_222, oR b224, oi 0, oR b232, .unset, .unset] [])) (fun _ k => XS.icmpNo X235.here hx rfl (hb hby at_188) rfl (feq hc259).1 k) ?_
                refine own_go (st' := T235.setTop (mkF m 193 #[oi p0, oi p1, oi p2, oi p3, oi 2, oi 2, oi u6, oi u7, oi u8, oi u9, oi m10, oi m11, oR a1_221, oR a1_222, oR b224, oi 0, oR b232, .unset, .unset] [(.int u7)])) (fun _ k => XS.iload X235.here hx rfl (hb hby at_191) rfl k) ?_
                refine own_go (st' := T235.setTop (mkF m 195 #[oi p0, oi p1, oi p2, oi p3, oi 2, oi 2, oi u6, oi u7, oi u8, oi u9, oi m10, oi m11, oR a1_221, oR a1_222, oR b224, oi 0, oR b232, .unset, .unset] [(.int u9), (.int u7)])) (fun _ k => XS.iload X235.here hx rfl (hb hby at_193) rfl k) ?_
                by_cases hc260 : u7 = u9
                · --
                  refine own_go (st' := T235.setTop (mkF m 198 #[oi p0, oi p1, oi p2, oi p3, oi 2, oi 2, oi u6, oi u7, oi u8, oi u9, oi m10, oi m11, oR a1_221, oR a1_222, oR b224, oi 0, oR b232, .unset, .unset] [])) (fun _ k => XS.icmpNo X235.here hx rfl (hb hby at_195) rfl (teq hc260).2 k) ?_
                  refine own_go (st' := T235.setTop (mkF m 199 #[oi p0, oi p1, oi p2, oi p3, oi 2, oi 2, oi u6, oi u7, oi u8, oi u9, oi m10, oi m11, oR a1_221, oR a1_222, oR b224, oi 0, oR b232, .unset, .unset] [(.int (1 : Int32))])) (fun _ k => XS.iconst X235.here hx rfl (hb hby at_198) k) ?_
                  refine own_go (st' := T235.setTop (mkF m 203 #[oi p0, oi p1, oi p2, oi p3, oi 2, oi 2, oi u6, oi u7, oi u8, oi u9, oi m10, oi m11, oR a1_221, oR a1_222, oR b224, oi 0, oR b232, .unset, .unset] [(.int (1 : Int32))])) (fun _ k => XS.goto X235.here hx rfl (pc0 := 199) (pc' := 203) rfl (hb hby at_199) (by decide) (by decide) k) ?_
                  refine own_go (st' := T235.setTop (mkF m 205 #[oi p0, oi p1, oi p2, oi p3, oi 2, oi 2, oi u6, oi u7, oi u8, oi u9, oi m10, oi m11, oR a1_221, oR a1_222, oR b224, oi 0, oR b232, oi 1, .unset] [])) (fun _ k => XS.istore X235.here hx rfl (hb hby at_203) rfl (l' := #[oi p0, oi p1, oi p2, oi p3, oi 2, oi 2, oi u6, oi u7, oi u8, oi u9, oi m10, oi m11, oR a1_221, oR a1_222, oR b224, oi 0, oR b232, oi 1, .unset]) rfl k) ?_
                  refine own_go (st' := T235.setTop (mkF m 207 #[oi p0, oi p1, oi p2, oi p3, oi 2, oi 2, oi u6, oi u7, oi u8, oi u9, oi m10, oi m11, oR a1_221, oR a1_222, oR b224, oi 0, oR b232, oi 1, .unset] [(.int (1 : Int32))])) (fun _ k => XS.iload X235.here hx rfl (hb hby at_205) rfl k) ?_
                  have hc261 : ¬ ((1 : Int32) = (0 : Int32)) := by decide
                  refine own_go (st' := T235.setTop (mkF m 210 #[oi p0, oi p1, oi p2, oi p3, oi 2, oi 2, oi u6, oi u7, oi u8, oi u9, oi m10, oi m11, oR a1_221, oR a1_222, oR b224, oi 0, oR b232, oi 1, .unset] [])) (fun _ k => XS.ifNo X235.here hx rfl (hb hby at_207) rfl ((if0 _ _).trans (feq hc261).1) k) ?_
                  refine own_go (st' := T235.setTop (mkF m 212 #[oi p0, oi p1, oi p2, oi p3, oi 2, oi 2, oi u6, oi u7, oi u8, oi u9, oi m10, oi m11, oR a1_221, oR a1_222, oR b224, oi 0, oR b232, oi 1, .unset] [(.int m10)])) (fun _ k => XS.iload X235.here hx rfl (hb hby at_210) rfl k) ?_
                  refine own_go (st' := T235.setTop (mkF m 214 #[oi p0, oi p1, oi p2, oi p3, oi 2, oi 2, oi u6, oi u7, oi u8, oi u9, oi m10, oi m11, oR a1_221, oR a1_222, oR b224, oi 0, oR b232, oi 1, .unset] [(.int m11), (.int m10)])) (fun _ k => XS.iload X235.here hx rfl (hb hby at_212) rfl k) ?_
                  by_cases hc262 : m10 = m11
                  · --
                    refine own_go (st' := T235.setTop (mkF m 217 #[oi p0, oi p1, oi p2, oi p3, oi 2, oi 2, oi u6, oi u7, oi u8, oi u9, oi m10, oi m11, oR a1_221, oR a1_222, oR b224, oi 0, oR b232, oi 1, .unset] [])) (fun _ k => XS.icmpNo X235.here hx rfl (hb hby at_214) rfl (teq hc262).2 k) ?_
                    refine own_go (st' := T235.setTop (mkF m 218 #[oi p0, oi p1, oi p2, oi p3, oi 2, oi 2, oi u6, oi u7, oi u8, oi u9, oi m10, oi m11, oR a1_221, oR a1_222, oR b224, oi 0, oR b232, oi 1, .unset] [(.int (1 : Int32))])) (fun _ k => XS.iconst X235.here hx rfl (hb hby at_217) k) ?_
                    refine own_go (st' := T235.setTop (mkF m 222 #[oi p0, oi p1, oi p2, oi p3, oi 2, oi 2, oi u6, oi u7, oi u8, oi u9, oi m10, oi m11, oR a1_221, oR a1_222, oR b224, oi 0, oR b232, oi 1, .unset] [(.int (1 : Int32))])) (fun _ k => XS.goto X235.here hx rfl (pc0 := 218) (pc' := 222) rfl (hb hby at_218) (by decide) (by decide) k) ?_
                    exact J222_239 _ _ (1 : Int32) (1 : Int32) _ _ X235 e235 N235 hS235 (by omega) hZ hown (by simp [own_tp, own_eq2, own_by_iff hl_u6 hl_u8, own_by_iff hl_u8 hl_u6, own_by_iff hl_u7 hl_u9, own_by_iff hl_u9 hl_u7, hc258, hc260, hc262]) (by simp [own_tp, own_eq2, own_by_iff hl_u6 hl_u8, own_by_iff hl_u8 hl_u6, own_by_iff hl_u7 hl_u9, own_by_iff hl_u9 hl_u7, hc258, hc260, hc262])
                  · --
                    refine own_go (st' := T235.setTop (mkF m 221 #[oi p0, oi p1, oi p2, oi p3, oi 2, oi 2, oi u6, oi u7, oi u8, oi u9, oi m10, oi m11, oR a1_221, oR a1_222, oR b224, oi 0, oR b232, oi 1, .unset] [])) (fun _ k => XS.icmpYes X235.here hx rfl (pc0 := 214) (pc' := 221) rfl (hb hby at_214) rfl (feq hc262).2 (by decide) (by decide) k) ?_
                    refine own_go (st' := T235.setTop (mkF m 222 #[oi p0, oi p1, oi p2, oi p3, oi 2, oi 2, oi u6, oi u7, oi u8, oi u9, oi m10, oi m11, oR a1_221, oR a1_222, oR b224, oi 0, oR b232, oi 1, .unset] [(.int (0 : Int32))])) (fun _ k => XS.iconst X235.here hx rfl (hb hby at_221) k) ?_
                    exact J222_239 _ _ (0 : Int32) (1 : Int32) _ _ X235 e235 N235 hS235 (by omega) hZ hown (by simp [own_tp, own_eq2, own_by_iff hl_u6 hl_u8, own_by_iff hl_u8 hl_u6, own_by_iff hl_u7 hl_u9, own_by_iff hl_u9 hl_u7, hc258, hc260, hc262, (Ne.symm hc262)]) (by simp [own_tp, own_eq2, own_by_iff hl_u6 hl_u8, own_by_iff hl_u8 hl_u6, own_by_iff hl_u7 hl_u9, own_by_iff hl_u9 hl_u7, hc258, hc260, hc262, (Ne.symm hc262)])
                · --
                  refine own_go (st' := T235.setTop (mkF m 202 #[oi p0, oi p1, oi p2, oi p3, oi 2, oi 2, oi u6, oi u7, oi u8, oi u9, oi m10, oi m11, oR a1_221, oR a1_222, oR b224, oi 0, oR b232, .unset, .unset] [])) (fun _ k => XS.icmpYes X235.here hx rfl (pc0 := 195) (pc' := 202) rfl (hb hby at_195) rfl (feq hc260).2 (by decide) (by decide) k) ?_
                  refine own_go (st' := T235.setTop (mkF m 203 #[oi p0, oi p1, oi p2, oi p3, oi 2, oi 2, oi u6, oi u7, oi u8, oi u9, oi m10, oi m11, oR a1_221, oR a1_222, oR b224, oi 0, oR b232, .unset, .unset] [(.int (0 : Int32))])) (fun _ k => XS.iconst X235.here hx rfl (hb hby at_202) k) ?_
                  refine own_go (st' := T235.setTop (mkF m 205 #[oi p0, oi p1, oi p2, oi p3, oi 2, oi 2, oi u6, oi u7, oi u8, oi u9, oi m10, oi m11, oR a1_221, oR a1_222, oR b224, oi 0, oR b232, oi 0, .unset] [])) (fun _ k => XS.istore X235.here hx rfl (hb hby at_203) rfl (l' := #[oi p0, oi p1, oi p2, oi p3, oi 2, oi 2, oi u6, oi u7, oi u8, oi u9, oi m10, oi m11, oR a1_221, oR a1_222, oR b224, oi 0, oR b232, oi 0, .unset]) rfl k) ?_
                  refine own_go (st' := T235.setTop (mkF m 207 #[oi p0, oi p1, oi p2, oi p3, oi 2, oi 2, oi u6, oi u7, oi u8, oi u9, oi m10, oi m11, oR a1_221, oR a1_222, oR b224, oi 0, oR b232, oi 0, .unset] [(.int (0 : Int32))])) (fun _ k => XS.iload X235.here hx rfl (hb hby at_205) rfl k) ?_
                  have hc263 : (0 : Int32) = (0 : Int32) := by decide
                  refine own_go (st' := T235.setTop (mkF m 221 #[oi p0, oi p1, oi p2, oi p3, oi 2, oi 2, oi u6, oi u7, oi u8, oi u9, oi m10, oi m11, oR a1_221, oR a1_222, oR b224, oi 0, oR b232, oi 0, .unset] [])) (fun _ k => XS.ifYes X235.here hx rfl (pc0 := 207) (pc' := 221) rfl (hb hby at_207) rfl ((if0 _ _).trans (teq hc263).1) (by decide) (by decide) k) ?_
                  refine own_go (st' := T235.setTop (mkF m 222 #[oi p0, oi p1, oi p2, oi p3, oi 2, oi 2, oi u6, oi u7, oi u8, oi u9, oi m10, oi m11, oR a1_221, oR a1_222, oR b224, oi 0, oR b232, oi 0, .unset] [(.int (0 : Int32))])) (fun _ k => XS.iconst X235.here hx rfl (hb hby at_221) k) ?_
                  exact J222_239 _ _ (0 : Int32) (0 : Int32) _ _ X235 e235 N235 hS235 (by omega) hZ hown (by simp [own_tp, own_eq2, own_by_iff hl_u6 hl_u8, own_by_iff hl_u8 hl_u6, own_by_iff hl_u7 hl_u9, own_by_iff hl_u9 hl_u7, hc258, hc260, (Ne.symm hc260)]) (by simp [own_tp, own_eq2, own_by_iff hl_u6 hl_u8, own_by_iff hl_u8 hl_u6, own_by_iff hl_u7 hl_u9, own_by_iff hl_u9 hl_u7, hc258, hc260, (Ne.symm hc260)])
              · --
                refine own_go (st' := T235.setTop (mkF m 202 #[oi p0, oi p1, oi p2, oi p3, oi 2, oi 2, oi u6, oi u7, oi u8, oi u9, oi m10, oi m11, oR a1_221, oR a1_222, oR b224, oi 0, oR b232, .unset, .unset] [])) (fun _ k => XS.icmpYes X235.here hx rfl (pc0 := 182) (pc' := 202) rfl (hb hby at_182) rfl (feq hc258).2 (by decide) (by decide) k) ?_
                refine own_go (st' := T235.setTop (mkF m 203 #[oi p0, oi p1, oi p2, oi p3, oi 2, oi 2, oi u6, oi u7, oi u8, oi u9, oi m10, oi m11, oR a1_221, oR a1_222, oR b224, oi 0, oR b232, .unset, .unset] [(.int (0 : Int32))])) (fun _ k => XS.iconst X235.here hx rfl (hb hby at_202) k) ?_
                refine own_go (st' := T235.setTop (mkF m 205 #[oi p0, oi p1, oi p2, oi p3, oi 2, oi 2, oi u6, oi u7, oi u8, oi u9, oi m10, oi m11, oR a1_221, oR a1_222, oR b224, oi 0, oR b232, oi 0, .unset] [])) (fun _ k => XS.istore X235.here hx rfl (hb hby at_203) rfl (l' := #[oi p0, oi p1, oi p2, oi p3, oi 2, oi 2, oi u6, oi u7, oi u8, oi u9, oi m10, oi m11, oR a1_221, oR a1_222, oR b224, oi 0, oR b232, oi 0, .unset]) rfl k) ?_
                refine own_go (st' := T235.setTop (mkF m 207 #[oi p0, oi p1, oi p2, oi p3, oi 2, oi 2, oi u6, oi u7, oi u8, oi u9, oi m10, oi m11, oR a1_221, oR a1_222, oR b224, oi 0, oR b232, oi 0, .unset] [(.int (0 : Int32))])) (fun _ k => XS.iload X235.here hx rfl (hb hby at_205) rfl k) ?_
                have hc264 : (0 : Int32) = (0 : Int32) := by decide
                refine own_go (st' := T235.setTop (mkF m 221 #[oi p0, oi p1, oi p2, oi p3, oi 2, oi 2, oi u6, oi u7, oi u8, oi u9, oi m10, oi m11, oR a1_221, oR a1_222, oR b224, oi 0, oR b232, oi 0, .unset] [])) (fun _ k => XS.ifYes X235.here hx rfl (pc0 := 207) (pc' := 221) rfl (hb hby at_207) rfl ((if0 _ _).trans (teq hc264).1) (by decide) (by decide) k) ?_
                refine own_go (st' := T235.setTop (mkF m 222 #[oi p0, oi p1, oi p2, oi p3, oi 2, oi 2, oi u6, oi u7, oi u8, oi u9, oi m10, oi m11, oR a1_221, oR a1_222, oR b224, oi 0, oR b232, oi 0, .unset] [(.int (0 : Int32))])) (fun _ k => XS.iconst X235.here hx rfl (hb hby at_221) k) ?_
                exact J222_239 _ _ (0 : Int32) (0 : Int32) _ _ X235 e235 N235 hS235 (by omega) hZ hown (by simp [own_tp, own_eq2, own_by_iff hl_u6 hl_u8, own_by_iff hl_u8 hl_u6, own_by_iff hl_u7 hl_u9, own_by_iff hl_u9 hl_u7, hc258, (Ne.symm hc258)]) (by simp [own_tp, own_eq2, own_by_iff hl_u6 hl_u8, own_by_iff hl_u8 hl_u6, own_by_iff hl_u7 hl_u9, own_by_iff hl_u9 hl_u7, hc258, (Ne.symm hc258)])
            · --
              refine own_go (st' := T227.setTop (mkF m 153 #[oi p0, oi p1, oi p2, oi p3, oi 2, oi 2, oi u6, oi u7, oi u8, oi u9, oi m10, oi m11, oR a1_221, oR a1_222, oR b224, oi 1, .unset, .unset, .unset] [])) (fun _ k => XS.istore X227.here hx rfl (hb hby at_151) rfl (l' := #[oi p0, oi p1, oi p2, oi p3, oi 2, oi 2, oi u6, oi u7, oi u8, oi u9, oi m10, oi m11, oR a1_221, oR a1_222, oR b224, oi 1, .unset, .unset, .unset]) rfl k) ?_
              refine own_go (st' := T227.setTop (mkF m 155 #[oi p0, oi p1, oi p2, oi p3, oi 2, oi 2, oi u6, oi u7, oi u8, oi u9, oi m10, oi m11, oR a1_221, oR a1_222, oR b224, oi 1, .unset, .unset, .unset] [(.int (1 : Int32))])) (fun _ k => XS.iload X227.here hx rfl (hb hby at_153) rfl k) ?_
              have hc265 : ¬ ((1 : Int32) = (0 : Int32)) := by decide
              refine own_go (st' := T227.setTop (mkF m 254 #[oi p0, oi p1, oi p2, oi p3, oi 2, oi 2, oi u6, oi u7, oi u8, oi u9, oi m10, oi m11, oR a1_221, oR a1_222, oR b224, oi 1, .unset, .unset, .unset] [])) (fun _ k => XS.ifYes X227.here hx rfl (pc0 := 155) (pc' := 254) rfl (hb hby at_155) rfl ((if0 _ _).trans (feq hc265).2) (by decide) (by decide) k) ?_
              refine own_go (st' := T227.setTop (mkF m 256 #[oi p0, oi p1, oi p2, oi p3, oi 2, oi 2, oi u6, oi u7, oi u8, oi u9, oi m10, oi m11, oR a1_221, oR a1_222, oR b224, oi 1, .unset, .unset, .unset] [(.int (1 : Int32))])) (fun _ k => XS.iload X227.here hx rfl (hb hby at_254) rfl k) ?_
              refine own_go (st' := T227.setTop (mkF m 257 #[oi p0, oi p1, oi p2, oi p3, oi 2, oi 2, oi u6, oi u7, oi u8, oi u9, oi m10, oi m11, oR a1_221, oR a1_222, oR b224, oi 1, .unset, .unset, .unset] [(.int (1 : Int32)), (.int (1 : Int32))])) (fun _ k => XS.iconst X227.here hx rfl (hb hby at_256) k) ?_
              have hc266 : (1 : Int32) = (1 : Int32) := by decide
              refine own_go (st' := T227.setTop (mkF m 260 #[oi p0, oi p1, oi p2, oi p3, oi 2, oi 2, oi u6, oi u7, oi u8, oi u9, oi m10, oi m11, oR a1_221, oR a1_222, oR b224, oi 1, .unset, .unset, .unset] [])) (fun _ k => XS.icmpNo X227.here hx rfl (hb hby at_257) rfl (teq hc266).2 k) ?_
              refine own_go (st' := T227.setTop (mkF m 261 #[oi p0, oi p1, oi p2, oi p3, oi 2, oi 2, oi u6, oi u7, oi u8, oi u9, oi m10, oi m11, oR a1_221, oR a1_222, oR b224, oi 1, .unset, .unset, .unset] [.null])) (fun _ k => XS.aconstNull X227.here hx rfl (hb hby at_260) k) ?_
              refine own_go (st' := T227.setTop (mkF m 263 #[oi p0, oi p1, oi p2, oi p3, oi 2, oi 2, oi u6, oi u7, oi u8, oi u9, oi m10, oi m11, oR a1_221, oR a1_222, oR b224, oi 1, .val .null, .unset, .unset] [])) (fun _ k => XS.astore X227.here hx rfl (hb hby at_261) rfl rfl (l' := #[oi p0, oi p1, oi p2, oi p3, oi 2, oi 2, oi u6, oi u7, oi u8, oi u9, oi m10, oi m11, oR a1_221, oR a1_222, oR b224, oi 1, .val .null, .unset, .unset]) rfl k) ?_
              refine own_go (st' := T227.setTop (mkF m 286 #[oi p0, oi p1, oi p2, oi p3, oi 2, oi 2, oi u6, oi u7, oi u8, oi u9, oi m10, oi m11, oR a1_221, oR a1_222, oR b224, oi 1, .val .null, .unset, .unset] [])) (fun _ k => XS.goto X227.here hx rfl (pc0 := 263) (pc' := 286) rfl (hb hby at_263) (by decide) (by decide) k) ?_
              refine own_go (st' := T227.setTop (mkF m 288 #[oi p0, oi p1, oi p2, oi p3, oi 2, oi 2, oi u6, oi u7, oi u8, oi u9, oi m10, oi m11, oR a1_221, oR a1_222, oR b224, oi 1, .val .null, .unset, .unset] [(.ref b224)])) (fun _ k => XS.aload X227.here hx rfl (hb hby at_286) rfl rfl k) ?_
              refine own_go (st' := T227.setTop (mkF m 290 #[oi p0, oi p1, oi p2, oi p3, oi 2, oi 2, oi u6, oi u7, oi u8, oi u9, oi m10, oi m11, oR a1_221, oR a1_222, oR b224, oi 1, .val .null, .unset, .unset] [.null, (.ref b224)])) (fun _ k => XS.aload X227.here hx rfl (hb hby at_288) rfl rfl k) ?_
              obtain ⟨cq267, kq267, q267a, q267b, q267c⟩ := isOf hZ e227 g227_0
              obtain ⟨_, _, ⟨T267, LC267, kC267, nC267⟩, -, X267, ⟨Lc267, hQ267, lq267, yq267, zq267⟩, st267⟩ := X227.virtualBack hx (y := oM0) (z := oM0) hown (mvT hZ (own_hw hw 61)) (mvT hZ (own_hw hw 62)) (notFace_of_selects (args := #[]) (mvT hZ (own_hw hw 64))) (mvT hZ (own_hw hw 64)) (mvT hZ (own_hw hw 63)) (by decide) (backOf (W := 0) (rte_null l Z a0 hw [] b224 h227 n0 (by omega) ) hZ (own_hw hw 65) (own_hw hw 37) (by decide) (by decide)) q267a q267c (g := (mkF m 290 #[oi p0, oi p1, oi p2, oi p3, oi 2, oi 2, oi u6, oi u7, oi u8, oi u9, oi m10, oi m11, oR a1_221, oR a1_222, oR b224, oi 1, .val .null, .unset, .unset] [.null, (.ref b224)])) rfl (by rw [hml]; rfl) (Steps.refl _) (argsL := [.null]) (rest := []) (lenOf pd_11 rfl) rfl (by show 2 * 0 + _ ≤ _; exact Nat.le_of_eq rfl) (hb hby at_290) (fun _ _ => ⟨rfl, e227, (by decide : 9 + 0 ≤ _), (by decide : 42 + 0 ≤ _)⟩)
              dsimp only [Pt.U, Pt.locs, Pt.cells, Pt.slots] at X267 lq267 yq267 zq267 st267 hQ267
              subst lq267 yq267 zq267
              obtain ⟨rfl, Nq267, eq267⟩ := hQ267
              have N267 := Fr.app N227 Nq267
              refine own_go (st' := T267.setTop (mkF m 293 #[oi p0, oi p1, oi p2, oi p3, oi 2, oi 2, oi u6, oi u7, oi u8, oi u9, oi m10, oi m11, oR a1_221, oR a1_222, oR b224, oi 1, .val .null, .unset, .unset] [(.int (0 : Int32))])) (fun _ k => st267.trans k) ?_
              have hc268 : (0 : Int32) = (0 : Int32) := by decide
              refine own_go (st' := T267.setTop (mkF m 296 #[oi p0, oi p1, oi p2, oi p3, oi 2, oi 2, oi u6, oi u7, oi u8, oi u9, oi m10, oi m11, oR a1_221, oR a1_222, oR b224, oi 1, .val .null, .unset, .unset] [])) (fun _ k => XS.ifNo X267.here hx rfl (hb hby at_293) rfl ((if0 _ _).trans (teq hc268).2) k) ?_
              refine own_go (st' := T267.setTop (mkF m 298 #[oi p0, oi p1, oi p2, oi p3, oi 2, oi 2, oi u6, oi u7, oi u8, oi u9, oi m10, oi m11, oR a1_221, oR a1_222, oR b224, oi 1, .val .null, .unset, .unset] [(.ref b224)])) (fun _ k => XS.aload X267.here hx rfl (hb hby at_296) rfl rfl k) ?_
              refine own_go (st' := T267.setTop (mkF m 300 #[oi p0, oi p1, oi p2, oi p3, oi 2, oi 2, oi u6, oi u7, oi u8, oi u9, oi m10, oi m11, oR a1_221, oR a1_222, oR b224, oi 1, .val .null, .unset, .unset] [(.ref b224), (.ref b224)])) (fun _ k => XS.aload X267.here hx rfl (hb hby at_298) rfl rfl k) ?_
              have c270 : Exa Z h227 a1_221 oS0 := (c228.keep K227)
              obtain ⟨cq269, kq269, q269a, q269b, q269c⟩ := isOf hZ eq267 g227_0
              obtain ⟨_, _, ⟨T269, LC269, kC269, nC269⟩, -, X269, ⟨Lc269, hQ269, lq269, yq269, zq269⟩, st269⟩ := X267.virtualBack hx (y := oM0) (z := oM0) hown (mvT hZ (own_hw hw 61)) (mvT hZ (own_hw hw 62)) (notFace_of_selects (args := #[]) (mvT hZ (own_hw hw 64))) (mvT hZ (own_hw hw 64)) (mvT hZ (own_hw hw 63)) (by decide) (backOf (W := 0) (rte_self l Z a0 hw [] b224 a1_221 m10 h227 n0 (by omega) g227_0 g227_1 g227_2 c270) hZ (own_hw hw 65) (own_hw hw 37) (by decide) (by decide)) q269a q269c (g := (mkF m 300 #[oi p0, oi p1, oi p2, oi p3, oi 2, oi 2, oi u6, oi u7, oi u8, oi u9, oi m10, oi m11, oR a1_221, oR a1_222, oR b224, oi 1, .val .null, .unset, .unset] [(.ref b224), (.ref b224)])) rfl (by rw [hml]; rfl) (Steps.refl _) (argsL := [(.ref b224)]) (rest := []) (lenOf pd_11 rfl) rfl (by show 2 * 0 + _ ≤ _; exact Nat.le_of_eq rfl) (hb hby at_300) (fun _ _ => ⟨rfl, eq267, (by decide : 9 + 0 ≤ _), (by decide : 42 + 0 ≤ _)⟩)
              dsimp only [Pt.U, Pt.locs, Pt.cells, Pt.slots] at X269 lq269 yq269 zq269 st269 hQ269
              subst lq269 yq269 zq269
              obtain ⟨rfl, Nq269, eq269⟩ := hQ269
              have N269 := Fr.app N267 Nq269
              refine own_go (st' := T269.setTop (mkF m 303 #[oi p0, oi p1, oi p2, oi p3, oi 2, oi 2, oi u6, oi u7, oi u8, oi u9, oi m10, oi m11, oR a1_221, oR a1_222, oR b224, oi 1, .val .null, .unset, .unset] [(.int (1 : Int32))])) (fun _ k => st269.trans k) ?_
              have hc271 : ¬ ((1 : Int32) = (0 : Int32)) := by decide
              refine own_go (st' := T269.setTop (mkF m 306 #[oi p0, oi p1, oi p2, oi p3, oi 2, oi 2, oi u6, oi u7, oi u8, oi u9, oi m10, oi m11, oR a1_221, oR a1_222, oR b224, oi 1, .val .null, .unset, .unset] [])) (fun _ k => XS.ifNo X269.here hx rfl (hb hby at_303) rfl ((if0 _ _).trans (feq hc271).1) k) ?_
              refine own_go (st' := T269.setTop (mkF m 307 #[oi p0, oi p1, oi p2, oi p3, oi 2, oi 2, oi u6, oi u7, oi u8, oi u9, oi m10, oi m11, oR a1_221, oR a1_222, oR b224, oi 1, .val .null, .unset, .unset] [(.int (1 : Int32))])) (fun _ k => XS.iconst X269.here hx rfl (hb hby at_306) k) ?_
              refine own_go (st' := T269.setTop (mkF m 311 #[oi p0, oi p1, oi p2, oi p3, oi 2, oi 2, oi u6, oi u7, oi u8, oi u9, oi m10, oi m11, oR a1_221, oR a1_222, oR b224, oi 1, .val .null, .unset, .unset] [(.int (1 : Int32))])) (fun _ k => XS.goto X269.here hx rfl (pc0 := 307) (pc' := 311) rfl (hb hby at_307) (by decide) (by decide) k) ?_
              obtain ⟨fs, hr, hrun, hended, hR1, hR2, hR3, hR4⟩ := X269.leaveW hS227 (by rw [eq269]; omega) (v := some (.int (1 : Int32))) (fun h => by rw [Bd.returns] at h; cases h)
              refine ⟨_, _, ?_, hP _ _ hrun hended ⟨_, _, rfl, ?_, hR1, hR2, hR3, hR4.mono (by decide) (by decide)⟩⟩
              · exact retN X269 hx (t := .boolean) Bd.returns (by simp) (hb hby at_311) hr
              · show Qrm0 Z p0 p1 p2 p3 ca zc h0 n0 _ T269.heap _
                rw [eq269]
                exact ⟨rfl, N269, trivial⟩
            · --
              refine own_go (st' := T227.setTop (mkF m 153 #[oi p0, oi p1, oi p2, oi p3, oi 2, oi 2, oi u6, oi u7, oi u8, oi u9, oi m10, oi m11, oR a1_221, oR a1_222, oR b224, oi 2, .unset, .unset, .unset] [])) (fun _ k => XS.istore X227.here hx rfl (hb hby at_151) rfl (l' := #[oi p0, oi p1, oi p2, oi p3, oi 2, oi 2, oi u6, oi u7, oi u8, oi u9, oi m10, oi m11, oR a1_221, oR a1_222, oR b224, oi 2, .unset, .unset, .unset]) rfl k) ?_
              refine own_go (st' := T227.setTop (mkF m 155 #[oi p0, oi p1, oi p2, oi p3, oi 2, oi 2, oi u6, oi u7, oi u8, oi u9, oi m10, oi m11, oR a1_221, oR a1_222, oR b224, oi 2, .unset, .unset, .unset] [(.int (2 : Int32))])) (fun _ k => XS.iload X227.here hx rfl (hb hby at_153) rfl k) ?_
              have hc273 : ¬ ((2 : Int32) = (0 : Int32)) := by decide
              refine own_go (st' := T227.setTop (mkF m 254 #[oi p0, oi p1, oi p2, oi p3, oi 2, oi 2, oi u6, oi u7, oi u8, oi u9, oi m10, oi m11, oR a1_221, oR a1_222, oR b224, oi 2, .unset, .unset, .unset] [])) (fun _ k => XS.ifYes X227.here hx rfl (pc0 := 155) (pc' := 254) rfl (hb hby at_155) rfl ((if0 _ _).trans (feq hc273).2) (by decide) (by decide) k) ?_
              refine own_go (st' := T227.setTop (mkF m 256 #[oi p0, oi p1, oi p2, oi p3, oi 2, oi 2, oi u6, oi u7, oi u8, oi u9, oi m10, oi m11, oR a1_221, oR a1_222, oR b224, oi 2, .unset, .unset, .unset] [(.int (2 : Int32))])) (fun _ k => XS.iload X227.here hx rfl (hb hby at_254) rfl k) ?_
              refine own_go (st' := T227.setTop (mkF m 257 #[oi p0, oi p1, oi p2, oi p3, oi 2, oi 2, oi u6, oi u7, oi u8, oi u9, oi m10, oi m11, oR a1_221, oR a1_222, oR b224, oi 2, .unset, .unset, .unset] [(.int (1 : Int32)), (.int (2 : Int32))])) (fun _ k => XS.iconst X227.here hx rfl (hb hby at_256) k) ?_
              have hc274 : ¬ ((2 : Int32) = (1 : Int32)) := by decide
              refine own_go (st' := T227.setTop (mkF m 266 #[oi p0, oi p1, oi p2, oi p3, oi 2, oi 2, oi u6, oi u7, oi u8, oi u9, oi m10, oi m11, oR a1_221, oR a1_222, oR b224, oi 2, .unset, .unset, .unset] [])) (fun _ k => XS.icmpYes X227.here hx rfl (pc0 := 257) (pc' := 266) rfl (hb hby at_257) rfl (feq hc274).2 (by decide) (by decide) k) ?_
              refine own_go (st' := T227.setTop (mkF m 268 #[oi p0, oi p1, oi p2, oi p3, oi 2, oi 2, oi u6, oi u7, oi u8, oi u9, oi m10, oi m11, oR a1_221, oR a1_222, oR b224, oi 2, .unset, .unset, .unset] [(.int (2 : Int32))])) (fun _ k => XS.iload X227.here hx rfl (hb hby at_266) rfl k) ?_
              refine own_go (st' := T227.setTop (mkF m 269 #[oi p0, oi p1, oi p2, oi p3, oi 2, oi 2, oi u6, oi u7, oi u8, oi u9, oi m10, oi m11, oR a1_221, oR a1_222, oR b224, oi 2, .unset, .unset, .unset] [(.int (2 : Int32)), (.int (2 : Int32))])) (fun _ k => XS.iconst X227.here hx rfl (hb hby at_268) k) ?_
              have hc275 : (2 : Int32) = (2 : Int32) := by decide
              refine own_go (st' := T227.setTop (mkF m 272 #[oi p0, oi p1, oi p2, oi p3, oi 2, oi 2, oi u6, oi u7, oi u8, oi u9, oi m10, oi m11, oR a1_221, oR a1_222, oR b224, oi 2, .unset, .unset, .unset] [])) (fun _ k => XS.icmpNo X227.here hx rfl (hb hby at_269) rfl (teq hc275).2 k) ?_
              refine own_go (st' := T227.setTop (mkF m 274 #[oi p0, oi p1, oi p2, oi p3, oi 2, oi 2, oi u6, oi u7, oi u8, oi u9, oi m10, oi m11, oR a1_221, oR a1_222, oR b224, oi 2, .unset, .unset, .unset] [(.ref a1_221)])) (fun _ k => XS.aload X227.here hx rfl (hb hby at_272) rfl rfl k) ?_
              refine own_go (st' := T227.setTop (mkF m 276 #[oi p0, oi p1, oi p2, oi p3, oi 2, oi 2, oi u6, oi u7, oi u8, oi u9, oi m10, oi m11, oR a1_221, oR a1_222, oR b224, oi 2, oR a1_221, .unset, .unset] [])) (fun _ k => XS.astore X227.here hx rfl (hb hby at_274) rfl rfl (l' := #[oi p0, oi p1, oi p2, oi p3, oi 2, oi 2, oi u6, oi u7, oi u8, oi u9, oi m10, oi m11, oR a1_221, oR a1_222, oR b224, oi 2, oR a1_221, .unset, .unset]) rfl k) ?_
              refine own_go (st' := T227.setTop (mkF m 286 #[oi p0, oi p1, oi p2, oi p3, oi 2, oi 2, oi u6, oi u7, oi u8, oi u9, oi m10, oi m11, oR a1_221, oR a1_222, oR b224, oi 2, oR a1_221, .unset, .unset] [])) (fun _ k => XS.goto X227.here hx rfl (pc0 := 276) (pc' := 286) rfl (hb hby at_276) (by decide) (by decide) k) ?_
              refine own_go (st' := T227.setTop (mkF m 288 #[oi p0, oi p1, oi p2, oi p3, oi 2, oi 2, oi u6, oi u7, oi u8, oi u9, oi m10, oi m11, oR a1_221, oR a1_222, oR b224, oi 2, oR a1_221, .unset, .unset] [(.ref b224)])) (fun _ k => XS.aload X227.here hx rfl (hb hby at_286) rfl rfl k) ?_
              refine own_go (st' := T227.setTop (mkF m 290 #[oi p0, oi p1, oi p2, oi p3, oi 2, oi 2, oi u6, oi u7, oi u8, oi u9, oi m10, oi m11, oR a1_221, oR a1_222, oR b224, oi 2, oR a1_221, .unset, .unset] [(.ref a1_221), (.ref b224)])) (fun _ k => XS.aload X227.here hx rfl (hb hby at_288) rfl rfl k) ?_
              have c277 : Exa Z h227 a1_221 oS0 := (c228.keep K227)
              obtain ⟨cq276, kq276, q276a, q276b, q276c⟩ := isOf hZ e227 g227_0
              obtain ⟨_, _, ⟨T276, LC276, kC276, nC276⟩, -, X276, ⟨Lc276, hQ276, lq276, yq276, zq276⟩, st276⟩ := X227.virtualBack hx (y := oM0) (z := oM0) hown (mvT hZ (own_hw hw 61)) (mvT hZ (own_hw hw 62)) (notFace_of_selects (args := #[]) (mvT hZ (own_hw hw 64))) (mvT hZ (own_hw hw 64)) (mvT hZ (own_hw hw 63)) (by decide) (backOf (W := 0) (rte_str l Z a0 hw [] b224 a1_221 h227 n0 (by omega) c277) hZ (own_hw hw 65) (own_hw hw 37) (by decide) (by decide)) q276a q276c (g := (mkF m 290 #[oi p0, oi p1, oi p2, oi p3, oi 2, oi 2, oi u6, oi u7, oi u8, oi u9, oi m10, oi m11, oR a1_221, oR a1_222, oR b224, oi 2, oR a1_221, .unset, .unset] [(.ref a1_221), (.ref b224)])) rfl (by rw [hml]; rfl) (Steps.refl _) (argsL := [(.ref a1_221)]) (rest := []) (lenOf pd_11 rfl) rfl (by show 2 * 0 + _ ≤ _; exact Nat.le_of_eq rfl) (hb hby at_290) (fun _ _ => ⟨rfl, e227, (by decide : 9 + 0 ≤ _), (by decide : 42 + 0 ≤ _)⟩)
              dsimp only [Pt.U, Pt.locs, Pt.cells, Pt.slots] at X276 lq276 yq276 zq276 st276 hQ276
              subst lq276 yq276 zq276
              obtain ⟨rfl, Nq276, eq276⟩ := hQ276
              have N276 := Fr.app N227 Nq276
              refine own_go (st' := T276.setTop (mkF m 293 #[oi p0, oi p1, oi p2, oi p3, oi 2, oi 2, oi u6, oi u7, oi u8, oi u9, oi m10, oi m11, oR a1_221, oR a1_222, oR b224, oi 2, oR a1_221, .unset, .unset] [(.int (0 : Int32))])) (fun _ k => st276.trans k) ?_
              have hc278 : (0 : Int32) = (0 : Int32) := by decide
              refine own_go (st' := T276.setTop (mkF m 296 #[oi p0, oi p1, oi p2, oi p3, oi 2, oi 2, oi u6, oi u7, oi u8, oi u9, oi m10, oi m11, oR a1_221, oR a1_222, oR b224, oi 2, oR a1_221, .unset, .unset] [])) (fun _ k => XS.ifNo X276.here hx rfl (hb hby at_293) rfl ((if0 _ _).trans (teq hc278).2) k) ?_
              refine own_go (st' := T276.setTop (mkF m 298 #[oi p0, oi p1, oi p2, oi p3, oi 2, oi 2, oi u6, oi u7, oi u8, oi u9, oi m10, oi m11, oR a1_221, oR a1_222, oR b224, oi 2, oR a1_221, .unset, .unset] [(.ref b224)])) (fun _ k => XS.aload X276.here hx rfl (hb hby at_296) rfl rfl k) ?_
              refine own_go (st' := T276.setTop (mkF m 300 #[oi p0, oi p1, oi p2, oi p3, oi 2, oi 2, oi u6, oi u7, oi u8, oi u9, oi m10, oi m11, oR a1_221, oR a1_222, oR b224, oi 2, oR a1_221, .unset, .unset] [(.ref b224), (.ref b224)])) (fun _ k => XS.aload X276.here hx rfl (hb hby at_298) rfl rfl k) ?_
              obtain ⟨cq279, kq279, q279a, q279b, q279c⟩ := isOf hZ eq276 g227_0
              obtain ⟨_, _, ⟨T279, LC279, kC279, nC279⟩, -, X279, ⟨Lc279, hQ279, lq279, yq279, zq279⟩, st279⟩ := X276.virtualBack hx (y := oM0) (z := oM0) hown (mvT hZ (own_hw hw 61)) (mvT hZ (own_hw hw 62)) (notFace_of_selects (args := #[]) (mvT hZ (own_hw hw 64))) (mvT hZ (own_hw hw 64)) (mvT hZ (own_hw hw 63)) (by decide) (backOf (W := 0) (rte_self l Z a0 hw [] b224 a1_221 m10 h227 n0 (by omega) g227_0 g227_1 g227_2 c277) hZ (own_hw hw 65) (own_hw hw 37) (by decide) (by decide)) q279a q279c (g := (mkF m 300 #[oi p0, oi p1, oi p2, oi p3, oi 2, oi 2, oi u6, oi u7, oi u8, oi u9, oi m10, oi m11, oR a1_221, oR a1_222, oR b224, oi 2, oR a1_221, .unset, .unset] [(.ref b224), (.ref b224)])) rfl (by rw [hml]; rfl) (Steps.refl _) (argsL := [(.ref b224)]) (rest := []) (lenOf pd_11 rfl) rfl (by show 2 * 0 + _ ≤ _; exact Nat.le_of_eq rfl) (hb hby at_300) (fun _ _ => ⟨rfl, eq276, (by decide : 9 + 0 ≤ _), (by decide : 42 + 0 ≤ _)⟩)
              dsimp only [Pt.U, Pt.locs, Pt.cells, Pt.slots] at X279 lq279 yq279 zq279 st279 hQ279
              subst lq279 yq279 zq279
              obtain ⟨rfl, Nq279, eq279⟩ := hQ279
              have N279 := Fr.app N276 Nq279
              refine own_go (st' := T279.setTop (mkF m 303 #[oi p0, oi p1, oi p2, oi p3, oi 2, oi 2, oi u6, oi u7, oi u8, oi u9, oi m10, oi m11, oR a1_221, oR a1_222, oR b224, oi 2, oR a1_221, .unset, .unset] [(.int (1 : Int32))])) (fun _ k => st279.trans k) ?_
              have hc280 : ¬ ((1 : Int32) = (0 : Int32)) := by decide
              refine own_go (st' := T279.setTop (mkF m 306 #[oi p0, oi p1, oi p2, oi p3, oi 2, oi 2, oi u6, oi u7, oi u8, oi u9, oi m10, oi m11, oR a1_221, oR a1_222, oR b224, oi 2, oR a1_221, .unset, .unset] [])) (fun _ k => XS.ifNo X279.here hx rfl (hb hby at_303) rfl ((if0 _ _).trans (feq hc280).1) k) ?_
              refine own_go (st' := T279.setTop (mkF m 307 #[oi p0, oi p1, oi p2, oi p3, oi 2, oi 2, oi u6, oi u7, oi u8, oi u9, oi m10, oi m11, oR a1_221, oR a1_222, oR b224, oi 2, oR a1_221, .unset, .unset] [(.int (1 : Int32))])) (fun _ k => XS.iconst X279.here hx rfl (hb hby at_306) k) ?_
              refine own_go (st' := T279.setTop (mkF m 311 #[oi p0, oi p1, oi p2, oi p3, oi 2, oi 2, oi u6, oi u7, oi u8, oi u9, oi m10, oi m11, oR a1_221, oR a1_222, oR b224, oi 2, oR a1_221, .unset, .unset] [(.int (1 : Int32))])) (fun _ k => XS.goto X279.here hx rfl (pc0 := 307) (pc' := 311) rfl (hb hby at_307) (by decide) (by decide) k) ?_
              obtain ⟨fs, hr, hrun, hended, hR1, hR2, hR3, hR4⟩ := X279.leaveW hS227 (by rw [eq279]; omega) (v := some (.int (1 : Int32))) (fun h => by rw [Bd.returns] at h; cases h)
              refine ⟨_, _, ?_, hP _ _ hrun hended ⟨_, _, rfl, ?_, hR1, hR2, hR3, hR4.mono (by decide) (by decide)⟩⟩
              · exact retN X279 hx (t := .boolean) Bd.returns (by simp) (hb hby at_311) hr
              · show Qrm0 Z p0 p1 p2 p3 ca zc h0 n0 _ T279.heap _
                rw [eq279]
                exact ⟨rfl, N279, trivial⟩
            · --
              refine own_go (st' := T227.setTop (mkF m 153 #[oi p0, oi p1, oi p2, oi p3, oi 2, oi 2, oi u6, oi u7, oi u8, oi u9, oi m10, oi m11, oR a1_221, oR a1_222, oR b224, oi 3, .unset, .unset, .unset] [])) (fun _ k => XS.istore X227.here hx rfl (hb hby at_151) rfl (l' := #[oi p0, oi p1, oi p2, oi p3, oi 2, oi 2, oi u6, oi u7, oi u8, oi u9, oi m10, oi m11, oR a1_221, oR a1_222, oR b224, oi 3, .unset, .unset, .unset]) rfl k) ?_
              refine own_go (st' := T227.setTop (mkF m 155 #[oi p0, oi p1, oi p2, oi p3, oi 2, oi 2, oi u6, oi u7, oi u8, oi u9, oi m10, oi m11, oR a1_221, oR a1_222, oR b224, oi 3, .unset, .unset, .unset] [(.int (3 : Int32))])) (fun _ k => XS.iload X227.here hx rfl (hb hby at_153) rfl k) ?_
              have hc282 : ¬ ((3 : Int32) = (0 : Int32)) := by decide
              refine own_go (st' := T227.setTop (mkF m 254 #[oi p0, oi p1, oi p2, oi p3, oi 2, oi 2, oi u6, oi u7, oi u8, oi u9, oi m10, oi m11, oR a1_221, oR a1_222, oR b224, oi 3, .unset, .unset, .unset] [])) (fun _ k => XS.ifYes X227.here hx rfl (pc0 := 155) (pc' := 254) rfl (hb hby at_155) rfl ((if0 _ _).trans (feq hc282).2) (by decide) (by decide) k) ?_
              refine own_go (st' := T227.setTop (mkF m 256 #[oi p0, oi p1, oi p2, oi p3, oi 2, oi 2, oi u6, oi u7, oi u8, oi u9, oi m10, oi m11, oR a1_221, oR a1_222, oR b224, oi 3, .unset, .unset, .unset] [(.int (3 : Int32))])) (fun _ k => XS.iload X227.here hx rfl (hb hby at_254) rfl k) ?_
              refine own_go (st' := T227.setTop (mkF m 257 #[oi p0, oi p1, oi p2, oi p3, oi 2, oi 2, oi u6, oi u7, oi u8, oi u9, oi m10, oi m11, oR a1_221, oR a1_222, oR b224, oi 3, .unset, .unset, .unset] [(.int (1 : Int32)), (.int (3 : Int32))])) (fun _ k => XS.iconst X227.here hx rfl (hb hby at_256) k) ?_
              have hc283 : ¬ ((3 : Int32) = (1 : Int32)) := by decide
              refine own_go (st' := T227.setTop (mkF m 266 #[oi p0, oi p1, oi p2, oi p3, oi 2, oi 2, oi u6, oi u7, oi u8, oi u9, oi m10, oi m11, oR a1_221, oR a1_222, oR b224, oi 3, .unset, .unset, .unset] [])) (fun _ k => XS.icmpYes X227.here hx rfl (pc0 := 257) (pc' := 266) rfl (hb hby at_257) rfl (feq hc283).2 (by decide) (by decide) k) ?_
              refine own_go (st' := T227.setTop (mkF m 268 #[oi p0, oi p1, oi p2, oi p3, oi 2, oi 2, oi u6, oi u7, oi u8, oi u9, oi m10, oi m11, oR a1_221, oR a1_222, oR b224, oi 3, .unset, .unset, .unset] [(.int (3 : Int32))])) (fun _ k => XS.iload X227.here hx rfl (hb hby at_266) rfl k) ?_
              refine own_go (st' := T227.setTop (mkF m 269 #[oi p0, oi p1, oi p2, oi p3, oi 2, oi 2, oi u6, oi u7, oi u8, oi u9, oi m10, oi m11, oR a1_221, oR a1_222, oR b224, oi 3, .unset, .unset, .unset] [(.int (2 : Int32)), (.int (3 : Int32))])) (fun _ k => XS.iconst X227.here hx rfl (hb hby at_268) k) ?_
              have hc284 : ¬ ((3 : Int32) = (2 : Int32)) := by decide
              refine own_go (st' := T227.setTop (mkF m 279 #[oi p0, oi p1, oi p2, oi p3, oi 2, oi 2, oi u6, oi u7, oi u8, oi u9, oi m10, oi m11, oR a1_221, oR a1_222, oR b224, oi 3, .unset, .unset, .unset] [])) (fun _ k => XS.icmpYes X227.here hx rfl (pc0 := 269) (pc' := 279) rfl (hb hby at_269) rfl (feq hc284).2 (by decide) (by decide) k) ?_
              refine own_go (st' := T227.setTop (mkF m 281 #[oi p0, oi p1, oi p2, oi p3, oi 2, oi 2, oi u6, oi u7, oi u8, oi u9, oi m10, oi m11, oR a1_221, oR a1_222, oR b224, oi 3, .unset, .unset, .unset] [(.int m10)])) (fun _ k => XS.iload X227.here hx rfl (hb hby at_279) rfl k) ?_
              have c286 : Sta Z h227 oS5 "high" "I" (.int (127 : Int32)) := (own_sta_keep ((own_sta_keep (own_sta_keep pr1 K221 all0) K222 all0).ext E224) K227 (allS (P := fun x => ∀ c : Cell, h224[x]? = some c → c.vm.isStatics = false) (own_pl_exa A224) all0))
              have c287 : Sta Z h227 oS5 "cache" oS8 (.ref ca) := (own_sta_keep ((own_sta_keep (own_sta_keep pr2 K221 all0) K222 all0).ext E224) K227 (allS (P := fun x => ∀ c : Cell, h224[x]? = some c → c.vm.isStatics = false) (own_pl_exa A224) all0))
              have c288 : own_Cache Z h227 ca := (own_Cache_keep (own_Cache_ext (own_Cache_keep (own_Cache_keep pr3 K221 nin0) K222 nin0) E224) K227 (ninS (own_ne (by omega)) nin0))
              obtain ⟨_, _, ⟨T285, LC285, kC285, nC285⟩, -, X285, ⟨Lc285, hQ285, lq285, yq285, zq285⟩, st285⟩ := Jvm.LawKit.callS X227 hx (y := oM6) hown (mvT hZ (own_hw hw 75)) (mvT hZ (own_hw hw 76)) (mvT hZ (own_hw hw 77)) (mvT hZ (own_hw hw 78)) (by decide) (backOf (W := 0) (rm14 l Z a0 hw [] m10 ca h227 n0 (by omega) c286 c287 c288) hZ (own_hw hw 78) (own_hw hw 77) (by decide) (by decide)) (g := (mkF m 281 #[oi p0, oi p1, oi p2, oi p3, oi 2, oi 2, oi u6, oi u7, oi u8, oi u9, oi m10, oi m11, oR a1_221, oR a1_222, oR b224, oi 3, .unset, .unset, .unset] [(.int m10)])) rfl (by rw [hml]; rfl) (argsL := [(.int m10)]) (rest := []) (lenOf pd_14 rfl) rfl (by show 2 * 0 + _ ≤ _; exact Nat.le_of_eq rfl) (hb hby at_281) (fun _ _ => ⟨rfl, e227, (by decide : 9 + 1 ≤ _), (by decide : 42 + 1 ≤ _)⟩)
              dsimp only [Pt.U, Pt.locs, Pt.cells, Pt.slots] at X285 lq285 yq285 zq285 st285 hQ285
              subst lq285 yq285 zq285
              obtain ⟨h285, e285⟩ : ∃ z, T285.heap = z := ⟨_, rfl⟩
              rw [e285] at hQ285
              obtain ⟨r_285, rfl, Nq285, K285, g285_0⟩ := hQ285
              have sz285 : h227.size ≤ h285.size := K285.1
              have N285 := Fr.app N227 Nq285
              have lt285_1 : @LT.lt Nat _ r_285 h285.size := g285_0.lt
              refine own_go (st' := T285.setTop (mkF m 284 #[oi p0, oi p1, oi p2, oi p3, oi 2, oi 2, oi u6, oi u7, oi u8, oi u9, oi m10, oi m11, oR a1_221, oR a1_222, oR b224, oi 3, .unset, .unset, .unset] [(.ref r_285)])) (fun t k => st285 t k) ?_
              refine own_go (st' := T285.setTop (mkF m 286 #[oi p0, oi p1, oi p2, oi p3, oi 2, oi 2, oi u6, oi u7, oi u8, oi u9, oi m10, oi m11, oR a1_221, oR a1_222, oR b224, oi 3, oR r_285, .unset, .unset] [])) (fun _ k => XS.astore X285.here hx rfl (hb hby at_284) rfl rfl (l' := #[oi p0, oi p1, oi p2, oi p3, oi 2, oi 2, oi u6, oi u7, oi u8, oi u9, oi m10, oi m11, oR a1_221, oR a1_222, oR b224, oi 3, oR r_285, .unset, .unset]) rfl k) ?_
              refine own_go (st' := T285.setTop (mkF m 288 #[oi p0, oi p1, oi p2, oi p3, oi 2, oi 2, oi u6, oi u7, oi u8, oi u9, oi m10, oi m11, oR a1_221, oR a1_222, oR b224, oi 3, oR r_285, .unset, .unset] [(.ref b224)])) (fun _ k => XS.aload X285.here hx rfl (hb hby at_286) rfl rfl k) ?_
              refine own_go (st' := T285.setTop (mkF m 290 #[oi p0, oi p1, oi p2, oi p3, oi 2, oi 2, oi u6, oi u7, oi u8, oi u9, oi m10, oi m11, oR a1_221, oR a1_222, oR b224, oi 3, oR r_285, .unset, .unset] [(.ref r_285), (.ref b224)])) (fun _ k => XS.aload X285.here hx rfl (hb hby at_288) rfl rfl k) ?_
              have c290 : Exa Z h285 b224 oS1 := (g227_0.keep K285)
              obtain ⟨cq289, kq289, q289a, q289b, q289c⟩ := isOf hZ e285 c290
              obtain ⟨_, _, ⟨T289, LC289, kC289, nC289⟩, -, X289, ⟨Lc289, hQ289, lq289, yq289, zq289⟩, st289⟩ := X285.virtualBack hx (y := oM0) (z := oM0) hown (mvT hZ (own_hw hw 61)) (mvT hZ (own_hw hw 62)) (notFace_of_selects (args := #[]) (mvT hZ (own_hw hw 64))) (mvT hZ (own_hw hw 64)) (mvT hZ (own_hw hw 63)) (by decide) (backOf (W := 0) (rte_int l Z a0 hw [] b224 r_285 h285 n0 (by omega) g285_0) hZ (own_hw hw 65) (own_hw hw 37) (by decide) (by decide)) q289a q289c (g := (mkF m 290 #[oi p0, oi p1, oi p2, oi p3, oi 2, oi 2, oi u6, oi u7, oi u8, oi u9, oi m10, oi m11, oR a1_221, oR a1_222, oR b224, oi 3, oR r_285, .unset, .unset] [(.ref r_285), (.ref b224)])) rfl (by rw [hml]; rfl) (Steps.refl _) (argsL := [(.ref r_285)]) (rest := []) (lenOf pd_11 rfl) rfl (by show 2 * 0 + _ ≤ _; exact Nat.le_of_eq rfl) (hb hby at_290) (fun _ _ => ⟨rfl, e285, (by decide : 10 + 0 ≤ _), (by decide : 43 + 0 ≤ _)⟩)
              dsimp only [Pt.U, Pt.locs, Pt.cells, Pt.slots] at X289 lq289 yq289 zq289 st289 hQ289
              subst lq289 yq289 zq289
              obtain ⟨rfl, Nq289, eq289⟩ := hQ289
              have N289 := Fr.app N285 Nq289
              refine own_go (st' := T289.setTop (mkF m 293 #[oi p0, oi p1, oi p2, oi p3, oi 2, oi 2, oi u6, oi u7, oi u8, oi u9, oi m10, oi m11, oR a1_221, oR a1_222, oR b224, oi 3, oR r_285, .unset, .unset] [(.int (0 : Int32))])) (fun _ k => st289.trans k) ?_
              have hc291 : (0 : Int32) = (0 : Int32) := by decide
              refine own_go (st' := T289.setTop (mkF m 296 #[oi p0, oi p1, oi p2, oi p3, oi 2, oi 2, oi u6, oi u7, oi u8, oi u9, oi m10, oi m11, oR a1_221, oR a1_222, oR b224, oi 3, oR r_285, .unset, .unset] [])) (fun _ k => XS.ifNo X289.here hx rfl (hb hby at_293) rfl ((if0 _ _).trans (teq hc291).2) k) ?_
              refine own_go (st' := T289.setTop (mkF m 298 #[oi p0, oi p1, oi p2, oi p3, oi 2, oi 2, oi u6, oi u7, oi u8, oi u9, oi m10, oi m11, oR a1_221, oR a1_222, oR b224, oi 3, oR r_285, .unset, .unset] [(.ref b224)])) (fun _ k => XS.aload X289.here hx rfl (hb hby at_296) rfl rfl k) ?_
              refine own_go (st' := T289.setTop (mkF m 300 #[oi p0, oi p1, oi p2, oi p3, oi 2, oi 2, oi u6, oi u7, oi u8, oi u9, oi m10, oi m11, oR a1_221, oR a1_222, oR b224, oi 3, oR r_285, .unset, .unset] [(.ref b224), (.ref b224)])) (fun _ k => XS.aload X289.here hx rfl (hb hby at_298) rfl rfl k) ?_
              have c293 : Fld Z h285 b224 oS1 "topic" oS2 (.ref a1_221) := (g227_1.keep K285 nin0)
              have c294 : Fld Z h285 b224 oS1 "number" "I" (.int m10) := (g227_2.keep K285 nin0)
              have c295 : Exa Z h285 a1_221 oS0 := ((c228.keep K227).keep K285)
              obtain ⟨cq292, kq292, q292a, q292b, q292c⟩ := isOf hZ eq289 c290
              obtain ⟨_, _, ⟨T292, LC292, kC292, nC292⟩, -, X292, ⟨Lc292, hQ292, lq292, yq292, zq292⟩, st292⟩ := X289.virtualBack hx (y := oM0) (z := oM0) hown (mvT hZ (own_hw hw 61)) (mvT hZ (own_hw hw 62)) (notFace_of_selects (args := #[]) (mvT hZ (own_hw hw 64))) (mvT hZ (own_hw hw 64)) (mvT hZ (own_hw hw 63)) (by decide) (backOf (W := 0) (rte_self l Z a0 hw [] b224 a1_221 m10 h285 n0 (by omega) c290 c293 c294 c295) hZ (own_hw hw 65) (own_hw hw 37) (by decide) (by decide)) q292a q292c (g := (mkF m 300 #[oi p0, oi p1, oi p2, oi p3, oi 2, oi 2, oi u6, oi u7, oi u8, oi u9, oi m10, oi m11, oR a1_221, oR a1_222, oR b224, oi 3, oR r_285, .unset, .unset] [(.ref b224), (.ref b224)])) rfl (by rw [hml]; rfl) (Steps.refl _) (argsL := [(.ref b224)]) (rest := []) (lenOf pd_11 rfl) rfl (by show 2 * 0 + _ ≤ _; exact Nat.le_of_eq rfl) (hb hby at_300) (fun _ _ => ⟨rfl, eq289, (by decide : 10 + 0 ≤ _), (by decide : 43 + 0 ≤ _)⟩)
              dsimp only [Pt.U, Pt.locs, Pt.cells, Pt.slots] at X292 lq292 yq292 zq292 st292 hQ292
              subst lq292 yq292 zq292
              obtain ⟨rfl, Nq292, eq292⟩ := hQ292
              have N292 := Fr.app N289 Nq292
              refine own_go (st' := T292.setTop (mkF m 303 #[oi p0, oi p1, oi p2, oi p3, oi 2, oi 2, oi u6, oi u7, oi u8, oi u9, oi m10, oi m11, oR a1_221, oR a1_222, oR b224, oi 3, oR r_285, .unset, .unset] [(.int (1 : Int32))])) (fun _ k => st292.trans k) ?_
              have hc296 : ¬ ((1 : Int32) = (0 : Int32)) := by decide
              refine own_go (st' := T292.setTop (mkF m 306 #[oi p0, oi p1, oi p2, oi p3, oi 2, oi 2, oi u6, oi u7, oi u8, oi u9, oi m10, oi m11, oR a1_221, oR a1_222, oR b224, oi 3, oR r_285, .unset, .unset] [])) (fun _ k => XS.ifNo X292.here hx rfl (hb hby at_303) rfl ((if0 _ _).trans (feq hc296).1) k) ?_
              refine own_go (st' := T292.setTop (mkF m 307 #[oi p0, oi p1, oi p2, oi p3, oi 2, oi 2, oi u6, oi u7, oi u8, oi u9, oi m10, oi m11, oR a1_221, oR a1_222, oR b224, oi 3, oR r_285, .unset, .unset] [(.int (1 : Int32))])) (fun _ k => XS.iconst X292.here hx rfl (hb hby at_306) k) ?_
              refine own_go (st' := T292.setTop (mkF m 311 #[oi p0, oi p1, oi p2, oi p3, oi 2, oi 2, oi u6, oi u7, oi u8, oi u9, oi m10, oi m11, oR a1_221, oR a1_222, oR b224, oi 3, oR r_285, .unset, .unset] [(.int (1 : Int32))])) (fun _ k => XS.goto X292.here hx rfl (pc0 := 307) (pc' := 311) rfl (hb hby at_307) (by decide) (by decide) k) ?_
              obtain ⟨fs, hr, hrun, hended, hR1, hR2, hR3, hR4⟩ := X292.leaveW hS227 (by rw [eq292]; omega) (v := some (.int (1 : Int32))) (fun h => by rw [Bd.returns] at h; cases h)
              refine ⟨_, _, ?_, hP _ _ hrun hended ⟨_, _, rfl, ?_, hR1, hR2, hR3, hR4.mono (by decide) (by decide)⟩⟩
              · exact retN X292 hx (t := .boolean) Bd.returns (by simp) (hb hby at_311) hr
              · show Qrm0 Z p0 p1 p2 p3 ca zc h0 n0 _ T292.heap _
                rw [eq292]
                exact ⟨rfl, N292, trivial⟩
      refine own_go (st' := Tj2.setTop (mkF m 92 #[oi p0, oi p1, oi p2, oi p3, oi n4, oi n5, oi u6, oi u7, oi u8, oi u9, oi m10, .unset, .unset, .unset, .unset, .unset, .unset, .unset, .unset] [(.int p0)])) (fun _ k => XS.iloadN Xj2.here hx rfl (hb hby at_91) rfl k) ?_
      refine own_go (st' := Tj2.setTop (mkF m 93 #[oi p0, oi p1, oi p2, oi p3, oi n4, oi n5, oi u6, oi u7, oi u8, oi u9, oi m10, .unset, .unset, .unset, .unset, .unset, .unset, .unset, .unset] [(.int (5 : Int32)), (.int p0)])) (fun _ k => XS.iconst Xj2.here hx rfl (hb hby at_92) k) ?_
      refine own_go (st' := Tj2.setTop (mkF m 94 #[oi p0, oi p1, oi p2, oi p3, oi n4, oi n5, oi u6, oi u7, oi u8, oi u9, oi m10, .unset, .unset, .unset, .unset, .unset, .unset, .unset, .unset] [(.int ((p0.toUInt32 >>> ((5 : Int32) &&& 31).toUInt32).toInt32))])) (fun _ k => XS.iushr Xj2.here hx rfl (hb hby at_93) rfl k) ?_
      refine own_go (st' := Tj2.setTop (mkF m 95 #[oi p0, oi p1, oi p2, oi p3, oi n4, oi n5, oi u6, oi u7, oi u8, oi u9, oi m10, .unset, .unset, .unset, .unset, .unset, .unset, .unset, .unset] [(.int (1 : Int32)), (.int ((p0.toUInt32 >>> ((5 : Int32) &&& 31).toUInt32).toInt32))])) (fun _ k => XS.iconst Xj2.here hx rfl (hb hby at_94) k) ?_
      refine own_go (st' := Tj2.setTop (mkF m 96 #[oi p0, oi p1, oi p2, oi p3, oi n4, oi n5, oi u6, oi u7, oi u8, oi u9, oi m10, .unset, .unset, .unset, .unset, .unset, .unset, .unset, .unset] [(.int (((p0.toUInt32 >>> ((5 : Int32) &&& 31).toUInt32).toInt32) &&& (1 : Int32)))])) (fun _ k => XS.iand Xj2.here hx rfl (hb hby at_95) rfl k) ?_
      by_cases hc298 : (((p0.toUInt32 >>> ((5 : Int32) &&& 31).toUInt32).toInt32) &&& (1 : Int32)) = (0 : Int32)
      · --
        refine own_go (st' := Tj2.setTop (mkF m 104 #[oi p0, oi p1, oi p2, oi p3, oi n4, oi n5, oi u6, oi u7, oi u8, oi u9, oi m10, .unset, .unset, .unset, .unset, .unset, .unset, .unset, .unset] [])) (fun _ k => XS.ifYes Xj2.here hx rfl (pc0 := 96) (pc' := 104) rfl (hb hby at_96) rfl ((if0 _ _).trans (teq hc298).1) (by decide) (by decide) k) ?_
        refine own_go (st' := Tj2.setTop (mkF m 105 #[oi p0, oi p1, oi p2, oi p3, oi n4, oi n5, oi u6, oi u7, oi u8, oi u9, oi m10, .unset, .unset, .unset, .unset, .unset, .unset, .unset, .unset] [(.int p3)])) (fun _ k => XS.iloadN Xj2.here hx rfl (hb hby at_104) rfl k) ?_
        refine own_go (st' := Tj2.setTop (mkF m 107 #[oi p0, oi p1, oi p2, oi p3, oi n4, oi n5, oi u6, oi u7, oi u8, oi u9, oi m10, .unset, .unset, .unset, .unset, .unset, .unset, .unset, .unset] [(.int (2147483647 : Int32)), (.int p3)])) (Xj2.ldcInt hx hown (mvT hZ (own_hw hw 0)) (g := (mkF m 105 #[oi p0, oi p1, oi p2, oi p3, oi n4, oi n5, oi u6, oi u7, oi u8, oi u9, oi m10, .unset, .unset, .unset, .unset, .unset, .unset, .unset, .unset] [(.int p3)])) rfl (hb hby at_105)) ?_
        refine own_go (st' := Tj2.setTop (mkF m 108 #[oi p0, oi p1, oi p2, oi p3, oi n4, oi n5, oi u6, oi u7, oi u8, oi u9, oi m10, .unset, .unset, .unset, .unset, .unset, .unset, .unset, .unset] [(.int (p3 &&& (2147483647 : Int32)))])) (fun _ k => XS.iand Xj2.here hx rfl (hb hby at_107) rfl k) ?_
        exact J108_3 _ _ (p3 &&& (2147483647 : Int32)) _ _ Xj2 ej2 Nj2 hSj2 (by omega) hZ hown (own_pos _)
      · --
        refine own_go (st' := Tj2.setTop (mkF m 99 #[oi p0, oi p1, oi p2, oi p3, oi n4, oi n5, oi u6, oi u7, oi u8, oi u9, oi m10, .unset, .unset, .unset, .unset, .unset, .unset, .unset, .unset] [])) (fun _ k => XS.ifNo Xj2.here hx rfl (hb hby at_96) rfl ((if0 _ _).trans (feq hc298).1) k) ?_
        refine own_go (st' := Tj2.setTop (mkF m 101 #[oi p0, oi p1, oi p2, oi p3, oi n4, oi n5, oi u6, oi u7, oi u8, oi u9, oi m10, .unset, .unset, .unset, .unset, .unset, .unset, .unset, .unset] [(.int m10)])) (fun _ k => XS.iload Xj2.here hx rfl (hb hby at_99) rfl k) ?_
        refine own_go (st' := Tj2.setTop (mkF m 108 #[oi p0, oi p1, oi p2, oi p3, oi n4, oi n5, oi u6, oi u7, oi u8, oi u9, oi m10, .unset, .unset, .unset, .unset, .unset, .unset, .unset, .unset] [(.int m10)])) (fun _ k => XS.goto Xj2.here hx rfl (pc0 := 101) (pc' := 108) rfl (hb hby at_101) (by decide) (by decide) k) ?_
        exact J108_3 _ _ m10 _ _ Xj2 ej2 Nj2 hSj2 (by omega) hZ hown hp_m10
    refine own_go (st' := Tj1.setTop (mkF m 62 #[oi p0, oi p1, oi p2, oi p3, oi n4, oi n5, oi u6, oi u7, oi u8, .unset, .unset, .unset, .unset, .unset, .unset, .unset, .unset, .unset, .unset] [(.int p0)])) (fun _ k => XS.iloadN Xj1.here hx rfl (hb hby at_61) rfl k) ?_
    refine own_go (st' := Tj1.setTop (mkF m 63 #[oi p0, oi p1, oi p2, oi p3, oi n4, oi n5, oi u6, oi u7, oi u8, .unset, .unset, .unset, .unset, .unset, .unset, .unset, .unset, .unset, .unset] [(.int (4 : Int32)), (.int p0)])) (fun _ k => XS.iconst Xj1.here hx rfl (hb hby at_62) k) ?_
    refine own_go (st' := Tj1.setTop (mkF m 64 #[oi p0, oi p1, oi p2, oi p3, oi n4, oi n5, oi u6, oi u7, oi u8, .unset, .unset, .unset, .unset, .unset, .unset, .unset, .unset, .unset, .unset] [(.int ((p0.toUInt32 >>> ((4 : Int32) &&& 31).toUInt32).toInt32))])) (fun _ k => XS.iushr Xj1.here hx rfl (hb hby at_63) rfl k) ?_
    refine own_go (st' := Tj1.setTop (mkF m 65 #[oi p0, oi p1, oi p2, oi p3, oi n4, oi n5, oi u6, oi u7, oi u8, .unset, .unset, .unset, .unset, .unset, .unset, .unset, .unset, .unset, .unset] [(.int (1 : Int32)), (.int ((p0.toUInt32 >>> ((4 : Int32) &&& 31).toUInt32).toInt32))])) (fun _ k => XS.iconst Xj1.here hx rfl (hb hby at_64) k) ?_
    refine own_go (st' := Tj1.setTop (mkF m 66 #[oi p0, oi p1, oi p2, oi p3, oi n4, oi n5, oi u6, oi u7, oi u8, .unset, .unset, .unset, .unset, .unset, .unset, .unset, .unset, .unset, .unset] [(.int (((p0.toUInt32 >>> ((4 : Int32) &&& 31).toUInt32).toInt32) &&& (1 : Int32)))])) (fun _ k => XS.iand Xj1.here hx rfl (hb hby at_65) rfl k) ?_
    by_cases hc299 : (((p0.toUInt32 >>> ((4 : Int32) &&& 31).toUInt32).toInt32) &&& (1 : Int32)) = (0 : Int32)
    · --
      refine own_go (st' := Tj1.setTop (mkF m 74 #[oi p0, oi p1, oi p2, oi p3, oi n4, oi n5, oi u6, oi u7, oi u8, .unset, .unset, .unset, .unset, .unset, .unset, .unset, .unset, .unset, .unset] [])) (fun _ k => XS.ifYes Xj1.here hx rfl (pc0 := 66) (pc' := 74) rfl (hb hby at_66) rfl ((if0 _ _).trans (teq hc299).1) (by decide) (by decide) k) ?_
      refine own_go (st' := Tj1.setTop (mkF m 75 #[oi p0, oi p1, oi p2, oi p3, oi n4, oi n5, oi u6, oi u7, oi u8, .unset, .unset, .unset, .unset, .unset, .unset, .unset, .unset, .unset, .unset] [(.int p1)])) (fun _ k => XS.iloadN Xj1.here hx rfl (hb hby at_74) rfl k) ?_
      refine own_go (st' := Tj1.setTop (mkF m 77 #[oi p0, oi p1, oi p2, oi p3, oi n4, oi n5, oi u6, oi u7, oi u8, .unset, .unset, .unset, .unset, .unset, .unset, .unset, .unset, .unset, .unset] [(.int (24 : Int32)), (.int p1)])) (fun _ k => XS.bipush Xj1.here hx rfl (hb hby at_75) k) ?_
      refine own_go (st' := Tj1.setTop (mkF m 78 #[oi p0, oi p1, oi p2, oi p3, oi n4, oi n5, oi u6, oi u7, oi u8, .unset, .unset, .unset, .unset, .unset, .unset, .unset, .unset, .unset, .unset] [(.int ((p1.toUInt32 >>> ((24 : Int32) &&& 31).toUInt32).toInt32))])) (fun _ k => XS.iushr Xj1.here hx rfl (hb hby at_77) rfl k) ?_
      refine own_go (st' := Tj1.setTop (mkF m 81 #[oi p0, oi p1, oi p2, oi p3, oi n4, oi n5, oi u6, oi u7, oi u8, .unset, .unset, .unset, .unset, .unset, .unset, .unset, .unset, .unset, .unset] [(.int (255 : Int32)), (.int ((p1.toUInt32 >>> ((24 : Int32) &&& 31).toUInt32).toInt32))])) (fun _ k => XS.sipush Xj1.here hx rfl (hb hby at_78) k) ?_
      refine own_go (st' := Tj1.setTop (mkF m 82 #[oi p0, oi p1, oi p2, oi p3, oi n4, oi n5, oi u6, oi u7, oi u8, .unset, .unset, .unset, .unset, .unset, .unset, .unset, .unset, .unset, .unset] [(.int (((p1.toUInt32 >>> ((24 : Int32) &&& 31).toUInt32).toInt32) &&& (255 : Int32)))])) (fun _ k => XS.iand Xj1.here hx rfl (hb hby at_81) rfl k) ?_
      refine own_go (st' := Tj1.setTop (mkF m 83 #[oi p0, oi p1, oi p2, oi p3, oi n4, oi n5, oi u6, oi u7, oi u8, .unset, .unset, .unset, .unset, .unset, .unset, .unset, .unset, .unset, .unset] [(.int (((p1.toUInt32 >>> ((24 : Int32) &&& 31).toUInt32).toInt32) &&& (255 : Int32)).toUInt32.toUInt16.toUInt32.toInt32)])) (fun _ k => XS.i2c Xj1.here hx rfl (hb hby at_82) rfl k) ?_
      exact J83_2 _ _ ((((p1.toUInt32 >>> ((24 : Int32) &&& 31).toUInt32).toInt32) &&& (255 : Int32)).toUInt32.toUInt16.toUInt32.toInt32) _ _ Xj1 ej1 Nj1 hSj1 (by omega) hZ hown (own_lat_and _)
    · --
      refine own_go (st' := Tj1.setTop (mkF m 69 #[oi p0, oi p1, oi p2, oi p3, oi n4, oi n5, oi u6, oi u7, oi u8, .unset, .unset, .unset, .unset, .unset, .unset, .unset, .unset, .unset, .unset] [])) (fun _ k => XS.ifNo Xj1.here hx rfl (hb hby at_66) rfl ((if0 _ _).trans (feq hc299).1) k) ?_
      refine own_go (st' := Tj1.setTop (mkF m 71 #[oi p0, oi p1, oi p2, oi p3, oi n4, oi n5, oi u6, oi u7, oi u8, .unset, .unset, .unset, .unset, .unset, .unset, .unset, .unset, .unset, .unset] [(.int u7)])) (fun _ k => XS.iload Xj1.here hx rfl (hb hby at_69) rfl k) ?_
      refine own_go (st' := Tj1.setTop (mkF m 83 #[oi p0, oi p1, oi p2, oi p3, oi n4, oi n5, oi u6, oi u7, oi u8, .unset, .unset, .unset, .unset, .unset, .unset, .unset, .unset, .unset, .unset] [(.int u7)])) (fun _ k => XS.goto Xj1.here hx rfl (pc0 := 71) (pc' := 83) rfl (hb hby at_71) (by decide) (by decide) k) ?_
      exact J83_2 _ _ u7 _ _ Xj1 ej1 Nj1 hSj1 (by omega) hZ hown hl_u7
  refine own_go (st' := s₁.setTop (mkF m 38 #[oi p0, oi p1, oi p2, oi p3, oi n4, oi n5, oi u6, oi u7, .unset, .unset, .unset, .unset, .unset, .unset, .unset, .unset, .unset, .unset, .unset] [(.int p0)])) (fun _ k => XS.iloadN X0.here hx rfl (hb hby at_37) rfl k) ?_
  refine own_go (st' := s₁.setTop (mkF m 39 #[oi p0, oi p1, oi p2, oi p3, oi n4, oi n5, oi u6, oi u7, .unset, .unset, .unset, .unset, .unset, .unset, .unset, .unset, .unset, .unset, .unset] [(.int (3 : Int32)), (.int p0)])) (fun _ k => XS.iconst X0.here hx rfl (hb hby at_38) k) ?_
  refine own_go (st' := s₁.setTop (mkF m 40 #[oi p0, oi p1, oi p2, oi p3, oi n4, oi n5, oi u6, oi u7, .unset, .unset, .unset, .unset, .unset, .unset, .unset, .unset, .unset, .unset, .unset] [(.int ((p0.toUInt32 >>> ((3 : Int32) &&& 31).toUInt32).toInt32))])) (fun _ k => XS.iushr X0.here hx rfl (hb hby at_39) rfl k) ?_
  refine own_go (st' := s₁.setTop (mkF m 41 #[oi p0, oi p1, oi p2, oi p3, oi n4, oi n5, oi u6, oi u7, .unset, .unset, .unset, .unset, .unset, .unset, .unset, .unset, .unset, .unset, .unset] [(.int (1 : Int32)), (.int ((p0.toUInt32 >>> ((3 : Int32) &&& 31).toUInt32).toInt32))])) (fun _ k => XS.iconst X0.here hx rfl (hb hby at_40) k) ?_
  refine own_go (st' := s₁.setTop (mkF m 42 #[oi p0, oi p1, oi p2, oi p3, oi n4, oi n5, oi u6, oi u7, .unset, .unset, .unset, .unset, .unset, .unset, .unset, .unset, .unset, .unset, .unset] [(.int (((p0.toUInt32 >>> ((3 : Int32) &&& 31).toUInt32).toInt32) &&& (1 : Int32)))])) (fun _ k => XS.iand X0.here hx rfl (hb hby at_41) rfl k) ?_
  by_cases hc300 : (((p0.toUInt32 >>> ((3 : Int32) &&& 31).toUInt32).toInt32) &&& (1 : Int32)) = (0 : Int32)
  · --
    refine own_go (st' := s₁.setTop (mkF m 50 #[oi p0, oi p1, oi p2, oi p3, oi n4, oi n5, oi u6, oi u7, .unset, .unset, .unset, .unset, .unset, .unset, .unset, .unset, .unset, .unset, .unset] [])) (fun _ k => XS.ifYes X0.here hx rfl (pc0 := 42) (pc' := 50) rfl (hb hby at_42) rfl ((if0 _ _).trans (teq hc300).1) (by decide) (by decide) k) ?_
    refine own_go (st' := s₁.setTop (mkF m 51 #[oi p0, oi p1, oi p2, oi p3, oi n4, oi n5, oi u6, oi u7, .unset, .unset, .unset, .unset, .unset, .unset, .unset, .unset, .unset, .unset, .unset] [(.int p1)])) (fun _ k => XS.iloadN X0.here hx rfl (hb hby at_50) rfl k) ?_
    refine own_go (st' := s₁.setTop (mkF m 53 #[oi p0, oi p1, oi p2, oi p3, oi n4, oi n5, oi u6, oi u7, .unset, .unset, .unset, .unset, .unset, .unset, .unset, .unset, .unset, .unset, .unset] [(.int (16 : Int32)), (.int p1)])) (fun _ k => XS.bipush X0.here hx rfl (hb hby at_51) k) ?_
    refine own_go (st' := s₁.setTop (mkF m 54 #[oi p0, oi p1, oi p2, oi p3, oi n4, oi n5, oi u6, oi u7, .unset, .unset, .unset, .unset, .unset, .unset, .unset, .unset, .unset, .unset, .unset] [(.int ((p1.toUInt32 >>> ((16 : Int32) &&& 31).toUInt32).toInt32))])) (fun _ k => XS.iushr X0.here hx rfl (hb hby at_53) rfl k) ?_
    refine own_go (st' := s₁.setTop (mkF m 57 #[oi p0, oi p1, oi p2, oi p3, oi n4, oi n5, oi u6, oi u7, .unset, .unset, .unset, .unset, .unset, .unset, .unset, .unset, .unset, .unset, .unset] [(.int (255 : Int32)), (.int ((p1.toUInt32 >>> ((16 : Int32) &&& 31).toUInt32).toInt32))])) (fun _ k => XS.sipush X0.here hx rfl (hb hby at_54) k) ?_
    refine own_go (st' := s₁.setTop (mkF m 58 #[oi p0, oi p1, oi p2, oi p3, oi n4, oi n5, oi u6, oi u7, .unset, .unset, .unset, .unset, .unset, .unset, .unset, .unset, .unset, .unset, .unset] [(.int (((p1.toUInt32 >>> ((16 : Int32) &&& 31).toUInt32).toInt32) &&& (255 : Int32)))])) (fun _ k => XS.iand X0.here hx rfl (hb hby at_57) rfl k) ?_
    refine own_go (st' := s₁.setTop (mkF m 59 #[oi p0, oi p1, oi p2, oi p3, oi n4, oi n5, oi u6, oi u7, .unset, .unset, .unset, .unset, .unset, .unset, .unset, .unset, .unset, .unset, .unset] [(.int (((p1.toUInt32 >>> ((16 : Int32) &&& 31).toUInt32).toInt32) &&& (255 : Int32)).toUInt32.toUInt16.toUInt32.toInt32)])) (fun _ k => XS.i2c X0.here hx rfl (hb hby at_58) rfl k) ?_
    exact J59_1 _ _ ((((p1.toUInt32 >>> ((16 : Int32) &&& 31).toUInt32).toInt32) &&& (255 : Int32)).toUInt32.toUInt16.toUInt32.toInt32) _ _ X0 e0 N0 hS0 (by omega) hZ hown (own_lat_and _)
  · --
    refine own_go (st' := s₁.setTop (mkF m 45 #[oi p0, oi p1, oi p2, oi p3, oi n4, oi n5, oi u6, oi u7, .unset, .unset, .unset, .unset, .unset, .unset, .unset, .unset, .unset, .unset, .unset] [])) (fun _ k => XS.ifNo X0.here hx rfl (hb hby at_42) rfl ((if0 _ _).trans (feq hc300).1) k) ?_
    refine own_go (st' := s₁.setTop (mkF m 47 #[oi p0, oi p1, oi p2, oi p3, oi n4, oi n5, oi u6, oi u7, .unset, .unset, .unset, .unset, .unset, .unset, .unset, .unset, .unset, .unset, .unset] [(.int u6)])) (fun _ k => XS.iload X0.here hx rfl (hb hby at_45) rfl k) ?_
    refine own_go (st' := s₁.setTop (mkF m 59 #[oi p0, oi p1, oi p2, oi p3, oi n4, oi n5, oi u6, oi u7, .unset, .unset, .unset, .unset, .unset, .unset, .unset, .unset, .unset, .unset, .unset] [(.int u6)])) (fun _ k => XS.goto X0.here hx rfl (pc0 := 47) (pc' := 59) rfl (hb hby at_47) (by decide) (by decide) k) ?_
    exact J59_1 _ _ u6 _ _ X0 e0 N0 hS0 (by omega) hZ hown hl_u6
set_option maxRecDepth 65536 in
set_option maxHeartbeats 40000000 in
theorem comes_1 {Post : Tables → Env → Array Value → State → Outcome → State → Prop} (hpost : ∀ tb e args s v u, (limb_1_1.after args s (.returned v) u = true ∧ limb_1_2.after args s (.returned v) u = true ∧ True) → ReturnedEndW s (.returned v) u (Jvm.fieldLocs frame_1_writes args s ++ Jvm.arrayLocs frame_1_arrays args s ++ Jvm.staticLocs frame_1_statics s) 32 1152 → Post tb e args s (.returned v) u) :
    ArmFor flags0 classFile x code maxLocals ret World_1 tables_1 room_1 Calls_1 rest_1 Pre_1 Post := by
  intro l hfl _ _ p e ha hc hk s m args below hf hA hF happ hP
  obtain ⟨hcalls, hrest, hpre⟩ := hP
  obtain ⟨-, -, -, hnamed, -, -, -, hat⟩ := (Spec.applies_iff hf).mp happ
  obtain ⟨hg, hn⟩ := and_e (Cond.before_iff.mp (show (Jvm.Cond.and given_1 narrow_1).before args s = true from hpre))
  obtain ⟨h1, h2⟩ := and_e hg
  obtain ⟨w0, w1, w2, w3, rfl⟩ : ∃ w0 w1 w2 w3 : Value, args = #[w0, w1, w2, w3] := by
    have hs : args.size = 4 := by simpa [Cond.value, given_1] using h1
    obtain ⟨L⟩ := args
    match L, hs with
    | [w0, w1, w2, w3], _ => exact ⟨w0, w1, w2, w3, rfl⟩
  have hw := fun d (hd : d ∈ tables_1) => atoms_spec (ws := Jvm.Cond.code x code maxLocals ret :: tables_1) hat d (List.mem_cons_of_mem _ hd)
  have hfit : Fit s := fun {y c} hc i hi => by
    obtain ⟨ha, rfl⟩ := Array.getElem?_eq_some_iff.mp hc
    have q := List.all_eq_true.mp ((Array.all_eq_true_iff_forall_mem.mp hF) _ (Array.getElem_mem ha)) i (List.mem_range.mpr hi)
    simpa [Array.getElem?_eq_getElem hi] using q
  obtain ⟨hsets, hown0⟩ := atoms_of _ (rest_1_c_eq ▸ (show rest_1_c.before _ s = true from hrest))
  obtain ⟨ha0, hr0⟩ := and_e h2
  obtain ⟨p0, ev0⟩ := is_v ha0
  obtain rfl : w0 = (.int p0) := Option.some.inj ev0
  obtain ⟨ha1, hr1⟩ := and_e hr0
  obtain ⟨p1, ev1⟩ := is_v ha1
  obtain rfl : w1 = (.int p1) := Option.some.inj ev1
  obtain ⟨ha2, hr2⟩ := and_e hr1
  obtain ⟨p2, ev2⟩ := is_v ha2
  obtain rfl : w2 = (.int p2) := Option.some.inj ev2
  obtain ⟨p3, ev3⟩ := is_v hr2
  obtain rfl : w3 = (.int p3) := Option.some.inj ev3
  have eHigh := own_stI (Cond.before_iff.mp (hsets _ (List.mem_of_getElem? (i := 12) rfl)))
  have sHigh : Sta s s.heap oS5 "high" "I" (.int (127 : Int32)) := Sta.start eHigh (Or.inl (hsets _ (List.mem_of_getElem? (i := 10) rfl)))
  obtain ⟨ca, eca⟩ := arr_v (Cond.before_iff.mp (hsets _ (List.mem_of_getElem? (i := 13) rfl)))
  obtain ⟨clca, Arca⟩ := Arr.start eca (Cond.before_iff.mp (hsets _ (List.mem_of_getElem? (i := 13) rfl)))
  have sca : Sta s s.heap oS5 "cache" oS8 (.ref ca) := Sta.start eca (Or.inr ⟨(own_hw hw 80), (hsets _ (List.mem_of_getElem? (i := 11) rfl))⟩)
  have hca := own_cache_of eca Arca (own_len eca Arca.1 (Cond.before_iff.mp (hsets _ (List.mem_of_getElem? (i := 15) rfl)))) (Cond.before_iff.mp (hsets _ (List.mem_of_getElem? (i := 16) rfl)))
  obtain ⟨zc, ezc⟩ := is_v (Cond.before_iff.mp (hsets _ (List.mem_of_getElem? (i := 1) rfl)))
  have szc : Sta s s.heap oS0 oS4 "Z" (.int zc) := Sta.start ezc (Or.inl (hsets _ (List.mem_of_getElem? (i := 0) rfl)))
  have hzc : ¬ zc = (0 : Int32) := fun q0 => by
    have q := (hsets _ (List.mem_of_getElem? (i := 2) rfl))
    simp only [Cond.before, Cond.holds, Cond.value, ezc, q0] at q
    simp [Term.eval] at q
  obtain ⟨n, o, h1, h2, h3, _, L, rfl, hQ, hq⟩ := rm0 l s _ hw tables_1 p0 p1 p2 p3 ca zc s.heap s.heap.size (Nat.le_refl _) sHigh sca hca szc hzc p e ha hc hk s m _ below hf ((Spec.applies_iff_loose hf).mp happ).1 ⟨rfl, State.Warmed39.refl s, rfl⟩ trivial
  obtain ⟨rfl, N, -⟩ := hQ
  refine ⟨n, _, h1, h2, h3, hpost _ _ _ _ _ _ ⟨Cond.after_iff.mpr rfl, Cond.after_iff.mpr (eq_i res_at (Term.int_eval (1)) rfl), trivial⟩ ⟨hq.1, hq.2.1, hq.2.2.1, (hq.2.2.2.sift fun y hy => Or.inr (N y hy)).mono (by decide) (by decide)⟩⟩
theorem main_1_1 : Claimed_1_1 := comes_1 fun _ _ _ _ _ _ h hF => ⟨h.1, hF⟩
theorem main_1_2 : Claimed_1_2 := comes_1 fun _ _ _ _ _ _ h hF => ⟨h.2.1, hF⟩
end Jvm.Pilot.@@N@@
namespace Jvm.Pilot.@@N@@
open Jvm Jvm.ClassFile Sem Op Lib Jvm.Free Jvm.Stand Jvm.Pilot.@@N@@.Jvm.D
/-! MADE BY PROGRAM (witnessworld.py) out of the Statement's table words and the real class files: 25 classes; the members and pool entries that the words name. The judged class is class 1, her method 2. -/
namespace start1
open Jvm.ClassFile
def u (s : String) : CpInfo := .utf8 (stringToUtf16 s)
/-- a pool by its gaps: so many unusable entries, then the entry; so many at the end -/
def gap : Nat → List CpInfo → List CpInfo
  | 0, r => r
  | n + 1, r => .unusable :: gap n r
def poolList (es : List (Nat × CpInfo)) (last : Nat) : List CpInfo := es.foldr (fun e r => gap e.1 (e.2 :: r)) (gap last [])
def pool (es : List (Nat × CpInfo)) (last : Nat) : Array CpInfo := ⟨poolList es last⟩
def fileOf (pool : Array CpInfo) (this : Nat) (attrs : Array Attribute := #[]) (ms : Array MethodInfo := #[]) (fl : Nat := 33) (sup : Nat := 0) (ifs : Array Nat := #[]) (fds : Array FieldInfo := #[]) : ClassFile where
  minorVersion := 0
  majorVersion := 65
  constantPool := pool
  accessFlags := fl
  thisClass := this
  superClass := sup
  interfaces := ifs
  fields := fds
  methods := ms
  attributes := attrs
def plain (name : String) (sup : Option ClassId) : Class where
  name := name
  kind := .ordinary
  loader := none
  accessFlags := 33
  super := sup
  interfaces := #[]
  cf := none
  fields := #[]
  methods := #[]
  instanceTypes := #[]
  staticTypes := #[]
  resolved := #[]
  callSites := []
  init := .initialized
  statics := none
  mirror := none

def pool0 : Array CpInfo := pool [(5, u "<init>"), (0, u "()V"), (1, .class_ 10), (1, u "java/lang/Object")] 113

def k0c0 : Code := { maxStack := 0, maxLocals := 1, code := object_method_1_code, exceptionTable := #[], attributes := #[] }
def k0m0 : Method := { name := "<init>", desc := "()V", sig := { parameters := [], returnType := none }, accessFlags := 1, code := some k0c0 }
/-- java/lang/Object -/
def k0 : Class := { plain "java/lang/Object" none with
  accessFlags := 33
  interfaces := #[]
  cf := some (fileOf pool0 8 #[] #[{ accessFlags := 1, nameIndex := 5, descriptorIndex := 6, attributes := #[] }] 33 0 #[] #[])
  fields := #[]
  methods := #[k0m0]
  instanceTypes := #[]
  staticTypes := #[]
  resolved := Array.replicate 124 none
  statics := none }

def pool1 : Array CpInfo := pool [(2, .class_ 4), (1, u "java/lang/Object"), (0, u "<init>"), (0, u "()V"), (0, .class_ 8), (0, u "java/lang/String"), (0, .methodref 7 10), (0, .nameAndType 5 11), (0, u "([C)V"), (0, .integer 2147483647), (0, .methodref 14 15), (0, .class_ 16), (0, .nameAndType 17 18), (0, u "com/example/limpet/limpet/TopicPartitionEqualsPinLaw"), (0, u "make"), (0, u "(ICC)Ljava/lang/String;"), (0, .class_ 20), (0, u "com/example/limpet/limpet/TopicPartition"), (0, .methodref 19 22), (0, .nameAndType 5 23), (0, u "(Ljava/lang/String;I)V"), (0, .methodref 19 25), (0, .nameAndType 26 27), (0, u "equals"), (0, u "(Ljava/lang/Object;)Z"), (0, .methodref 29 30), (0, .class_ 31), (0, .nameAndType 32 33), (0, u "java/lang/Integer"), (0, u "valueOf"), (0, u "(I)Ljava/lang/Integer;"), (3, u "law"), (0, u "(IIII)Z")] 2

def k1m0 : Method := { name := "<init>", desc := "()V", sig := { parameters := [], returnType := none }, accessFlags := 1, code := none }
def k1c1 : Code := { maxStack := 6, maxLocals := 3, code := method_2_code, exceptionTable := #[], attributes := #[] }
def k1m1 : Method := { name := "make", desc := "(ICC)Ljava/lang/String;", sig := { parameters := [.int, .char, .char], returnType := some (.object "java/lang/String") }, accessFlags := 10, code := some k1c1 }
def k1c2 : Code := { maxStack := 4, maxLocals := 19, code := code, exceptionTable := #[], attributes := #[] }
def k1m2 : Method := { name := "law", desc := "(IIII)Z", sig := { parameters := [.int, .int, .int, .int], returnType := some .boolean }, accessFlags := 9, code := some k1c2 }
/-- com/example/limpet/limpet/TopicPartitionEqualsPinLaw -/
def k1 : Class := { plain "com/example/limpet/limpet/TopicPartitionEqualsPinLaw" (some 0) with
  accessFlags := 49
  interfaces := #[]
  cf := some (fileOf pool1 14 #[] #[{ accessFlags := 1, nameIndex := 5, descriptorIndex := 6, attributes := #[] }, { accessFlags := 10, nameIndex := 17, descriptorIndex := 18, attributes := #[] }, { accessFlags := 9, nameIndex := 37, descriptorIndex := 38, attributes := #[] }] 49 2 #[] #[])
  fields := #[]
  methods := #[k1m0, k1m1, k1m2]
  instanceTypes := #[]
  staticTypes := #[]
  resolved := Array.replicate 41 none
  statics := none }

def pool2 : Array CpInfo := pool [(1, .class_ 2), (0, u "java/io/Serializable"), (0, .class_ 4), (0, u "java/lang/Object")] 2

/-- java/io/Serializable -/
def k2 : Class := { plain "java/io/Serializable" (some 0) with
  accessFlags := 1537
  interfaces := #[]
  cf := some (fileOf pool2 1 #[] #[] 1537 3 #[] #[])
  fields := #[]
  methods := #[]
  instanceTypes := #[]
  staticTypes := #[]
  resolved := Array.replicate 7 none
  statics := none }

def pool3 : Array CpInfo := pool [(1, .class_ 2), (0, u "java/lang/Comparable"), (0, .class_ 4), (0, u "java/lang/Object")] 7

/-- java/lang/Comparable -/
def k3 : Class := { plain "java/lang/Comparable" (some 0) with
  accessFlags := 1537
  interfaces := #[]
  cf := some (fileOf pool3 1 #[] #[] 1537 3 #[] #[])
  fields := #[]
  methods := #[]
  instanceTypes := #[]
  staticTypes := #[]
  resolved := Array.replicate 12 none
  statics := none }

def pool4 : Array CpInfo := pool [(2, .class_ 4), (1, u "java/lang/CharSequence"), (42, .class_ 48), (0, u "java/lang/CharSequence$1CodePointIterator"), (10, .class_ 60), (0, u "java/lang/CharSequence$1CharIterator"), (5, .class_ 67), (0, u "java/lang/Object")] 63

/-- java/lang/CharSequence -/
def k4 : Class := { plain "java/lang/CharSequence" (some 0) with
  accessFlags := 1537
  interfaces := #[]
  cf := some (fileOf pool4 2 #[.nestMembers #[47, 59]] #[] 1537 66 #[] #[])
  fields := #[]
  methods := #[]
  instanceTypes := #[]
  staticTypes := #[]
  resolved := Array.replicate 131 none
  statics := none }

def pool5 : Array CpInfo := pool [(1, .class_ 2), (0, u "java/lang/constant/Constable"), (0, .class_ 4), (0, u "java/lang/Object")] 6

/-- java/lang/constant/Constable -/
def k5 : Class := { plain "java/lang/constant/Constable" (some 0) with
  accessFlags := 1537
  interfaces := #[]
  cf := some (fileOf pool5 1 #[] #[] 1537 3 #[] #[])
  fields := #[]
  methods := #[]
  instanceTypes := #[]
  staticTypes := #[]
  resolved := Array.replicate 11 none
  statics := none }

def pool6 : Array CpInfo := pool [(1, .class_ 2), (0, u "java/lang/constant/ConstantDesc"), (0, .class_ 4), (0, u "java/lang/Object")] 32

/-- java/lang/constant/ConstantDesc -/
def k6 : Class := { plain "java/lang/constant/ConstantDesc" (some 0) with
  accessFlags := 1537
  interfaces := #[]
  cf := some (fileOf pool6 1 #[] #[] 1537 3 #[] #[])
  fields := #[]
  methods := #[]
  instanceTypes := #[]
  staticTypes := #[]
  resolved := Array.replicate 37 none
  statics := none }

def pool7 : Array CpInfo := pool [(1, .methodref 2 3), (0, .class_ 4), (0, .nameAndType 5 6), (0, u "java/lang/Object"), (0, u "<init>"), (0, u "()V"), (2, .fieldref 10 11), (0, .class_ 12), (0, .nameAndType 13 14), (0, u "java/lang/String"), (0, u "value"), (0, u "[B"), (0, .fieldref 10 16), (0, .nameAndType 17 18), (0, u "coder"), (0, u "B"), (2, u "hash"), (0, u "I"), (2, u "hashIsZero"), (0, u "Z"), (0, .methodref 10 28), (0, .nameAndType 5 29), (0, u "([CIILjava/lang/Void;)V"), (8, .fieldref 10 39), (0, .nameAndType 40 26), (0, u "COMPACT_STRINGS"), (1, .class_ 44), (1, u "java/lang/StringUTF16"), (0, u "compress"), (1, .methodref 42 48), (0, .nameAndType 49 50), (0, u "coderFromArrayLen"), (0, u "([BI)B"), (56, .class_ 109), (1, u "java/lang/StringLatin1"), (32, u "()Z"), (34, .methodref 42 178), (0, .nameAndType 45 179), (0, u "([CII)[B"), (361, .methodref 107 542), (0, .nameAndType 543 544), (0, u "equals"), (0, u "([B[B)Z"), (28, u "(Ljava/lang/Object;)Z"), (1, .class_ 576), (0, u "java/lang/CharSequence"), (22, u "CASE_INSENSITIVE_ORDER"), (0, u "Ljava/util/Comparator;"), (91, u "isEmpty"), (317, u "([C)V"), (90, u "serialPersistentFields"), (0, u "[Ljava/io/ObjectStreamField;"), (0, .class_ 1104), (0, u "java/lang/String$CaseInsensitiveComparator"), (1, .class_ 1107), (0, u "java/io/Serializable"), (0, .class_ 1109), (0, u "java/lang/Comparable"), (0, .class_ 1111), (0, u "java/lang/constant/Constable"), (0, .class_ 1113), (0, u "java/lang/constant/ConstantDesc"), (2, u "serialVersionUID"), (0, u "J"), (3, u "REPL"), (0, u "C"), (2, u "LATIN1"), (1, u "UTF16")] 323

def k7m0 : Method := { name := "<init>", desc := "()V", sig := { parameters := [], returnType := none }, accessFlags := 1, code := none }
def k7c1 : Code := { maxStack := 5, maxLocals := 2, code := jdk_42_method_3_code, exceptionTable := #[], attributes := #[] }
def k7m1 : Method := { name := "<init>", desc := "([C)V", sig := { parameters := [(.array .char)], returnType := none }, accessFlags := 1, code := some k7c1 }
def k7c2 : Code := { maxStack := 1, maxLocals := 1, code := jdk_42_method_55_code, exceptionTable := #[], attributes := #[] }
def k7m2 : Method := { name := "isEmpty", desc := "()Z", sig := { parameters := [], returnType := some .boolean }, accessFlags := 1, code := some k7c2 }
def k7c3 : Code := { maxStack := 2, maxLocals := 3, code := jdk_42_method_66_code, exceptionTable := #[], attributes := #[] }
def k7m3 : Method := { name := "equals", desc := "(Ljava/lang/Object;)Z", sig := { parameters := [(.object "java/lang/Object")], returnType := some .boolean }, accessFlags := 1, code := some k7c3 }
def k7c4 : Code := { maxStack := 4, maxLocals := 6, code := jdk_42_method_149_code, exceptionTable := #[], attributes := #[] }
def k7m4 : Method := { name := "<init>", desc := "([CIILjava/lang/Void;)V", sig := { parameters := [(.array .char), .int, .int, (.object "java/lang/Void")], returnType := none }, accessFlags := 2, code := some k7c4 }
/-- java/lang/String -/
def k7 : Class := { plain "java/lang/String" (some 0) with
  accessFlags := 49
  interfaces := #[2, 3, 4, 5, 6]
  cf := some (fileOf pool7 10 #[.nestMembers #[1103]] #[{ accessFlags := 1, nameIndex := 5, descriptorIndex := 6, attributes := #[] }, { accessFlags := 1, nameIndex := 5, descriptorIndex := 1010, attributes := #[] }, { accessFlags := 1, nameIndex := 692, descriptorIndex := 142, attributes := #[] }, { accessFlags := 1, nameIndex := 543, descriptorIndex := 573, attributes := #[] }, { accessFlags := 2, nameIndex := 5, descriptorIndex := 29, attributes := #[] }] 49 2 #[1106, 1108, 575, 1110, 1112] #[{ accessFlags := 18, nameIndex := 13, descriptorIndex := 14, attributes := #[] }, { accessFlags := 18, nameIndex := 17, descriptorIndex := 18, attributes := #[] }, { accessFlags := 2, nameIndex := 21, descriptorIndex := 22, attributes := #[] }, { accessFlags := 2, nameIndex := 25, descriptorIndex := 26, attributes := #[] }, { accessFlags := 26, nameIndex := 1116, descriptorIndex := 1117, attributes := #[] }, { accessFlags := 24, nameIndex := 40, descriptorIndex := 26, attributes := #[] }, { accessFlags := 26, nameIndex := 1101, descriptorIndex := 1102, attributes := #[] }, { accessFlags := 26, nameIndex := 1121, descriptorIndex := 1122, attributes := #[] }, { accessFlags := 25, nameIndex := 599, descriptorIndex := 600, attributes := #[] }, { accessFlags := 24, nameIndex := 1125, descriptorIndex := 18, attributes := #[] }, { accessFlags := 24, nameIndex := 1127, descriptorIndex := 18, attributes := #[] }])
  fields := #[{ name := "value", type := (.array .byte), accessFlags := 18, slot := 0, constantValue := 0 }, { name := "coder", type := .byte, accessFlags := 18, slot := 1, constantValue := 0 }, { name := "hash", type := .int, accessFlags := 2, slot := 2, constantValue := 0 }, { name := "hashIsZero", type := .boolean, accessFlags := 2, slot := 3, constantValue := 0 }, { name := "serialVersionUID", type := .long, accessFlags := 26, slot := 0, constantValue := 0 }, { name := "COMPACT_STRINGS", type := .boolean, accessFlags := 24, slot := 1, constantValue := 0 }, { name := "serialPersistentFields", type := (.array (.object "java/io/ObjectStreamField")), accessFlags := 26, slot := 2, constantValue := 0 }, { name := "REPL", type := .char, accessFlags := 26, slot := 3, constantValue := 0 }, { name := "CASE_INSENSITIVE_ORDER", type := (.object "java/util/Comparator"), accessFlags := 25, slot := 4, constantValue := 0 }, { name := "LATIN1", type := .byte, accessFlags := 24, slot := 5, constantValue := 0 }, { name := "UTF16", type := .byte, accessFlags := 24, slot := 6, constantValue := 0 }]
  methods := #[k7m0, k7m1, k7m2, k7m3, k7m4]
  instanceTypes := #[(.array .byte), .byte, .int, .boolean]
  staticTypes := #[.long, .boolean, (.array (.object "java/io/ObjectStreamField")), .char, (.object "java/util/Comparator"), .byte, .byte]
  resolved := Array.replicate 1451 none
  statics := some 0 }

def pool8 : Array CpInfo := pool [(6, .class_ 8), (1, u "java/lang/Object"), (0, u "<init>"), (0, u "()V"), (1, .class_ 14), (1, u "java/lang/StringUTF16"), (31, u "$assertionsDisabled"), (0, u "Z"), (13, u "HI_BYTE_SHIFT"), (0, u "I"), (2, u "LO_BYTE_SHIFT"), (49, .methodref 12 116), (0, .nameAndType 117 118), (0, u "compress"), (0, u "([CI[BII)I"), (3, u "([CII)[B"), (138, u "coderFromArrayLen"), (0, u "([BI)B"), (106, .class_ 371), (1, u "java/lang/StringUTF16$LinesSpliterator"), (58, u "MAX_LENGTH"), (196, .class_ 628), (0, u "java/lang/StringUTF16$CodePointsSpliterator"), (0, .class_ 630), (0, u "java/lang/StringUTF16$CharsSpliterator")] 4

def k8m0 : Method := { name := "<init>", desc := "()V", sig := { parameters := [], returnType := none }, accessFlags := 0, code := none }
def k8c1 : Code := { maxStack := 2, maxLocals := 2, code := jdk_52_method_15_code, exceptionTable := #[], attributes := #[] }
def k8m1 : Method := { name := "coderFromArrayLen", desc := "([BI)B", sig := { parameters := [(.array .byte), .int], returnType := some .byte }, accessFlags := 8, code := some k8c1 }
def k8c2 : Code := { maxStack := 5, maxLocals := 6, code := jdk_52_method_16_code, exceptionTable := #[], attributes := #[] }
def k8m2 : Method := { name := "compress", desc := "([CII)[B", sig := { parameters := [(.array .char), .int, .int], returnType := some (.array .byte) }, accessFlags := 9, code := some k8c2 }
def k8c3 : Code := { maxStack := 3, maxLocals := 7, code := jdk_52_method_21_code, exceptionTable := #[], attributes := #[] }
def k8m3 : Method := { name := "compress", desc := "([CI[BII)I", sig := { parameters := [(.array .char), .int, (.array .byte), .int, .int], returnType := some .int }, accessFlags := 9, code := some k8c3 }
/-- java/lang/StringUTF16 -/
def k8 : Class := { plain "java/lang/StringUTF16" (some 0) with
  accessFlags := 48
  interfaces := #[]
  cf := some (fileOf pool8 12 #[.nestMembers #[627, 629, 369]] #[{ accessFlags := 0, nameIndex := 9, descriptorIndex := 10, attributes := #[] }, { accessFlags := 8, nameIndex := 261, descriptorIndex := 262, attributes := #[] }, { accessFlags := 9, nameIndex := 117, descriptorIndex := 122, attributes := #[] }, { accessFlags := 9, nameIndex := 117, descriptorIndex := 118, attributes := #[] }] 48 6 #[] #[{ accessFlags := 26, nameIndex := 61, descriptorIndex := 62, attributes := #[] }, { accessFlags := 26, nameIndex := 65, descriptorIndex := 62, attributes := #[] }, { accessFlags := 24, nameIndex := 430, descriptorIndex := 62, attributes := #[] }, { accessFlags := 4120, nameIndex := 46, descriptorIndex := 47, attributes := #[] }])
  fields := #[{ name := "HI_BYTE_SHIFT", type := .int, accessFlags := 26, slot := 0, constantValue := 0 }, { name := "LO_BYTE_SHIFT", type := .int, accessFlags := 26, slot := 1, constantValue := 0 }, { name := "MAX_LENGTH", type := .int, accessFlags := 24, slot := 2, constantValue := 0 }, { name := "$assertionsDisabled", type := .boolean, accessFlags := 4120, slot := 3, constantValue := 0 }]
  methods := #[k8m0, k8m1, k8m2, k8m3]
  instanceTypes := #[]
  staticTypes := #[.int, .int, .int, .boolean]
  resolved := Array.replicate 635 none
  statics := none }

def pool9 : Array CpInfo := pool [(1, .methodref 2 3), (0, .class_ 4), (0, .nameAndType 5 6), (0, u "java/lang/Object"), (0, u "<init>"), (0, u "()V"), (0, .methodref 8 9), (0, .class_ 10), (0, .nameAndType 11 12), (0, u "com/example/limpet/limpet/TopicPartition"), (0, u "requireTopicName"), (0, u "(Ljava/lang/String;)Ljava/lang/String;"), (9, .fieldref 8 23), (0, .nameAndType 24 25), (0, u "topic"), (0, u "Ljava/lang/String;"), (0, .fieldref 8 27), (0, .nameAndType 28 29), (0, u "number"), (0, u "I"), (2, .methodref 33 34), (0, .class_ 35), (0, .nameAndType 36 37), (0, u "java/util/Objects"), (0, u "requireNonNull"), (0, u "(Ljava/lang/Object;Ljava/lang/String;)Ljava/lang/Object;"), (1, .class_ 41), (1, u "java/lang/String"), (30, u "(Ljava/lang/String;I)V"), (0, .string 24), (0, .methodref 39 75), (0, .nameAndType 76 77), (0, u "isEmpty"), (0, u "()Z"), (17, .methodref 39 96), (0, .nameAndType 97 98), (0, u "equals"), (0, u "(Ljava/lang/Object;)Z"), (9, .class_ 109), (0, u "java/lang/Comparable")] 36

def k9c0 : Code := { maxStack := 4, maxLocals := 3, code := prog_38_method_1_code, exceptionTable := #[], attributes := #[] }
def k9m0 : Method := { name := "<init>", desc := "(Ljava/lang/String;I)V", sig := { parameters := [(.object "java/lang/String"), .int], returnType := none }, accessFlags := 1, code := some k9c0 }
def k9c1 : Code := { maxStack := 3, maxLocals := 1, code := prog_38_method_3_code, exceptionTable := #[], attributes := #[] }
def k9m1 : Method := { name := "requireTopicName", desc := "(Ljava/lang/String;)Ljava/lang/String;", sig := { parameters := [(.object "java/lang/String")], returnType := some (.object "java/lang/String") }, accessFlags := 8, code := some k9c1 }
def k9c2 : Code := { maxStack := 2, maxLocals := 3, code := prog_38_method_8_code, exceptionTable := #[], attributes := #[] }
def k9m2 : Method := { name := "equals", desc := "(Ljava/lang/Object;)Z", sig := { parameters := [(.object "java/lang/Object")], returnType := some .boolean }, accessFlags := 1, code := some k9c2 }
/-- com/example/limpet/limpet/TopicPartition -/
def k9 : Class := { plain "com/example/limpet/limpet/TopicPartition" (some 0) with
  accessFlags := 49
  interfaces := #[3]
  cf := some (fileOf pool9 8 #[] #[{ accessFlags := 1, nameIndex := 5, descriptorIndex := 72, attributes := #[] }, { accessFlags := 8, nameIndex := 11, descriptorIndex := 12, attributes := #[] }, { accessFlags := 1, nameIndex := 97, descriptorIndex := 98, attributes := #[] }] 49 2 #[108] #[{ accessFlags := 18, nameIndex := 24, descriptorIndex := 25, attributes := #[] }, { accessFlags := 18, nameIndex := 28, descriptorIndex := 29, attributes := #[] }])
  fields := #[{ name := "topic", type := (.object "java/lang/String"), accessFlags := 18, slot := 0, constantValue := 0 }, { name := "number", type := .int, accessFlags := 18, slot := 1, constantValue := 0 }]
  methods := #[k9m0, k9m1, k9m2]
  instanceTypes := #[(.object "java/lang/String"), .int]
  staticTypes := #[]
  resolved := Array.replicate 146 none
  statics := none }

def pool10 : Array CpInfo := pool [(2, .class_ 4), (1, u "java/lang/Object"), (0, u "<init>"), (0, u "()V"), (35, .class_ 44), (1, u "java/util/Objects"), (0, u "requireNonNull"), (48, u "(Ljava/lang/Object;Ljava/lang/String;)Ljava/lang/Object;")] 89

def k10m0 : Method := { name := "<init>", desc := "()V", sig := { parameters := [], returnType := none }, accessFlags := 2, code := none }
def k10c1 : Code := { maxStack := 3, maxLocals := 2, code := jdk_31_method_11_code, exceptionTable := #[], attributes := #[] }
def k10m1 : Method := { name := "requireNonNull", desc := "(Ljava/lang/Object;Ljava/lang/String;)Ljava/lang/Object;", sig := { parameters := [(.object "java/lang/Object"), (.object "java/lang/String")], returnType := some (.object "java/lang/Object") }, accessFlags := 9, code := some k10c1 }
/-- java/util/Objects -/
def k10 : Class := { plain "java/util/Objects" (some 0) with
  accessFlags := 49
  interfaces := #[]
  cf := some (fileOf pool10 42 #[] #[{ accessFlags := 2, nameIndex := 5, descriptorIndex := 6, attributes := #[] }, { accessFlags := 9, nameIndex := 45, descriptorIndex := 94, attributes := #[] }] 49 2 #[] #[])
  fields := #[]
  methods := #[k10m0, k10m1]
  instanceTypes := #[]
  staticTypes := #[]
  resolved := Array.replicate 184 none
  statics := none }

def pool11 : Array CpInfo := pool [(1, .methodref 2 3), (0, .class_ 4), (0, .nameAndType 5 6), (0, u "java/lang/Object"), (0, u "<init>"), (0, u "()V"), (1, .class_ 10), (1, u "java/lang/Number"), (2, .class_ 14), (0, u "java/io/Serializable"), (0, u "serialVersionUID"), (0, u "J")] 20

def k11c0 : Code := { maxStack := 1, maxLocals := 1, code := jdk_18_method_1_code, exceptionTable := #[], attributes := #[] }
def k11m0 : Method := { name := "<init>", desc := "()V", sig := { parameters := [], returnType := none }, accessFlags := 1, code := some k11c0 }
/-- java/lang/Number -/
def k11 : Class := { plain "java/lang/Number" (some 0) with
  accessFlags := 1057
  interfaces := #[2]
  cf := some (fileOf pool11 8 #[] #[{ accessFlags := 1, nameIndex := 5, descriptorIndex := 6, attributes := #[] }] 1057 2 #[13] #[{ accessFlags := 26, nameIndex := 15, descriptorIndex := 16, attributes := #[] }])
  fields := #[{ name := "serialVersionUID", type := .long, accessFlags := 26, slot := 0, constantValue := 0 }]
  methods := #[k11m0]
  instanceTypes := #[]
  staticTypes := #[.long]
  resolved := Array.replicate 37 none
  statics := none }

def pool12 : Array CpInfo := pool [(1, .class_ 2), (0, u "java/lang/Integer"), (16, u "digits"), (0, u "[C"), (46, u "<init>"), (17, u "DigitOnes"), (0, u "[B"), (2, u "DigitTens"), (10, .nameAndType 67 101), (0, u "()V"), (85, u "valueOf"), (0, u "(I)Ljava/lang/Integer;"), (0, .class_ 190), (0, u "java/lang/Integer$IntegerCache"), (0, .fieldref 189 192), (0, .nameAndType 193 194), (0, u "high"), (0, u "I"), (0, .fieldref 189 196), (0, .nameAndType 197 198), (0, u "cache"), (0, u "[Ljava/lang/Integer;"), (0, .methodref 1 200), (0, .nameAndType 67 201), (0, u "(I)V"), (0, .methodref 203 100), (0, .class_ 204), (0, u "java/lang/Number"), (0, .fieldref 1 206), (0, .nameAndType 207 194), (0, u "value"), (94, u "TYPE"), (0, u "Ljava/lang/Class;"), (0, .class_ 305), (0, u "java/lang/Comparable"), (0, .class_ 307), (0, u "java/lang/constant/Constable"), (0, .class_ 309), (0, u "java/lang/constant/ConstantDesc"), (0, u "MIN_VALUE"), (1, u "MAX_VALUE"), (3, u "SIZE"), (1, u "BYTES"), (1, u "serialVersionUID"), (0, u "J")] 131

def k12c0 : Code := { maxStack := 3, maxLocals := 1, code := jdk_33_method_22_code, exceptionTable := #[], attributes := #[] }
def k12m0 : Method := { name := "valueOf", desc := "(I)Ljava/lang/Integer;", sig := { parameters := [.int], returnType := some (.object "java/lang/Integer") }, accessFlags := 9, code := some k12c0 }
def k12c1 : Code := { maxStack := 2, maxLocals := 2, code := jdk_33_method_23_code, exceptionTable := #[], attributes := #[] }
def k12m1 : Method := { name := "<init>", desc := "(I)V", sig := { parameters := [.int], returnType := none }, accessFlags := 1, code := some k12c1 }
/-- java/lang/Integer -/
def k12 : Class := { plain "java/lang/Integer" (some 11) with
  accessFlags := 49
  interfaces := #[3, 5, 6]
  cf := some (fileOf pool12 1 #[.nestMembers #[189]] #[{ accessFlags := 9, nameIndex := 187, descriptorIndex := 188, attributes := #[] }, { accessFlags := 1, nameIndex := 67, descriptorIndex := 201, attributes := #[] }] 49 203 #[304, 306, 308] #[{ accessFlags := 25, nameIndex := 310, descriptorIndex := 194, attributes := #[] }, { accessFlags := 25, nameIndex := 312, descriptorIndex := 194, attributes := #[] }, { accessFlags := 25, nameIndex := 302, descriptorIndex := 303, attributes := #[] }, { accessFlags := 24, nameIndex := 19, descriptorIndex := 20, attributes := #[] }, { accessFlags := 24, nameIndex := 89, descriptorIndex := 86, attributes := #[] }, { accessFlags := 24, nameIndex := 85, descriptorIndex := 86, attributes := #[] }, { accessFlags := 18, nameIndex := 207, descriptorIndex := 194, attributes := #[] }, { accessFlags := 25, nameIndex := 316, descriptorIndex := 194, attributes := #[] }, { accessFlags := 25, nameIndex := 318, descriptorIndex := 194, attributes := #[] }, { accessFlags := 26, nameIndex := 320, descriptorIndex := 321, attributes := #[] }])
  fields := #[{ name := "MIN_VALUE", type := .int, accessFlags := 25, slot := 0, constantValue := 0 }, { name := "MAX_VALUE", type := .int, accessFlags := 25, slot := 1, constantValue := 0 }, { name := "TYPE", type := (.object "java/lang/Class"), accessFlags := 25, slot := 2, constantValue := 0 }, { name := "digits", type := (.array .char), accessFlags := 24, slot := 3, constantValue := 0 }, { name := "DigitTens", type := (.array .byte), accessFlags := 24, slot := 4, constantValue := 0 }, { name := "DigitOnes", type := (.array .byte), accessFlags := 24, slot := 5, constantValue := 0 }, { name := "value", type := .int, accessFlags := 18, slot := 0, constantValue := 0 }, { name := "SIZE", type := .int, accessFlags := 25, slot := 6, constantValue := 0 }, { name := "BYTES", type := .int, accessFlags := 25, slot := 7, constantValue := 0 }, { name := "serialVersionUID", type := .long, accessFlags := 26, slot := 8, constantValue := 0 }]
  methods := #[k12m0, k12m1]
  instanceTypes := #[.int]
  staticTypes := #[.int, .int, (.object "java/lang/Class"), (.array .char), (.array .byte), (.array .byte), .int, .int, .long]
  resolved := Array.replicate 453 none
  statics := none }

def pool13 : Array CpInfo := pool [(2, .class_ 4), (1, u "java/lang/Object"), (0, u "<init>"), (0, u "()V"), (0, .class_ 8), (0, u "java/lang/Integer"), (7, .class_ 18), (1, u "java/lang/Integer$IntegerCache"), (0, u "$assertionsDisabled"), (0, u "Z"), (26, u "high"), (0, u "I"), (8, u "archivedCache"), (0, u "[Ljava/lang/Integer;"), (12, u "cache"), (0, u "low")] 27

def k13m0 : Method := { name := "<init>", desc := "()V", sig := { parameters := [], returnType := none }, accessFlags := 2, code := none }
/-- java/lang/Integer$IntegerCache -/
def k13 : Class := { plain "java/lang/Integer$IntegerCache" (some 0) with
  accessFlags := 48
  interfaces := #[]
  cf := some (fileOf pool13 16 #[.nestHost 7] #[{ accessFlags := 2, nameIndex := 5, descriptorIndex := 6, attributes := #[] }] 48 2 #[] #[{ accessFlags := 24, nameIndex := 72, descriptorIndex := 48, attributes := #[] }, { accessFlags := 24, nameIndex := 47, descriptorIndex := 48, attributes := #[] }, { accessFlags := 24, nameIndex := 71, descriptorIndex := 58, attributes := #[] }, { accessFlags := 8, nameIndex := 57, descriptorIndex := 58, attributes := #[] }, { accessFlags := 4120, nameIndex := 19, descriptorIndex := 20, attributes := #[] }])
  fields := #[{ name := "low", type := .int, accessFlags := 24, slot := 0, constantValue := 0 }, { name := "high", type := .int, accessFlags := 24, slot := 1, constantValue := 0 }, { name := "cache", type := (.array (.object "java/lang/Integer")), accessFlags := 24, slot := 2, constantValue := 0 }, { name := "archivedCache", type := (.array (.object "java/lang/Integer")), accessFlags := 8, slot := 3, constantValue := 0 }, { name := "$assertionsDisabled", type := .boolean, accessFlags := 4120, slot := 4, constantValue := 0 }]
  methods := #[k13m0]
  instanceTypes := #[]
  staticTypes := #[.int, .int, (.array (.object "java/lang/Integer")), (.array (.object "java/lang/Integer")), .boolean]
  resolved := Array.replicate 100 none
  statics := some 1 }

def pool14 : Array CpInfo := pool [(4, .class_ 6), (1, u "java/lang/Object"), (0, u "<init>"), (0, u "()V"), (5, .class_ 16), (1, u "java/lang/StringLatin1"), (104, u "$assertionsDisabled"), (0, u "Z"), (98, .class_ 223), (1, u "java/lang/StringLatin1$LinesSpliterator"), (57, u "equals"), (0, u "([B[B)Z"), (107, .class_ 391), (0, u "java/lang/StringLatin1$CharsSpliterator")] 3

def k14m0 : Method := { name := "<init>", desc := "()V", sig := { parameters := [], returnType := none }, accessFlags := 0, code := none }
def k14c1 : Code := { maxStack := 3, maxLocals := 3, code := jdk_43_method_13_code, exceptionTable := #[], attributes := #[] }
def k14m1 : Method := { name := "equals", desc := "([B[B)Z", sig := { parameters := [(.array .byte), (.array .byte)], returnType := some .boolean }, accessFlags := 9, code := some k14c1 }
/-- java/lang/StringLatin1 -/
def k14 : Class := { plain "java/lang/StringLatin1" (some 0) with
  accessFlags := 48
  interfaces := #[]
  cf := some (fileOf pool14 14 #[.nestMembers #[390, 221]] #[{ accessFlags := 0, nameIndex := 7, descriptorIndex := 8, attributes := #[] }, { accessFlags := 9, nameIndex := 281, descriptorIndex := 282, attributes := #[] }] 48 4 #[] #[{ accessFlags := 4120, nameIndex := 121, descriptorIndex := 122, attributes := #[] }])
  fields := #[{ name := "$assertionsDisabled", type := .boolean, accessFlags := 4120, slot := 0, constantValue := 0 }]
  methods := #[k14m0, k14m1]
  instanceTypes := #[]
  staticTypes := #[.boolean]
  resolved := Array.replicate 395 none
  statics := none }

def pool15 : Array CpInfo := pool [(2, .class_ 4), (1, u "java/lang/Object"), (0, u "<init>"), (0, u "()V"), (17, .class_ 26), (1, u "jdk/internal/util/Preconditions"), (28, .class_ 56), (0, u "jdk/internal/util/Preconditions$4"), (57, .class_ 115), (0, u "jdk/internal/util/Preconditions$1"), (7, u "SIOOBE_FORMATTER"), (0, u "Ljava/util/function/BiFunction;"), (0, .class_ 126), (0, u "jdk/internal/util/Preconditions$2"), (3, u "AIOOBE_FORMATTER"), (0, .class_ 132), (0, u "jdk/internal/util/Preconditions$3"), (3, u "IOOBE_FORMATTER")] 57

def k15m0 : Method := { name := "<init>", desc := "()V", sig := { parameters := [], returnType := none }, accessFlags := 1, code := none }
/-- jdk/internal/util/Preconditions -/
def k15 : Class := { plain "jdk/internal/util/Preconditions" (some 0) with
  accessFlags := 33
  interfaces := #[]
  cf := some (fileOf pool15 24 #[.nestMembers #[55, 131, 125, 114]] #[{ accessFlags := 1, nameIndex := 5, descriptorIndex := 6, attributes := #[] }] 33 2 #[] #[{ accessFlags := 25, nameIndex := 123, descriptorIndex := 124, attributes := #[] }, { accessFlags := 25, nameIndex := 130, descriptorIndex := 124, attributes := #[] }, { accessFlags := 25, nameIndex := 136, descriptorIndex := 124, attributes := #[] }])
  fields := #[{ name := "SIOOBE_FORMATTER", type := (.object "java/util/function/BiFunction"), accessFlags := 25, slot := 0, constantValue := 0 }, { name := "AIOOBE_FORMATTER", type := (.object "java/util/function/BiFunction"), accessFlags := 25, slot := 1, constantValue := 0 }, { name := "IOOBE_FORMATTER", type := (.object "java/util/function/BiFunction"), accessFlags := 25, slot := 2, constantValue := 0 }]
  methods := #[k15m0]
  instanceTypes := #[]
  staticTypes := #[(.object "java/util/function/BiFunction"), (.object "java/util/function/BiFunction"), (.object "java/util/function/BiFunction")]
  resolved := Array.replicate 194 none
  statics := some 2 }

def pool16 : Array CpInfo := pool [(9, u "<init>"), (6, .class_ 18), (1, u "java/lang/Object"), (0, u "()V"), (1, .class_ 23), (1, u "jdk/internal/util/ArraysSupport"), (0, u "LOG2_ARRAY_LONG_INDEX_SCALE"), (0, u "I"), (2, u "U"), (0, u "Ljdk/internal/misc/Unsafe;"), (8, u "BIG_ENDIAN"), (0, u "Z"), (8, u "LOG2_BYTE_BIT_SIZE"), (4, u "LOG2_ARRAY_INT_INDEX_SCALE"), (54, u "JLA"), (0, u "Ljdk/internal/access/JavaLangAccess;"), (11, u "LOG2_ARRAY_BOOLEAN_INDEX_SCALE"), (9, u "LOG2_ARRAY_BYTE_INDEX_SCALE"), (5, u "LOG2_ARRAY_CHAR_INDEX_SCALE"), (5, u "LOG2_ARRAY_SHORT_INDEX_SCALE"), (18, u "LOG2_ARRAY_FLOAT_INDEX_SCALE"), (24, u "LOG2_ARRAY_DOUBLE_INDEX_SCALE"), (89, u "T_BOOLEAN"), (2, u "T_CHAR"), (1, u "T_FLOAT"), (1, u "T_DOUBLE"), (1, u "T_BYTE"), (1, u "T_SHORT"), (1, u "T_INT"), (1, u "T_LONG"), (1, u "SOFT_MAX_ARRAY_LENGTH")] 83

def k16m0 : Method := { name := "<init>", desc := "()V", sig := { parameters := [], returnType := none }, accessFlags := 2, code := none }
/-- jdk/internal/util/ArraysSupport -/
def k16 : Class := { plain "jdk/internal/util/ArraysSupport" (some 0) with
  accessFlags := 33
  interfaces := #[]
  cf := some (fileOf pool16 21 #[] #[{ accessFlags := 2, nameIndex := 9, descriptorIndex := 19, attributes := #[] }] 33 16 #[] #[{ accessFlags := 24, nameIndex := 28, descriptorIndex := 29, attributes := #[] }, { accessFlags := 26, nameIndex := 38, descriptorIndex := 39, attributes := #[] }, { accessFlags := 25, nameIndex := 121, descriptorIndex := 25, attributes := #[] }, { accessFlags := 25, nameIndex := 131, descriptorIndex := 25, attributes := #[] }, { accessFlags := 25, nameIndex := 137, descriptorIndex := 25, attributes := #[] }, { accessFlags := 25, nameIndex := 143, descriptorIndex := 25, attributes := #[] }, { accessFlags := 25, nameIndex := 53, descriptorIndex := 25, attributes := #[] }, { accessFlags := 25, nameIndex := 24, descriptorIndex := 25, attributes := #[] }, { accessFlags := 25, nameIndex := 162, descriptorIndex := 25, attributes := #[] }, { accessFlags := 25, nameIndex := 187, descriptorIndex := 25, attributes := #[] }, { accessFlags := 26, nameIndex := 48, descriptorIndex := 25, attributes := #[] }, { accessFlags := 25, nameIndex := 277, descriptorIndex := 25, attributes := #[] }, { accessFlags := 25, nameIndex := 280, descriptorIndex := 25, attributes := #[] }, { accessFlags := 25, nameIndex := 282, descriptorIndex := 25, attributes := #[] }, { accessFlags := 25, nameIndex := 284, descriptorIndex := 25, attributes := #[] }, { accessFlags := 25, nameIndex := 286, descriptorIndex := 25, attributes := #[] }, { accessFlags := 25, nameIndex := 288, descriptorIndex := 25, attributes := #[] }, { accessFlags := 25, nameIndex := 290, descriptorIndex := 25, attributes := #[] }, { accessFlags := 25, nameIndex := 292, descriptorIndex := 25, attributes := #[] }, { accessFlags := 26, nameIndex := 108, descriptorIndex := 109, attributes := #[] }, { accessFlags := 25, nameIndex := 294, descriptorIndex := 25, attributes := #[] }])
  fields := #[{ name := "U", type := (.object "jdk/internal/misc/Unsafe"), accessFlags := 24, slot := 0, constantValue := 0 }, { name := "BIG_ENDIAN", type := .boolean, accessFlags := 26, slot := 1, constantValue := 0 }, { name := "LOG2_ARRAY_BOOLEAN_INDEX_SCALE", type := .int, accessFlags := 25, slot := 2, constantValue := 0 }, { name := "LOG2_ARRAY_BYTE_INDEX_SCALE", type := .int, accessFlags := 25, slot := 3, constantValue := 0 }, { name := "LOG2_ARRAY_CHAR_INDEX_SCALE", type := .int, accessFlags := 25, slot := 4, constantValue := 0 }, { name := "LOG2_ARRAY_SHORT_INDEX_SCALE", type := .int, accessFlags := 25, slot := 5, constantValue := 0 }, { name := "LOG2_ARRAY_INT_INDEX_SCALE", type := .int, accessFlags := 25, slot := 6, constantValue := 0 }, { name := "LOG2_ARRAY_LONG_INDEX_SCALE", type := .int, accessFlags := 25, slot := 7, constantValue := 0 }, { name := "LOG2_ARRAY_FLOAT_INDEX_SCALE", type := .int, accessFlags := 25, slot := 8, constantValue := 0 }, { name := "LOG2_ARRAY_DOUBLE_INDEX_SCALE", type := .int, accessFlags := 25, slot := 9, constantValue := 0 }, { name := "LOG2_BYTE_BIT_SIZE", type := .int, accessFlags := 26, slot := 10, constantValue := 0 }, { name := "T_BOOLEAN", type := .int, accessFlags := 25, slot := 11, constantValue := 0 }, { name := "T_CHAR", type := .int, accessFlags := 25, slot := 12, constantValue := 0 }, { name := "T_FLOAT", type := .int, accessFlags := 25, slot := 13, constantValue := 0 }, { name := "T_DOUBLE", type := .int, accessFlags := 25, slot := 14, constantValue := 0 }, { name := "T_BYTE", type := .int, accessFlags := 25, slot := 15, constantValue := 0 }, { name := "T_SHORT", type := .int, accessFlags := 25, slot := 16, constantValue := 0 }, { name := "T_INT", type := .int, accessFlags := 25, slot := 17, constantValue := 0 }, { name := "T_LONG", type := .int, accessFlags := 25, slot := 18, constantValue := 0 }, { name := "JLA", type := (.object "jdk/internal/access/JavaLangAccess"), accessFlags := 26, slot := 19, constantValue := 0 }, { name := "SOFT_MAX_ARRAY_LENGTH", type := .int, accessFlags := 25, slot := 20, constantValue := 0 }]
  methods := #[k16m0]
  instanceTypes := #[]
  staticTypes := #[(.object "jdk/internal/misc/Unsafe"), .boolean, .int, .int, .int, .int, .int, .int, .int, .int, .int, .int, .int, .int, .int, .int, .int, .int, .int, (.object "jdk/internal/access/JavaLangAccess"), .int]
  resolved := Array.replicate 378 none
  statics := none }

def pool17 : Array CpInfo := pool [(1, u "java/lang/Cloneable"), (0, .class_ 1), (0, u "java/lang/Object"), (0, .class_ 3)] 3

/-- java/lang/Cloneable -/
def k17 : Class := { plain "java/lang/Cloneable" (some 0) with
  accessFlags := 1537
  interfaces := #[]
  cf := some (fileOf pool17 2 #[] #[] 1537 4 #[] #[])
  fields := #[]
  methods := #[]
  instanceTypes := #[]
  staticTypes := #[]
  resolved := Array.replicate 8 none
  statics := none }

/-- the primitive byte -/
def k18 : Class := { plain "byte" none with kind := .primitive 'B', accessFlags := 0x411 }
/-- [B -/
def k19 : Class := { plain "[B" (some 0) with kind := .array 18 .byte, interfaces := #[17, 2], accessFlags := 1041 }

/-- the primitive char -/
def k20 : Class := { plain "char" none with kind := .primitive 'C', accessFlags := 0x411 }
/-- [C -/
def k21 : Class := { plain "[C" (some 0) with kind := .array 20 .char, interfaces := #[17, 2], accessFlags := 1041 }

/-- the primitive int -/
def k22 : Class := { plain "int" none with kind := .primitive 'I', accessFlags := 0x411 }
/-- [I -/
def k23 : Class := { plain "[I" (some 0) with kind := .array 22 .int, interfaces := #[17, 2], accessFlags := 1041 }

/-- [Ljava/lang/Integer; -/
def k24 : Class := { plain "[Ljava/lang/Integer;" (some 0) with kind := .array 12 (.object "java/lang/Integer"), interfaces := #[17, 2], accessFlags := 1041 }

def heap : Heap := #[{ cls := 7, slots := #[.long 0, .int 1, .null, .int 0, .null, .int 0, .int 0], vm := .statics 7 },
  { cls := 13, slots := #[.int 0, .int 127, .ref 3, .null, .int 0], vm := .statics 13 },
  { cls := 15, slots := #[.null, .null, .null], vm := .statics 15 },
  { cls := 24, slots := #[.ref 4, .ref 5, .ref 6, .ref 7, .ref 8, .ref 9, .ref 10, .ref 11, .ref 12, .ref 13, .ref 14, .ref 15, .ref 16, .ref 17, .ref 18, .ref 19, .ref 20, .ref 21, .ref 22, .ref 23, .ref 24, .ref 25, .ref 26, .ref 27, .ref 28, .ref 29, .ref 30, .ref 31, .ref 32, .ref 33, .ref 34, .ref 35, .ref 36, .ref 37, .ref 38, .ref 39, .ref 40, .ref 41, .ref 42, .ref 43, .ref 44, .ref 45, .ref 46, .ref 47, .ref 48, .ref 49, .ref 50, .ref 51, .ref 52, .ref 53, .ref 54, .ref 55, .ref 56, .ref 57, .ref 58, .ref 59, .ref 60, .ref 61, .ref 62, .ref 63, .ref 64, .ref 65, .ref 66, .ref 67, .ref 68, .ref 69, .ref 70, .ref 71, .ref 72, .ref 73, .ref 74, .ref 75, .ref 76, .ref 77, .ref 78, .ref 79, .ref 80, .ref 81, .ref 82, .ref 83, .ref 84, .ref 85, .ref 86, .ref 87, .ref 88, .ref 89, .ref 90, .ref 91, .ref 92, .ref 93, .ref 94, .ref 95, .ref 96, .ref 97, .ref 98, .ref 99, .ref 100, .ref 101, .ref 102, .ref 103, .ref 104, .ref 105, .ref 106, .ref 107, .ref 108, .ref 109, .ref 110, .ref 111, .ref 112, .ref 113, .ref 114, .ref 115, .ref 116, .ref 117, .ref 118, .ref 119, .ref 120, .ref 121, .ref 122, .ref 123, .ref 124, .ref 125, .ref 126, .ref 127, .ref 128, .ref 129, .ref 130, .ref 131, .ref 132, .ref 133, .ref 134, .ref 135, .ref 136, .ref 137, .ref 138, .ref 139, .ref 140, .ref 141, .ref 142, .ref 143, .ref 144, .ref 145, .ref 146, .ref 147, .ref 148, .ref 149, .ref 150, .ref 151, .ref 152, .ref 153, .ref 154, .ref 155, .ref 156, .ref 157, .ref 158, .ref 159, .ref 160, .ref 161, .ref 162, .ref 163, .ref 164, .ref 165, .ref 166, .ref 167, .ref 168, .ref 169, .ref 170, .ref 171, .ref 172, .ref 173, .ref 174, .ref 175, .ref 176, .ref 177, .ref 178, .ref 179, .ref 180, .ref 181, .ref 182, .ref 183, .ref 184, .ref 185, .ref 186, .ref 187, .ref 188, .ref 189, .ref 190, .ref 191, .ref 192, .ref 193, .ref 194, .ref 195, .ref 196, .ref 197, .ref 198, .ref 199, .ref 200, .ref 201, .ref 202, .ref 203, .ref 204, .ref 205, .ref 206, .ref 207, .ref 208, .ref 209, .ref 210, .ref 211, .ref 212, .ref 213, .ref 214, .ref 215, .ref 216, .ref 217, .ref 218, .ref 219, .ref 220, .ref 221, .ref 222, .ref 223, .ref 224, .ref 225, .ref 226, .ref 227, .ref 228, .ref 229, .ref 230, .ref 231, .ref 232, .ref 233, .ref 234, .ref 235, .ref 236, .ref 237, .ref 238, .ref 239, .ref 240, .ref 241, .ref 242, .ref 243, .ref 244, .ref 245, .ref 246, .ref 247, .ref 248, .ref 249, .ref 250, .ref 251, .ref 252, .ref 253, .ref 254, .ref 255, .ref 256, .ref 257, .ref 258, .ref 259], vm := .none },
  { cls := 12, slots := #[.int (-128)], vm := .none },
  { cls := 12, slots := #[.int (-127)], vm := .none },
  { cls := 12, slots := #[.int (-126)], vm := .none },
  { cls := 12, slots := #[.int (-125)], vm := .none },
  { cls := 12, slots := #[.int (-124)], vm := .none },
  { cls := 12, slots := #[.int (-123)], vm := .none },
  { cls := 12, slots := #[.int (-122)], vm := .none },
  { cls := 12, slots := #[.int (-121)], vm := .none },
  { cls := 12, slots := #[.int (-120)], vm := .none },
  { cls := 12, slots := #[.int (-119)], vm := .none },
  { cls := 12, slots := #[.int (-118)], vm := .none },
  { cls := 12, slots := #[.int (-117)], vm := .none },
  { cls := 12, slots := #[.int (-116)], vm := .none },
  { cls := 12, slots := #[.int (-115)], vm := .none },
  { cls := 12, slots := #[.int (-114)], vm := .none },
  { cls := 12, slots := #[.int (-113)], vm := .none },
  { cls := 12, slots := #[.int (-112)], vm := .none },
  { cls := 12, slots := #[.int (-111)], vm := .none },
  { cls := 12, slots := #[.int (-110)], vm := .none },
  { cls := 12, slots := #[.int (-109)], vm := .none },
  { cls := 12, slots := #[.int (-108)], vm := .none },
  { cls := 12, slots := #[.int (-107)], vm := .none },
  { cls := 12, slots := #[.int (-106)], vm := .none },
  { cls := 12, slots := #[.int (-105)], vm := .none },
  { cls := 12, slots := #[.int (-104)], vm := .none },
  { cls := 12, slots := #[.int (-103)], vm := .none },
  { cls := 12, slots := #[.int (-102)], vm := .none },
  { cls := 12, slots := #[.int (-101)], vm := .none },
  { cls := 12, slots := #[.int (-100)], vm := .none },
  { cls := 12, slots := #[.int (-99)], vm := .none },
  { cls := 12, slots := #[.int (-98)], vm := .none },
  { cls := 12, slots := #[.int (-97)], vm := .none },
  { cls := 12, slots := #[.int (-96)], vm := .none },
  { cls := 12, slots := #[.int (-95)], vm := .none },
  { cls := 12, slots := #[.int (-94)], vm := .none },
  { cls := 12, slots := #[.int (-93)], vm := .none },
  { cls := 12, slots := #[.int (-92)], vm := .none },
  { cls := 12, slots := #[.int (-91)], vm := .none },
  { cls := 12, slots := #[.int (-90)], vm := .none },
  { cls := 12, slots := #[.int (-89)], vm := .none },
  { cls := 12, slots := #[.int (-88)], vm := .none },
  { cls := 12, slots := #[.int (-87)], vm := .none },
  { cls := 12, slots := #[.int (-86)], vm := .none },
  { cls := 12, slots := #[.int (-85)], vm := .none },
  { cls := 12, slots := #[.int (-84)], vm := .none },
  { cls := 12, slots := #[.int (-83)], vm := .none },
  { cls := 12, slots := #[.int (-82)], vm := .none },
  { cls := 12, slots := #[.int (-81)], vm := .none },
  { cls := 12, slots := #[.int (-80)], vm := .none },
  { cls := 12, slots := #[.int (-79)], vm := .none },
  { cls := 12, slots := #[.int (-78)], vm := .none },
  { cls := 12, slots := #[.int (-77)], vm := .none },
  { cls := 12, slots := #[.int (-76)], vm := .none },
  { cls := 12, slots := #[.int (-75)], vm := .none },
  { cls := 12, slots := #[.int (-74)], vm := .none },
  { cls := 12, slots := #[.int (-73)], vm := .none },
  { cls := 12, slots := #[.int (-72)], vm := .none },
  { cls := 12, slots := #[.int (-71)], vm := .none },
  { cls := 12, slots := #[.int (-70)], vm := .none },
  { cls := 12, slots := #[.int (-69)], vm := .none },
  { cls := 12, slots := #[.int (-68)], vm := .none },
  { cls := 12, slots := #[.int (-67)], vm := .none },
  { cls := 12, slots := #[.int (-66)], vm := .none },
  { cls := 12, slots := #[.int (-65)], vm := .none },
  { cls := 12, slots := #[.int (-64)], vm := .none },
  { cls := 12, slots := #[.int (-63)], vm := .none },
  { cls := 12, slots := #[.int (-62)], vm := .none },
  { cls := 12, slots := #[.int (-61)], vm := .none },
  { cls := 12, slots := #[.int (-60)], vm := .none },
  { cls := 12, slots := #[.int (-59)], vm := .none },
  { cls := 12, slots := #[.int (-58)], vm := .none },
  { cls := 12, slots := #[.int (-57)], vm := .none },
  { cls := 12, slots := #[.int (-56)], vm := .none },
  { cls := 12, slots := #[.int (-55)], vm := .none },
  { cls := 12, slots := #[.int (-54)], vm := .none },
  { cls := 12, slots := #[.int (-53)], vm := .none },
  { cls := 12, slots := #[.int (-52)], vm := .none },
  { cls := 12, slots := #[.int (-51)], vm := .none },
  { cls := 12, slots := #[.int (-50)], vm := .none },
  { cls := 12, slots := #[.int (-49)], vm := .none },
  { cls := 12, slots := #[.int (-48)], vm := .none },
  { cls := 12, slots := #[.int (-47)], vm := .none },
  { cls := 12, slots := #[.int (-46)], vm := .none },
  { cls := 12, slots := #[.int (-45)], vm := .none },
  { cls := 12, slots := #[.int (-44)], vm := .none },
  { cls := 12, slots := #[.int (-43)], vm := .none },
  { cls := 12, slots := #[.int (-42)], vm := .none },
  { cls := 12, slots := #[.int (-41)], vm := .none },
  { cls := 12, slots := #[.int (-40)], vm := .none },
  { cls := 12, slots := #[.int (-39)], vm := .none },
  { cls := 12, slots := #[.int (-38)], vm := .none },
  { cls := 12, slots := #[.int (-37)], vm := .none },
  { cls := 12, slots := #[.int (-36)], vm := .none },
  { cls := 12, slots := #[.int (-35)], vm := .none },
  { cls := 12, slots := #[.int (-34)], vm := .none },
  { cls := 12, slots := #[.int (-33)], vm := .none },
  { cls := 12, slots := #[.int (-32)], vm := .none },
  { cls := 12, slots := #[.int (-31)], vm := .none },
  { cls := 12, slots := #[.int (-30)], vm := .none },
  { cls := 12, slots := #[.int (-29)], vm := .none },
  { cls := 12, slots := #[.int (-28)], vm := .none },
  { cls := 12, slots := #[.int (-27)], vm := .none },
  { cls := 12, slots := #[.int (-26)], vm := .none },
  { cls := 12, slots := #[.int (-25)], vm := .none },
  { cls := 12, slots := #[.int (-24)], vm := .none },
  { cls := 12, slots := #[.int (-23)], vm := .none },
  { cls := 12, slots := #[.int (-22)], vm := .none },
  { cls := 12, slots := #[.int (-21)], vm := .none },
  { cls := 12, slots := #[.int (-20)], vm := .none },
  { cls := 12, slots := #[.int (-19)], vm := .none },
  { cls := 12, slots := #[.int (-18)], vm := .none },
  { cls := 12, slots := #[.int (-17)], vm := .none },
  { cls := 12, slots := #[.int (-16)], vm := .none },
  { cls := 12, slots := #[.int (-15)], vm := .none },
  { cls := 12, slots := #[.int (-14)], vm := .none },
  { cls := 12, slots := #[.int (-13)], vm := .none },
  { cls := 12, slots := #[.int (-12)], vm := .none },
  { cls := 12, slots := #[.int (-11)], vm := .none },
  { cls := 12, slots := #[.int (-10)], vm := .none },
  { cls := 12, slots := #[.int (-9)], vm := .none },
  { cls := 12, slots := #[.int (-8)], vm := .none },
  { cls := 12, slots := #[.int (-7)], vm := .none },
  { cls := 12, slots := #[.int (-6)], vm := .none },
  { cls := 12, slots := #[.int (-5)], vm := .none },
  { cls := 12, slots := #[.int (-4)], vm := .none },
  { cls := 12, slots := #[.int (-3)], vm := .none },
  { cls := 12, slots := #[.int (-2)], vm := .none },
  { cls := 12, slots := #[.int (-1)], vm := .none },
  { cls := 12, slots := #[.int 0], vm := .none },
  { cls := 12, slots := #[.int 1], vm := .none },
  { cls := 12, slots := #[.int 2], vm := .none },
  { cls := 12, slots := #[.int 3], vm := .none },
  { cls := 12, slots := #[.int 4], vm := .none },
  { cls := 12, slots := #[.int 5], vm := .none },
  { cls := 12, slots := #[.int 6], vm := .none },
  { cls := 12, slots := #[.int 7], vm := .none },
  { cls := 12, slots := #[.int 8], vm := .none },
  { cls := 12, slots := #[.int 9], vm := .none },
  { cls := 12, slots := #[.int 10], vm := .none },
  { cls := 12, slots := #[.int 11], vm := .none },
  { cls := 12, slots := #[.int 12], vm := .none },
  { cls := 12, slots := #[.int 13], vm := .none },
  { cls := 12, slots := #[.int 14], vm := .none },
  { cls := 12, slots := #[.int 15], vm := .none },
  { cls := 12, slots := #[.int 16], vm := .none },
  { cls := 12, slots := #[.int 17], vm := .none },
  { cls := 12, slots := #[.int 18], vm := .none },
  { cls := 12, slots := #[.int 19], vm := .none },
  { cls := 12, slots := #[.int 20], vm := .none },
  { cls := 12, slots := #[.int 21], vm := .none },
  { cls := 12, slots := #[.int 22], vm := .none },
  { cls := 12, slots := #[.int 23], vm := .none },
  { cls := 12, slots := #[.int 24], vm := .none },
  { cls := 12, slots := #[.int 25], vm := .none },
  { cls := 12, slots := #[.int 26], vm := .none },
  { cls := 12, slots := #[.int 27], vm := .none },
  { cls := 12, slots := #[.int 28], vm := .none },
  { cls := 12, slots := #[.int 29], vm := .none },
  { cls := 12, slots := #[.int 30], vm := .none },
  { cls := 12, slots := #[.int 31], vm := .none },
  { cls := 12, slots := #[.int 32], vm := .none },
  { cls := 12, slots := #[.int 33], vm := .none },
  { cls := 12, slots := #[.int 34], vm := .none },
  { cls := 12, slots := #[.int 35], vm := .none },
  { cls := 12, slots := #[.int 36], vm := .none },
  { cls := 12, slots := #[.int 37], vm := .none },
  { cls := 12, slots := #[.int 38], vm := .none },
  { cls := 12, slots := #[.int 39], vm := .none },
  { cls := 12, slots := #[.int 40], vm := .none },
  { cls := 12, slots := #[.int 41], vm := .none },
  { cls := 12, slots := #[.int 42], vm := .none },
  { cls := 12, slots := #[.int 43], vm := .none },
  { cls := 12, slots := #[.int 44], vm := .none },
  { cls := 12, slots := #[.int 45], vm := .none },
  { cls := 12, slots := #[.int 46], vm := .none },
  { cls := 12, slots := #[.int 47], vm := .none },
  { cls := 12, slots := #[.int 48], vm := .none },
  { cls := 12, slots := #[.int 49], vm := .none },
  { cls := 12, slots := #[.int 50], vm := .none },
  { cls := 12, slots := #[.int 51], vm := .none },
  { cls := 12, slots := #[.int 52], vm := .none },
  { cls := 12, slots := #[.int 53], vm := .none },
  { cls := 12, slots := #[.int 54], vm := .none },
  { cls := 12, slots := #[.int 55], vm := .none },
  { cls := 12, slots := #[.int 56], vm := .none },
  { cls := 12, slots := #[.int 57], vm := .none },
  { cls := 12, slots := #[.int 58], vm := .none },
  { cls := 12, slots := #[.int 59], vm := .none },
  { cls := 12, slots := #[.int 60], vm := .none },
  { cls := 12, slots := #[.int 61], vm := .none },
  { cls := 12, slots := #[.int 62], vm := .none },
  { cls := 12, slots := #[.int 63], vm := .none },
  { cls := 12, slots := #[.int 64], vm := .none },
  { cls := 12, slots := #[.int 65], vm := .none },
  { cls := 12, slots := #[.int 66], vm := .none },
  { cls := 12, slots := #[.int 67], vm := .none },
  { cls := 12, slots := #[.int 68], vm := .none },
  { cls := 12, slots := #[.int 69], vm := .none },
  { cls := 12, slots := #[.int 70], vm := .none },
  { cls := 12, slots := #[.int 71], vm := .none },
  { cls := 12, slots := #[.int 72], vm := .none },
  { cls := 12, slots := #[.int 73], vm := .none },
  { cls := 12, slots := #[.int 74], vm := .none },
  { cls := 12, slots := #[.int 75], vm := .none },
  { cls := 12, slots := #[.int 76], vm := .none },
  { cls := 12, slots := #[.int 77], vm := .none },
  { cls := 12, slots := #[.int 78], vm := .none },
  { cls := 12, slots := #[.int 79], vm := .none },
  { cls := 12, slots := #[.int 80], vm := .none },
  { cls := 12, slots := #[.int 81], vm := .none },
  { cls := 12, slots := #[.int 82], vm := .none },
  { cls := 12, slots := #[.int 83], vm := .none },
  { cls := 12, slots := #[.int 84], vm := .none },
  { cls := 12, slots := #[.int 85], vm := .none },
  { cls := 12, slots := #[.int 86], vm := .none },
  { cls := 12, slots := #[.int 87], vm := .none },
  { cls := 12, slots := #[.int 88], vm := .none },
  { cls := 12, slots := #[.int 89], vm := .none },
  { cls := 12, slots := #[.int 90], vm := .none },
  { cls := 12, slots := #[.int 91], vm := .none },
  { cls := 12, slots := #[.int 92], vm := .none },
  { cls := 12, slots := #[.int 93], vm := .none },
  { cls := 12, slots := #[.int 94], vm := .none },
  { cls := 12, slots := #[.int 95], vm := .none },
  { cls := 12, slots := #[.int 96], vm := .none },
  { cls := 12, slots := #[.int 97], vm := .none },
  { cls := 12, slots := #[.int 98], vm := .none },
  { cls := 12, slots := #[.int 99], vm := .none },
  { cls := 12, slots := #[.int 100], vm := .none },
  { cls := 12, slots := #[.int 101], vm := .none },
  { cls := 12, slots := #[.int 102], vm := .none },
  { cls := 12, slots := #[.int 103], vm := .none },
  { cls := 12, slots := #[.int 104], vm := .none },
  { cls := 12, slots := #[.int 105], vm := .none },
  { cls := 12, slots := #[.int 106], vm := .none },
  { cls := 12, slots := #[.int 107], vm := .none },
  { cls := 12, slots := #[.int 108], vm := .none },
  { cls := 12, slots := #[.int 109], vm := .none },
  { cls := 12, slots := #[.int 110], vm := .none },
  { cls := 12, slots := #[.int 111], vm := .none },
  { cls := 12, slots := #[.int 112], vm := .none },
  { cls := 12, slots := #[.int 113], vm := .none },
  { cls := 12, slots := #[.int 114], vm := .none },
  { cls := 12, slots := #[.int 115], vm := .none },
  { cls := 12, slots := #[.int 116], vm := .none },
  { cls := 12, slots := #[.int 117], vm := .none },
  { cls := 12, slots := #[.int 118], vm := .none },
  { cls := 12, slots := #[.int 119], vm := .none },
  { cls := 12, slots := #[.int 120], vm := .none },
  { cls := 12, slots := #[.int 121], vm := .none },
  { cls := 12, slots := #[.int 122], vm := .none },
  { cls := 12, slots := #[.int 123], vm := .none },
  { cls := 12, slots := #[.int 124], vm := .none },
  { cls := 12, slots := #[.int 125], vm := .none },
  { cls := 12, slots := #[.int 126], vm := .none },
  { cls := 12, slots := #[.int 127], vm := .none }]
def classes : Array Class := #[k0, k1, k2, k3, k4, k5, k6, k7, k8, k9, k10, k11, k12, k13, k14, k15, k16, k17, k18, k19, k20, k21, k22, k23, k24]
def interned : List (Array UInt16 × Addr) := []
def slotsUsed : Nat := 527
def theMethod : MethodId := ⟨1, 2⟩
def args0 : Array Value := #[.int 5, .int 7, .int 3, .int 4]
def aboutOver (below : List Frame) : State where
  vm := { classes := classes, interned := interned.toArray }
  heap := heap
  slotsUsed := slotsUsed
  threads := #[{ frames := .invoking theMethod args0 :: below }]
def below0 : List Frame := [.native { method := ⟨0, 0⟩, args := #[] }]
def about1 : State := aboutOver below0
def p0 : Program := .bare "" "" ""
def e0 : Env := launch0.env 0 0 0
theorem w_frames : about1.frames = Frame.invoking theMethod args0 :: below0 := rfl
set_option maxRecDepth 65536 in
theorem w_args : argsFit about1.vm theMethod args0 = true := by decide +kernel
set_option maxRecDepth 65536 in
theorem w_heap : heapFits about1 = true := by decide +kernel
set_option maxRecDepth 65536 in
theorem w_runnable : about1.curStatus? = some .runnable := by decide +kernel
set_option maxRecDepth 65536 in
theorem w_alone : about1.alone = true := by decide +kernel
set_option maxRecDepth 65536 in
theorem w_named : about1.methodNamed? x = some theMethod := by decide +kernel
set_option maxRecDepth 65536 in
theorem w_hears : about1.hears theMethod below0 = true := by decide +kernel
set_option maxRecDepth 65536 in
theorem w_ripe : about1.ripe theMethod args0 below0 = true := by decide +kernel
theorem w_running : about1.status = .running := rfl
set_option maxRecDepth 65536 in
theorem w_room : about1.hasRoom e0.platform room_1 = true :=
  launch0.hasRoom_least _ room_1 (by decide +kernel) (by decide +kernel) (by decide +kernel) (by decide +kernel) (by decide +kernel) (by decide +kernel)
theorem allAtoms_all (ts : List Jvm.Cond) (a : Array Jvm.Value) (st : Jvm.State) : (allAtoms ts).before a st = ts.all (fun c => c.before a st) := by
  induction ts with
  | nil => rfl
  | cons c t ih =>
    show (Jvm.Cond.and c (allAtoms t)).before a st = _
    rw [Jvm.Cond.before_and, ih, List.all_cons]
def words1 : List Jvm.Cond := Jvm.Cond.code x code maxLocals ret :: tables_1
/-- a 'code' word, met by the world's own term for the bytes: nothing is compared byte by byte -/
theorem code_word {y : MethodName} {bytes : ByteArray} {mx : Nat} {rt : Option FieldType} {a : Array Value} {s : State} {m : MethodId} {meth : Method} {c : Code} (h1 : s.methodNamed? y = some m) (h2 : s.vm.method? m = some meth) (h3 : meth.code = some c) (h4 : c.code = bytes)
    (h5 : (c.maxLocals == mx && c.exceptionTable.isEmpty && decide (c.maxStack ≤ mostOperands) && decide (meth.sig.returnType = rt) && !meth.locks && decide (parseMethodDescriptor y.desc = some meth.sig)) = true) : (Jvm.Cond.code y bytes mx rt).before a s = true := by
  simp only [Bool.and_eq_true, beq_iff_eq, Bool.not_eq_true', decide_eq_true_eq] at h5
  obtain ⟨⟨⟨⟨⟨g1, g2⟩, g3⟩, g4⟩, g5⟩, g6⟩ := h5
  simp [Cond.before, Cond.holds, Cond.value, h1, h2, h3, h4, g1, g2, g3, g4, g5, g6]
def isCode : Jvm.Cond → Bool
  | .code _ _ _ _ => true
  | _ => false
theorem all_split {L : List Jvm.Cond} {P : Jvm.Cond → Bool} (h1 : L.all (fun c => isCode c || P c) = true) (h2 : ∀ c ∈ L.filter isCode, P c = true) : L.all P = true := by
  refine List.all_eq_true.mpr fun c hc => ?_
  have h := List.all_eq_true.mp h1 c hc
  rcases Bool.eq_false_or_eq_true (isCode c) with hi | hi
  · exact h2 c (List.mem_filter.mpr ⟨hc, hi⟩)
  · simpa [hi] using h
set_option maxRecDepth 65536 in
theorem w_c0 : (Jvm.Cond.code x code maxLocals ret).before args0 about1 = true := code_word (m := ⟨1, 2⟩) (meth := k1m2) (c := k1c2) (by decide +kernel) rfl rfl rfl (by decide +kernel)
set_option maxRecDepth 65536 in
theorem w_c1 : (Jvm.Cond.code ({ cls := "com/example/limpet/limpet/TopicPartitionEqualsPinLaw", name := "make", desc := "(ICC)Ljava/lang/String;" } : Jvm.MethodName) method_2_code (3 : Nat) (Option.some (Jvm.ClassFile.FieldType.object "java/lang/String"))).before args0 about1 = true := code_word (m := ⟨1, 1⟩) (meth := k1m1) (c := k1c1) (by decide +kernel) rfl rfl rfl (by decide +kernel)
set_option maxRecDepth 65536 in
theorem w_c2 : (Jvm.Cond.code ({ cls := "java/lang/String", name := "<init>", desc := "([C)V" } : Jvm.MethodName) jdk_42_method_3_code (2 : Nat) (Option.none : Option Jvm.ClassFile.FieldType)).before args0 about1 = true := code_word (m := ⟨7, 1⟩) (meth := k7m1) (c := k7c1) (by decide +kernel) rfl rfl rfl (by decide +kernel)
set_option maxRecDepth 65536 in
theorem w_c3 : (Jvm.Cond.code ({ cls := "java/lang/String", name := "<init>", desc := "([CIILjava/lang/Void;)V" } : Jvm.MethodName) jdk_42_method_149_code (6 : Nat) (Option.none : Option Jvm.ClassFile.FieldType)).before args0 about1 = true := code_word (m := ⟨7, 4⟩) (meth := k7m4) (c := k7c4) (by decide +kernel) rfl rfl rfl (by decide +kernel)
set_option maxRecDepth 65536 in
theorem w_c4 : (Jvm.Cond.code ({ cls := "java/lang/Object", name := "<init>", desc := "()V" } : Jvm.MethodName) object_method_1_code (1 : Nat) (Option.none : Option Jvm.ClassFile.FieldType)).before args0 about1 = true := code_word (m := ⟨0, 0⟩) (meth := k0m0) (c := k0c0) (by decide +kernel) rfl rfl rfl (by decide +kernel)
set_option maxRecDepth 65536 in
theorem w_c5 : (Jvm.Cond.code ({ cls := "java/lang/StringUTF16", name := "compress", desc := "([CII)[B" } : Jvm.MethodName) jdk_52_method_16_code (6 : Nat) (Option.some (Jvm.ClassFile.FieldType.array Jvm.ClassFile.FieldType.byte))).before args0 about1 = true := code_word (m := ⟨8, 2⟩) (meth := k8m2) (c := k8c2) (by decide +kernel) rfl rfl rfl (by decide +kernel)
set_option maxRecDepth 65536 in
theorem w_c6 : (Jvm.Cond.code ({ cls := "java/lang/StringUTF16", name := "compress", desc := "([CI[BII)I" } : Jvm.MethodName) jdk_52_method_21_code (7 : Nat) (Option.some Jvm.ClassFile.FieldType.int)).before args0 about1 = true := code_word (m := ⟨8, 3⟩) (meth := k8m3) (c := k8c3) (by decide +kernel) rfl rfl rfl (by decide +kernel)
set_option maxRecDepth 65536 in
theorem w_c7 : (Jvm.Cond.code ({ cls := "java/lang/StringUTF16", name := "coderFromArrayLen", desc := "([BI)B" } : Jvm.MethodName) jdk_52_method_15_code (2 : Nat) (Option.some Jvm.ClassFile.FieldType.byte)).before args0 about1 = true := code_word (m := ⟨8, 1⟩) (meth := k8m1) (c := k8c1) (by decide +kernel) rfl rfl rfl (by decide +kernel)
set_option maxRecDepth 65536 in
theorem w_c8 : (Jvm.Cond.code ({ cls := "com/example/limpet/limpet/TopicPartition", name := "<init>", desc := "(Ljava/lang/String;I)V" } : Jvm.MethodName) prog_38_method_1_code (3 : Nat) (Option.none : Option Jvm.ClassFile.FieldType)).before args0 about1 = true := code_word (m := ⟨9, 0⟩) (meth := k9m0) (c := k9c0) (by decide +kernel) rfl rfl rfl (by decide +kernel)
set_option maxRecDepth 65536 in
theorem w_c9 : (Jvm.Cond.code ({ cls := "com/example/limpet/limpet/TopicPartition", name := "requireTopicName", desc := "(Ljava/lang/String;)Ljava/lang/String;" } : Jvm.MethodName) prog_38_method_3_code (1 : Nat) (Option.some (Jvm.ClassFile.FieldType.object "java/lang/String"))).before args0 about1 = true := code_word (m := ⟨9, 1⟩) (meth := k9m1) (c := k9c1) (by decide +kernel) rfl rfl rfl (by decide +kernel)
set_option maxRecDepth 65536 in
theorem w_c10 : (Jvm.Cond.code ({ cls := "java/util/Objects", name := "requireNonNull", desc := "(Ljava/lang/Object;Ljava/lang/String;)Ljava/lang/Object;" } : Jvm.MethodName) jdk_31_method_11_code (2 : Nat) (Option.some (Jvm.ClassFile.FieldType.object "java/lang/Object"))).before args0 about1 = true := code_word (m := ⟨10, 1⟩) (meth := k10m1) (c := k10c1) (by decide +kernel) rfl rfl rfl (by decide +kernel)
set_option maxRecDepth 65536 in
theorem w_c11 : (Jvm.Cond.code ({ cls := "java/lang/String", name := "isEmpty", desc := "()Z" } : Jvm.MethodName) jdk_42_method_55_code (1 : Nat) (Option.some Jvm.ClassFile.FieldType.boolean)).before args0 about1 = true := code_word (m := ⟨7, 2⟩) (meth := k7m2) (c := k7c2) (by decide +kernel) rfl rfl rfl (by decide +kernel)
set_option maxRecDepth 65536 in
theorem w_c12 : (Jvm.Cond.code ({ cls := "com/example/limpet/limpet/TopicPartition", name := "equals", desc := "(Ljava/lang/Object;)Z" } : Jvm.MethodName) prog_38_method_8_code (3 : Nat) (Option.some Jvm.ClassFile.FieldType.boolean)).before args0 about1 = true := code_word (m := ⟨9, 2⟩) (meth := k9m2) (c := k9c2) (by decide +kernel) rfl rfl rfl (by decide +kernel)
set_option maxRecDepth 65536 in
theorem w_c13 : (Jvm.Cond.code ({ cls := "java/lang/String", name := "equals", desc := "(Ljava/lang/Object;)Z" } : Jvm.MethodName) jdk_42_method_66_code (3 : Nat) (Option.some Jvm.ClassFile.FieldType.boolean)).before args0 about1 = true := code_word (m := ⟨7, 3⟩) (meth := k7m3) (c := k7c3) (by decide +kernel) rfl rfl rfl (by decide +kernel)
set_option maxRecDepth 65536 in
theorem w_c14 : (Jvm.Cond.code ({ cls := "java/lang/Integer", name := "valueOf", desc := "(I)Ljava/lang/Integer;" } : Jvm.MethodName) jdk_33_method_22_code (1 : Nat) (Option.some (Jvm.ClassFile.FieldType.object "java/lang/Integer"))).before args0 about1 = true := code_word (m := ⟨12, 0⟩) (meth := k12m0) (c := k12c0) (by decide +kernel) rfl rfl rfl (by decide +kernel)
set_option maxRecDepth 65536 in
theorem w_c15 : (Jvm.Cond.code ({ cls := "java/lang/Integer", name := "<init>", desc := "(I)V" } : Jvm.MethodName) jdk_33_method_23_code (2 : Nat) (Option.none : Option Jvm.ClassFile.FieldType)).before args0 about1 = true := code_word (m := ⟨12, 1⟩) (meth := k12m1) (c := k12c1) (by decide +kernel) rfl rfl rfl (by decide +kernel)
set_option maxRecDepth 65536 in
theorem w_c16 : (Jvm.Cond.code ({ cls := "java/lang/Number", name := "<init>", desc := "()V" } : Jvm.MethodName) jdk_18_method_1_code (1 : Nat) (Option.none : Option Jvm.ClassFile.FieldType)).before args0 about1 = true := code_word (m := ⟨11, 0⟩) (meth := k11m0) (c := k11c0) (by decide +kernel) rfl rfl rfl (by decide +kernel)
set_option maxRecDepth 65536 in
theorem w_c17 : (Jvm.Cond.code ({ cls := "java/lang/StringLatin1", name := "equals", desc := "([B[B)Z" } : Jvm.MethodName) jdk_43_method_13_code (3 : Nat) (Option.some Jvm.ClassFile.FieldType.boolean)).before args0 about1 = true := code_word (m := ⟨14, 1⟩) (meth := k14m1) (c := k14c1) (by decide +kernel) rfl rfl rfl (by decide +kernel)
def codes1 : List Jvm.Cond := [Jvm.Cond.code x code maxLocals ret, Jvm.Cond.code ({ cls := "com/example/limpet/limpet/TopicPartitionEqualsPinLaw", name := "make", desc := "(ICC)Ljava/lang/String;" } : Jvm.MethodName) method_2_code (3 : Nat) (Option.some (Jvm.ClassFile.FieldType.object "java/lang/String")), Jvm.Cond.code ({ cls := "java/lang/String", name := "<init>", desc := "([C)V" } : Jvm.MethodName) jdk_42_method_3_code (2 : Nat) (Option.none : Option Jvm.ClassFile.FieldType), Jvm.Cond.code ({ cls := "java/lang/String", name := "<init>", desc := "([CIILjava/lang/Void;)V" } : Jvm.MethodName) jdk_42_method_149_code (6 : Nat) (Option.none : Option Jvm.ClassFile.FieldType), Jvm.Cond.code ({ cls := "java/lang/Object", name := "<init>", desc := "()V" } : Jvm.MethodName) object_method_1_code (1 : Nat) (Option.none : Option Jvm.ClassFile.FieldType), Jvm.Cond.code ({ cls := "java/lang/StringUTF16", name := "compress", desc := "([CII)[B" } : Jvm.MethodName) jdk_52_method_16_code (6 : Nat) (Option.some (Jvm.ClassFile.FieldType.array Jvm.ClassFile.FieldType.byte)), Jvm.Cond.code ({ cls := "java/lang/StringUTF16", name := "compress", desc := "([CI[BII)I" } : Jvm.MethodName) jdk_52_method_21_code (7 : Nat) (Option.some Jvm.ClassFile.FieldType.int), Jvm.Cond.code ({ cls := "java/lang/StringUTF16", name := "coderFromArrayLen", desc := "([BI)B" } : Jvm.MethodName) jdk_52_method_15_code (2 : Nat) (Option.some Jvm.ClassFile.FieldType.byte), Jvm.Cond.code ({ cls := "com/example/limpet/limpet/TopicPartition", name := "<init>", desc := "(Ljava/lang/String;I)V" } : Jvm.MethodName) prog_38_method_1_code (3 : Nat) (Option.none : Option Jvm.ClassFile.FieldType), Jvm.Cond.code ({ cls := "com/example/limpet/limpet/TopicPartition", name := "requireTopicName", desc := "(Ljava/lang/String;)Ljava/lang/String;" } : Jvm.MethodName) prog_38_method_3_code (1 : Nat) (Option.some (Jvm.ClassFile.FieldType.object "java/lang/String")), Jvm.Cond.code ({ cls := "java/util/Objects", name := "requireNonNull", desc := "(Ljava/lang/Object;Ljava/lang/String;)Ljava/lang/Object;" } : Jvm.MethodName) jdk_31_method_11_code (2 : Nat) (Option.some (Jvm.ClassFile.FieldType.object "java/lang/Object")), Jvm.Cond.code ({ cls := "java/lang/String", name := "isEmpty", desc := "()Z" } : Jvm.MethodName) jdk_42_method_55_code (1 : Nat) (Option.some Jvm.ClassFile.FieldType.boolean), Jvm.Cond.code ({ cls := "com/example/limpet/limpet/TopicPartition", name := "equals", desc := "(Ljava/lang/Object;)Z" } : Jvm.MethodName) prog_38_method_8_code (3 : Nat) (Option.some Jvm.ClassFile.FieldType.boolean), Jvm.Cond.code ({ cls := "java/lang/String", name := "equals", desc := "(Ljava/lang/Object;)Z" } : Jvm.MethodName) jdk_42_method_66_code (3 : Nat) (Option.some Jvm.ClassFile.FieldType.boolean), Jvm.Cond.code ({ cls := "java/lang/Integer", name := "valueOf", desc := "(I)Ljava/lang/Integer;" } : Jvm.MethodName) jdk_33_method_22_code (1 : Nat) (Option.some (Jvm.ClassFile.FieldType.object "java/lang/Integer")), Jvm.Cond.code ({ cls := "java/lang/Integer", name := "<init>", desc := "(I)V" } : Jvm.MethodName) jdk_33_method_23_code (2 : Nat) (Option.none : Option Jvm.ClassFile.FieldType), Jvm.Cond.code ({ cls := "java/lang/Number", name := "<init>", desc := "()V" } : Jvm.MethodName) jdk_18_method_1_code (1 : Nat) (Option.none : Option Jvm.ClassFile.FieldType), Jvm.Cond.code ({ cls := "java/lang/StringLatin1", name := "equals", desc := "([B[B)Z" } : Jvm.MethodName) jdk_43_method_13_code (3 : Nat) (Option.some Jvm.ClassFile.FieldType.boolean)]
set_option maxRecDepth 65536 in
theorem codes_eq : words1.filter isCode = codes1 := rfl
theorem w_codes : ∀ c ∈ words1.filter isCode, c.before args0 about1 = true := by
  rw [codes_eq]
  intro c hc
  simp only [codes1, List.mem_cons, List.not_mem_nil, or_false] at hc
  rcases hc with rfl | rfl | rfl | rfl | rfl | rfl | rfl | rfl | rfl | rfl | rfl | rfl | rfl | rfl | rfl | rfl | rfl | rfl
  · exact w_c0
  · exact w_c1
  · exact w_c2
  · exact w_c3
  · exact w_c4
  · exact w_c5
  · exact w_c6
  · exact w_c7
  · exact w_c8
  · exact w_c9
  · exact w_c10
  · exact w_c11
  · exact w_c12
  · exact w_c13
  · exact w_c14
  · exact w_c15
  · exact w_c16
  · exact w_c17
set_option maxRecDepth 65536 in
theorem w_t1 : (words1.take 24).all (fun c => isCode c || c.before args0 about1) = true := by decide +kernel
set_option maxRecDepth 65536 in
theorem w_t2 : ((words1.drop 24).take 24).all (fun c => isCode c || c.before args0 about1) = true := by decide +kernel
set_option maxRecDepth 65536 in
theorem w_t3 : (((words1.drop 24).drop 24).take 24).all (fun c => isCode c || c.before args0 about1) = true := by decide +kernel
set_option maxRecDepth 65536 in
theorem w_t4 : ((((words1.drop 24).drop 24).drop 24).take 24).all (fun c => isCode c || c.before args0 about1) = true := by decide +kernel
set_option maxRecDepth 65536 in
theorem w_t5 : ((((words1.drop 24).drop 24).drop 24).drop 24).all (fun c => isCode c || c.before args0 about1) = true := by decide +kernel
theorem w_tables : (allAtoms (Jvm.Cond.code x code maxLocals ret :: tables_1)).before args0 about1 = true := by
  rw [allAtoms_all]
  show words1.all (fun c => c.before args0 about1) = true
  refine all_split ?_ w_codes
  rw [← List.take_append_drop 24 words1, List.all_append, w_t1, ← List.take_append_drop 24 (words1.drop 24), List.all_append, w_t2, ← List.take_append_drop 24 ((words1.drop 24).drop 24), List.all_append, w_t3, ← List.take_append_drop 24 (((words1.drop 24).drop 24).drop 24), List.all_append, w_t4, w_t5]
  rfl
set_option maxRecDepth 65536 in
theorem w_rest : rest_1_c.before args0 about1 = true := by decide +kernel
set_option maxRecDepth 65536 in
theorem w_case : (Jvm.Cond.and given_1 narrow_1).before args0 about1 = true := by decide +kernel
theorem w_applies : (headSpec (Jvm.Cond.code x code maxLocals ret :: tables_1) room_1).applies x e0.platform about1 = true :=
  (Spec.applies_iff w_frames).mpr ⟨w_running, w_runnable, w_alone, w_named, w_hears, w_ripe, w_room, w_tables⟩
theorem atStart : AtStart classFile x code maxLocals ret World_1 tables_1 room_1 Calls_1 rest_1 Pre_1 launch0 p0 e0 about1 theMethod args0 below0 :=
  ⟨lists_1, trivial, launch0.admits_env _ _ _, launch0.least_env, fairChoices_fair.cas, fairChoices_fair.clock, w_frames, w_args, w_heap, w_applies, trivial, w_rest, w_case⟩
end start1
theorem witness_1 : WitnessClaimed_1 := ⟨start1.p0, start1.e0, start1.about1, start1.theMethod, start1.args0, start1.below0, start1.atStart⟩
end Jvm.Pilot.@@N@@
