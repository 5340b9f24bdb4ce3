import JvmDerived
import JvmDerived.Pilot.@@N@@Statement
import JvmDerived.Pilot.@@N@@Code
set_option linter.unusedVariables false
set_option linter.unusedSimpArgs false
namespace Jvm.Pilot.@@N@@
open Jvm Jvm.ClassFile Sem Op Lib Jvm.Free Jvm.Stand Jvm.LawKit Jvm.RoadKit Bundle Jvm.Pilot.@@N@@.Jvm.D
abbrev own_Go (tb : Tables) (e : Env) (below : List Frame) (P : State → Outcome → Prop) (st : State) : Prop := ∃ U o, Steps tb e below st U ∧ P U o
theorem own_go {tb : Tables} {e : Env} {below : List Frame} {P : State → Outcome → Prop} {st st' : State} (h : ∀ t, Steps tb e below st' t → Steps tb e below st t) (k : own_Go tb e below P st') : own_Go tb e below P st := by
  obtain ⟨U, o, h1, h2⟩ := k; exact ⟨U, o, h _ h1, h2⟩
theorem own_cat {v : Value} (h : v.isRef = true) : v.category = 1 := by rcases ref_cases h with rfl | ⟨a, rfl⟩ <;> rfl
theorem own_nar_ref {t : FieldType} {v : Value} (h : v.isRef = true) : narrow t v = v := by rcases ref_cases h with rfl | ⟨a, rfl⟩ <;> cases t <;> rfl
theorem own_fit_ref {t : FieldType} {v : Value} (h : v.isRef = true) (ht : t.isReference = true := by rfl) : fits t v = true := by rcases ref_cases h with rfl | ⟨a, rfl⟩ <;> cases t <;> first | rfl | (cases ht)
theorem own_widen {p : Program} {l : Launch} {e : Env} {R : Room} {s : State} {m : MethodId} {args : Array Value} {below : List Frame} {meth : Method} {c : Code} {T : State} {locs : List Loc} {cells slots cells' slots' : Nat} (X : Stand p l e R s m args below meth c T locs cells slots) (h1 : cells ≤ cells') (h2 : slots ≤ slots') : Stand p l e R s m args below meth c T locs cells' slots' :=
  { X with same := X.same.mono h1 h2 }
theorem own_sel_priv {s : State} {args : Array Value} {y : MethodName} {n : Nat} (wi : (Jvm.Cond.instantiable y.cls n).before args s = true) (hp : s.PrivateAt y) (hinst : (Jvm.Cond.instanceMethod y).before args s = true) (hy : y.cls ≠ "java/lang/invoke/MethodHandle" ∧ y.cls ≠ "java/lang/invoke/VarHandle") : (Jvm.Cond.selects y.cls y y).before args s = true := by
  obtain ⟨c, k, h1, h2, -, h4, -⟩ := Cond.instantiable_spec wi
  exact selects_self_of_private h1 h2 (Bool.or_eq_false_iff.mp h4).1 hp hinst hy
theorem own_sta_keep {Z : State} {h h' : Heap} {ws : List Addr} {C n d : String} {v : Value} (F : Sta Z h C n d v) (K : Keep h h' ws) (q : ∀ x ∈ ws, ∀ c : Cell, h[x]? = some c → c.vm.isStatics = false) : Sta Z h' C n d v := by
  obtain ⟨cf, i, k, f, st, cell, h1, h2, h3, h4, h5, h6, h7⟩ := F
  exact ⟨cf, i, k, f, st, cell, h1, h2, h3, h4, K.2.1 st cell h5 (fun z => by rw [q st z cell h5] at h6; cases h6), h6, h7⟩
theorem own_pl_exa {Z : State} {h : Heap} {a : Addr} {C : String} (F : Exa Z h a C) : ∀ c : Cell, h[a]? = some c → c.vm.isStatics = false := fun c hc => by
  obtain ⟨c1, k, h1, -, -, h4, -⟩ := F; cases h1.symm.trans hc; exact h4
theorem own_pl_fld {Z : State} {h : Heap} {a : Addr} {C n d : String} {v : Value} (F : Fld Z h a C n d v) : ∀ c : Cell, h[a]? = some c → c.vm.isStatics = false := old_plain F
theorem own_pl_arv {Z : State} {h : Heap} {a : Addr} {k : ClassId} {ty : FieldType} {n : Int32} {vs : List Value} {d : Value} (F : Arv Z h a k ty n vs d) : ∀ c : Cell, h[a]? = some c → c.vm.isStatics = false := fun c hc => by
  obtain ⟨c1, A, -⟩ := F; cases A.1.symm.trans hc; exact A.plain
theorem own_fld {args : Array Value} {s : State} {t : Term} {C n d : String} {a : Addr} {k : Int32} (ev : t.eval args s none [] s = some (.ref a)) (h : (Jvm.Cond.eq (.field t C n d) (.int k)).value args s none s [] = some true) : Fld s s.heap a C n d (.int k) := by
  obtain ⟨x, y, e1, e2, -, k2⟩ := cmp_v (Or.inl h)
  obtain rfl : Value.int k = y := Option.some.inj e2
  obtain ⟨z, rfl⟩ := k2
  have q : z = k := by
    simp only [Cond.value] at h
    rw [e1, e2] at h
    simpa using h
  subst q
  rw [fld_at ev] at e1
  exact Fld.start e1
theorem own_len {args : Array Value} {s : State} {t : Term} {a : Addr} {cl : Cell} {n : Int32} (ev : t.eval args s none [] s = some (.ref a)) (hc : s.heap[a]? = some cl) (h : (Jvm.Cond.eq (.length t) (.int n)).value args s none s [] = some true) : cl.slots.size < 2 ^ 31 ∧ cl.slots.size.toInt32 = n := by
  obtain ⟨x, y, e1, e2, -, -⟩ := cmp_v (Or.inl h)
  obtain rfl : Value.int n = y := Option.some.inj e2
  obtain ⟨b, cell, g1, g2, rfl⟩ := Term.length_spec e1
  cases ev.symm.trans g1
  have g3 : cell.slots.size < 2 ^ 31 := by
    apply Decidable.byContradiction
    intro q
    simp [Term.eval, ev, g2, q] at e1
  have g4 : cell = cl := by
    simp only [State.arrayAt?, Option.bind_eq_bind, Option.bind_eq_some_iff] at g2
    obtain ⟨c2, q1, k2, q2, q3⟩ := g2
    split at q3
    · cases q3
    · split at q3
      · cases q3; exact Option.some.inj (q1.symm.trans hc)
      · cases q3
  rw [← g4]
  refine ⟨g3, ?_⟩
  simp only [Cond.value] at h
  rw [e1, e2] at h
  simpa using h
theorem own_elem {args : Array Value} {s : State} {t u : Term} {a b : Addr} {cl : Cell} {k : Int32} (ev : t.eval args s none [] s = some (.ref a)) (hc : s.heap[a]? = some cl) (eu : u.eval args s none [] s = some (.ref b)) (h : (Jvm.Cond.eq (.elem t (.int k)) u).value args s none s [] = some true) : cl.slots[k.toNatClampNeg]? = some (.ref b) := by
  obtain ⟨x, y, e1, e2, -, -⟩ := cmp_v (Or.inl h)
  cases eu.symm.trans e2
  have q := (elem_in e1 ev rfl hc).2
  have : x = .ref b := by
    simp only [Cond.value] at h
    rw [e1, e2] at h
    cases x <;> simp at h ⊢
    exact h
  rw [q, this]
def own_on (d p : Int32) : Int32 := if d = p then 1 else 0
theorem own_on_self (d : Int32) : own_on d d = 1 := if_pos rfl
theorem own_on_ne {d p : Int32} (h : ¬ d = p) : own_on d p = 0 := if_neg h
theorem own_q (q : Int32) (h : ¬ q < (-1 : Int32)) : ¬ (-2 : Int32) = q := fun e => by subst e; exact h (by decide)
theorem own_q2 (q : Int32) : ¬ (-2 : Int32) = (q &&& (2147483647 : Int32)) := fun e => by
  have := (c_and q 2147483647 (by decide)).1
  rw [← e] at this; exact absurd this (by decide)
theorem d3_0 : decode prog_28_method_1_code 0 = .ok (.getstatic 13, 3) := by decide +kernel
theorem d3_3 : decode prog_28_method_1_code 3 = .ok (.invokevirtual 17, 3) := by decide +kernel
theorem d3_6 : decode prog_28_method_1_code 6 = .ok (.checkcast 18, 3) := by decide +kernel
theorem d3_9 : decode prog_28_method_1_code 9 = .ok (.areturn, 1) := by decide +kernel
theorem pn_3 : plainName "com/example/glimmerboard/glimmerboard/forager/Size" = true := by first | (simp [plainName, overriddenIn]; done) | decide +kernel
theorem ef_rm3 (m : MethodId)  : entryFrame m #[] 0 = mkF m 0 #[] [] := by first | (simp [entryFrame, mkF, argsToLocals, Value.category]; done) | rfl
def Qrm3 (Z : State) (av : Addr) (kv : ClassId) (z0 : Addr) (z1 : Addr) (z2 : Addr) (h0 : Heap) (n0 : Nat) (v : Option Value) (h : Heap) (L : List Loc) : Prop := ∃ (r : Addr), (v = some (.ref r)) ∧ (Fr n0 L) ∧ (Keep h0 h []) ∧ (Arv Z h r kv (.object "com/example/glimmerboard/glimmerboard/forager/Size") (3 : Int32) [(.ref z0), (.ref z1), (.ref z2)] .null) ∧ (h0.size ≤ r)
set_option maxRecDepth 65536 in
set_option maxHeartbeats 40000000 in
theorem rm3 (l : Launch) (Z : State) (a0 : Array Value) (hw : ∀ d ∈ tables_1, d.before a0 Z = true) (ws : List Jvm.Cond) (av : Addr) (kv : ClassId) (z0 : Addr) (z1 : Addr) (z2 : Addr) (h0 : Heap) (n0 : Nat) (Z0 : n0 ≤ h0.size) (pr1 : Sta Z h0 "com/example/glimmerboard/glimmerboard/forager/Size" "$VALUES" "[Lcom/example/glimmerboard/glimmerboard/forager/Size;" (.ref av)) (pr2 : Arv Z h0 av kv (.object "com/example/glimmerboard/glimmerboard/forager/Size") (3 : Int32) [(.ref z0), (.ref z1), (.ref z2)] .null) (pr3 : Exa Z h0 av "[Lcom/example/glimmerboard/glimmerboard/forager/Size;") :
    MetFree l (⟨"com/example/glimmerboard/glimmerboard/forager/Size", "values", "()[Lcom/example/glimmerboard/glimmerboard/forager/Size;"⟩ : MethodName) (head1 (Jvm.Cond.code (⟨"com/example/glimmerboard/glimmerboard/forager/Size", "values", "()[Lcom/example/glimmerboard/glimmerboard/forager/Size;"⟩ : MethodName) prog_28_method_1_code 0 (some (.array (.object "com/example/glimmerboard/glimmerboard/forager/Size"))) :: ws) ({ frames := 1, cells := 1, slots := 3, locals := 14 } : Room)) (fun a U => a = #[] ∧ Z.Warmed39 U.vm ∧ U.heap = h0) (fun _ _ _ _ _ => True) (fun _ U o U' => ∃ v L, o = .returned v ∧ Qrm3 Z av kv z0 z1 z2 h0 n0 v U'.heap L ∧ FrameEnd U o U' L ({ frames := 1, cells := 1, slots := 3, locals := 14 } : Room).cells ({ frames := 1, cells := 1, slots := 3, locals := 14 } : Room).slots) := by
  refine MetFree.of_bodySF (plainFor_of_name pn_3) hisR ?_
  intro p e s m args below meth c s₁ Bd hml0 hP0 hK
  obtain ⟨rfl, hZ, hh⟩ := hP0
  have hx := Bd.exec
  have hby := Bd.bytes
  have hml : c.maxLocals = 0 := hml0
  have hown : s.vm.findClass "com/example/glimmerboard/glimmerboard/forager/Size" = some m.cls := findClass_of_methodNamed Bd.named
  have hnm := (name_of_methodNamed Bd.named Bd.method).1
  have X0 : Stand p l e ({ frames := 1, cells := 1, slots := 3, locals := 14 } : Room) s m #[] below meth c s₁ [] 0 0 := Stand.of_body Bd
  have e0 : s₁.heap = h0 := by rw [← hh, Bd.state]; rfl
  have N0 := Fr.nil n0
  suffices own_H : ∀ (P : State → Outcome → Prop), (∀ U o, U.status = .running → Ended U below o → (∃ v L, o = .returned v ∧ Qrm3 Z av kv z0 z1 z2 h0 n0 v U.heap L ∧ FrameEnd s o U L ({ frames := 1, cells := 1, slots := 3, locals := 14 } : Room).cells ({ frames := 1, cells := 1, slots := 3, locals := 14 } : Room).slots) → P U o) → own_Go p.tables e below P (s₁.setTop (mkF m 0 #[] [])) from own_go (fun _ k => castTop (ef_rm3 m ) k) (own_H _ (fun U o h1 h2 h3 => ⟨h1, h2, h3⟩))
  intro P hP
  have lt_av : @LT.lt Nat _ av h0.size := pr2.lt
  obtain ⟨T1, X1, e1, st1⟩ := getS2 X0 hx hZ hown (host := "") (Or.inl (hw _ (List.mem_of_getElem? (i := 17) rfl))) Via.refl e0 pr1 (g := (mkF m 0 #[] [])) rfl (hb hby d3_0)
  refine own_go (st' := T1.setTop (mkF m 3 #[] [(.ref av)])) (st1) ?_
  obtain ⟨T2, h2, X2, e2, E2, A2, EX2, st2⟩ := cloneH X1 hx hZ hown (hw _ (List.mem_of_getElem? (i := 19) rfl)) (hw _ (List.mem_of_getElem? (i := 20) rfl)) (hw _ (List.mem_of_getElem? (i := 24) rfl)) (hw _ (List.mem_of_getElem? (i := 22) rfl)) (hw _ (List.mem_of_getElem? (i := 23) rfl)) (hw _ (List.mem_of_getElem? (i := 25) rfl)) e1 (Arv.arh pr2) pr3 (g := (mkF m 3 #[] [(.ref av)])) rfl (by rw [hml]; rfl) rfl (hb hby d3_3) (by decide) (W := 0) (cap := 3) (by show 2 * 0 + _ ≤ _; exact Nat.le_of_eq rfl) (by decide) (by decide) (by decide) (by decide)
  obtain ⟨b2, g2⟩ : ∃ z, z = h0.size := ⟨_, rfl⟩
  rw [← g2] at A2 EX2 st2
  have sz2 : h0.size ≤ h2.size := E2.1
  have lt2 : @LT.lt Nat _ b2 h2.size := EX2.lt
  have v2 : Arv Z h2 b2 kv (.object "com/example/glimmerboard/glimmerboard/forager/Size") (3 : Int32) [(.ref z0), (.ref z1), (.ref z2)] .null := A2
  refine own_go (st' := T2.setTop (mkF m 6 #[] [(.ref b2)])) (st2) ?_
  obtain ⟨T3, X3, e3, st3⟩ := castY X2 hx hZ hown (hw _ (List.mem_of_getElem? (i := 30) rfl)) e2 (Ins.self EX2) (g := (mkF m 6 #[] [(.ref b2)])) rfl rfl (hb hby d3_6)
  refine own_go (st' := T3.setTop (mkF m 9 #[] [(.ref b2)])) (st3) ?_
  obtain ⟨fs, hr, hrun, hended, hW, hsame⟩ := X3.leave (v := some (.ref b2)) (fun h => by rw [Bd.returns] at h; cases h)
  refine ⟨_, _, ?_, hP _ _ hrun hended ⟨_, _, rfl, ?_, ⟨_, rfl⟩, hW, hsame.mono (by decide) (by decide)⟩⟩
  · exact retOut X3 hx Bd.returns rfl (Or.inr (Or.inr (Or.inr (Or.inr ⟨rfl, rfl, rfl⟩)))) (hb hby d3_9) hr
  · show Qrm3 Z av kv z0 z1 z2 h0 n0 _ T3.heap _
    rw [e3]
    exact ⟨b2, rfl, N0, ((Keep.refl h0 []).ext E2), v2, (by omega)⟩
theorem pd_0 : parseMethodDescriptor "()[Lcom/example/glimmerboard/glimmerboard/forager/Size;" = some ⟨[], some (.array (.object "com/example/glimmerboard/glimmerboard/forager/Size"))⟩ := by decide +kernel
theorem d1_0 : decode prog_17_method_1_code 0 = .ok (.aload_n 0, 1) := by decide +kernel
theorem d1_1 : decode prog_17_method_1_code 1 = .ok (.invokespecial 1, 3) := by decide +kernel
theorem d1_4 : decode prog_17_method_1_code 4 = .ok (.aload_n 0, 1) := by decide +kernel
theorem d1_5 : decode prog_17_method_1_code 5 = .ok (.invokestatic 7, 3) := by decide +kernel
theorem d1_8 : decode prog_17_method_1_code 8 = .ok (.arraylength, 1) := by decide +kernel
theorem d1_9 : decode prog_17_method_1_code 9 = .ok (.newarray .int, 2) := by decide +kernel
theorem d1_11 : decode prog_17_method_1_code 11 = .ok (.putfield 13, 3) := by decide +kernel
theorem d1_14 : decode prog_17_method_1_code 14 = .ok (.aload_n 0, 1) := by decide +kernel
theorem d1_15 : decode prog_17_method_1_code 15 = .ok (.bipush (-2), 2) := by decide +kernel
theorem d1_17 : decode prog_17_method_1_code 17 = .ok (.putfield 19, 3) := by decide +kernel
theorem d1_20 : decode prog_17_method_1_code 20 = .ok (.aload_n 0, 1) := by decide +kernel
theorem d1_21 : decode prog_17_method_1_code 21 = .ok (.aload_n 1, 1) := by decide +kernel
theorem d1_22 : decode prog_17_method_1_code 22 = .ok (.putfield 23, 3) := by decide +kernel
theorem d1_25 : decode prog_17_method_1_code 25 = .ok (.aload_n 2, 1) := by decide +kernel
theorem d1_26 : decode prog_17_method_1_code 26 = .ok (.iconst 0, 1) := by decide +kernel
theorem d1_27 : decode prog_17_method_1_code 27 = .ok (.aload_n 0, 1) := by decide +kernel
theorem d1_28 : decode prog_17_method_1_code 28 = .ok (.getfield 13, 3) := by decide +kernel
theorem d1_31 : decode prog_17_method_1_code 31 = .ok (.iconst 0, 1) := by decide +kernel
theorem d1_32 : decode prog_17_method_1_code 32 = .ok (.aload_n 0, 1) := by decide +kernel
theorem d1_33 : decode prog_17_method_1_code 33 = .ok (.getfield 13, 3) := by decide +kernel
theorem d1_36 : decode prog_17_method_1_code 36 = .ok (.arraylength, 1) := by decide +kernel
theorem d1_37 : decode prog_17_method_1_code 37 = .ok (.invokestatic 27, 3) := by decide +kernel
theorem d1_40 : decode prog_17_method_1_code 40 = .ok (.return_, 1) := by decide +kernel
theorem pn_1 : plainName "com/example/glimmerboard/glimmerboard/forager/Family" = true := by first | (simp [plainName, overriddenIn]; done) | decide +kernel
theorem ef_rm1 (m : MethodId) (x0 : Addr) (x1 : Addr) (x2 : Addr) : entryFrame m #[(.ref x0), (.ref x1), (.ref x2)] 3 = mkF m 0 #[.val (.ref x0), .val (.ref x1), .val (.ref x2)] [] := by first | (simp [entryFrame, mkF, argsToLocals, Value.category]; done) | rfl
def Qrm1 (Z : State) (a1 : Addr) (ac : Addr) (ar : Addr) (ka : ClassId) (i0 : Int32) (i1 : Int32) (i2 : Int32) (u5 : Int32) (av : Addr) (kv : ClassId) (z0 : Addr) (z1 : Addr) (z2 : Addr) (h0 : Heap) (n0 : Nat) (v : Option Value) (h : Heap) (L : List Loc) : Prop := (v = none) ∧ (Fr n0 L) ∧ (Keep h0 h [a1]) ∧ (Exa Z h a1 "com/example/glimmerboard/glimmerboard/forager/Family") ∧ (Fld Z h a1 "com/example/glimmerboard/glimmerboard/forager/Family" "den" "I" (.int (-2 : Int32)))
set_option maxRecDepth 65536 in
set_option maxHeartbeats 40000000 in
theorem rm1 (l : Launch) (Z : State) (a0 : Array Value) (hw : ∀ d ∈ tables_1, d.before a0 Z = true) (ws : List Jvm.Cond) (a1 : Addr) (ac : Addr) (ar : Addr) (ka : ClassId) (i0 : Int32) (i1 : Int32) (i2 : Int32) (u5 : Int32) (av : Addr) (kv : ClassId) (z0 : Addr) (z1 : Addr) (z2 : Addr) (h0 : Heap) (n0 : Nat) (Z0 : n0 ≤ h0.size) (pr1 : Exa Z h0 a1 "com/example/glimmerboard/glimmerboard/forager/Family") (pr2 : Fld Z h0 a1 "com/example/glimmerboard/glimmerboard/forager/Family" "cells" "[I" .null) (pr3 : Fld Z h0 a1 "com/example/glimmerboard/glimmerboard/forager/Family" "den" "I" (.int u5)) (pr4 : Fld Z h0 a1 "com/example/glimmerboard/glimmerboard/forager/Family" "colour" "Lcom/example/glimmerboard/glimmerboard/forager/Colour;" .null) (pr5 : Arv Z h0 ar ka .int (3 : Int32) [(.int i0), (.int i1), (.int i2)] (.int (0 : Int32))) (pr6 : Sta Z h0 "com/example/glimmerboard/glimmerboard/forager/Size" "$VALUES" "[Lcom/example/glimmerboard/glimmerboard/forager/Size;" (.ref av)) (pr7 : Arv Z h0 av kv (.object "com/example/glimmerboard/glimmerboard/forager/Size") (3 : Int32) [(.ref z0), (.ref z1), (.ref z2)] .null) (pr8 : Exa Z h0 av "[Lcom/example/glimmerboard/glimmerboard/forager/Size;") (pr9 : n0 ≤ a1) (pr10 : a1 ≠ ar) :
    MetFree l (⟨"com/example/glimmerboard/glimmerboard/forager/Family", "<init>", "(Lcom/example/glimmerboard/glimmerboard/forager/Colour;[I)V"⟩ : MethodName) (head1 (Jvm.Cond.code (⟨"com/example/glimmerboard/glimmerboard/forager/Family", "<init>", "(Lcom/example/glimmerboard/glimmerboard/forager/Colour;[I)V"⟩ : MethodName) prog_17_method_1_code 3 none :: ws) ({ frames := 2, cells := 2, slots := 6, locals := 64 } : Room)) (fun a U => a = #[(.ref a1), (.ref ac), (.ref ar)] ∧ Z.Warmed39 U.vm ∧ U.heap = h0) (fun _ _ _ _ _ => True) (fun _ U o U' => ∃ v L, o = .returned v ∧ Qrm1 Z a1 ac ar ka i0 i1 i2 u5 av kv z0 z1 z2 h0 n0 v U'.heap L ∧ FrameEnd U o U' L ({ frames := 2, cells := 2, slots := 6, locals := 64 } : Room).cells ({ frames := 2, cells := 2, slots := 6, locals := 64 } : Room).slots) := by
  refine MetFree.of_bodySF (plainFor_of_name pn_1) hisR ?_
  intro p e s m args below meth c s₁ Bd hml0 hP0 hK
  obtain ⟨rfl, hZ, hh⟩ := hP0
  have hx := Bd.exec
  have hby := Bd.bytes
  have hml : c.maxLocals = 3 := hml0
  have hown : s.vm.findClass "com/example/glimmerboard/glimmerboard/forager/Family" = some m.cls := findClass_of_methodNamed Bd.named
  have hnm := (name_of_methodNamed Bd.named Bd.method).1
  have X0 : Stand p l e ({ frames := 2, cells := 2, slots := 6, locals := 64 } : Room) s m #[(.ref a1), (.ref ac), (.ref ar)] below meth c s₁ [] 0 0 := Stand.of_body Bd
  have e0 : s₁.heap = h0 := by rw [← hh, Bd.state]; rfl
  have N0 := Fr.nil n0
  suffices own_H : ∀ (P : State → Outcome → Prop), (∀ U o, U.status = .running → Ended U below o → (∃ v L, o = .returned v ∧ Qrm1 Z a1 ac ar ka i0 i1 i2 u5 av kv z0 z1 z2 h0 n0 v U.heap L ∧ FrameEnd s o U L ({ frames := 2, cells := 2, slots := 6, locals := 64 } : Room).cells ({ frames := 2, cells := 2, slots := 6, locals := 64 } : Room).slots) → P U o) → own_Go p.tables e below P (s₁.setTop (mkF m 0 #[.val (.ref a1), .val (.ref ac), .val (.ref ar)] [])) from own_go (fun _ k => castTop (ef_rm1 m a1 ac ar) k) (own_H _ (fun U o h1 h2 h3 => ⟨h1, h2, h3⟩))
  intro P hP
  have lt_a1 : @LT.lt Nat _ a1 h0.size := pr1.lt
  have lt_ar : @LT.lt Nat _ ar h0.size := pr5.lt
  have lt_av : @LT.lt Nat _ av h0.size := pr7.lt
  refine own_go (st' := s₁.setTop (mkF m 1 #[.val (.ref a1), .val (.ref ac), .val (.ref ar)] [(.ref a1)])) (fun _ k => XS.aloadN X0.here hx rfl (hb hby d1_0) rfl rfl k) ?_
  obtain ⟨T1, X1, e1, st1⟩ := initO X0 hx hZ hown (hw _ (List.mem_of_getElem? (i := 10) rfl)) (hw _ (List.mem_of_getElem? (i := 11) rfl)) (hw _ (List.mem_of_getElem? (i := 12) rfl)) e0 (g := (mkF m 1 #[.val (.ref a1), .val (.ref ac), .val (.ref ar)] [(.ref a1)])) rfl (by rw [hml]; rfl) rfl (hb hby d1_1) (by decide) (W := 0) (by show 2 * 0 + _ ≤ _; exact Nat.le_of_eq rfl) (by decide)
  refine own_go (st' := T1.setTop (mkF m 4 #[.val (.ref a1), .val (.ref ac), .val (.ref ar)] [])) (st1) ?_
  refine own_go (st' := T1.setTop (mkF m 5 #[.val (.ref a1), .val (.ref ac), .val (.ref ar)] [(.ref a1)])) (fun _ k => XS.aloadN X1.here hx rfl (hb hby d1_4) rfl rfl k) ?_
  obtain ⟨_, _, ⟨T2, LC2, kC2, nC2⟩, -, X2, ⟨Lc2, hQ2, lq2, yq2, zq2⟩, st2⟩ := Jvm.LawKit.callS X1 hx (y := (⟨"com/example/glimmerboard/glimmerboard/forager/Size", "values", "()[Lcom/example/glimmerboard/glimmerboard/forager/Size;"⟩ : MethodName)) hown (mvT hZ (hw _ (List.mem_of_getElem? (i := 13) rfl))) (mvT hZ (hw _ (List.mem_of_getElem? (i := 14) rfl))) (mvT hZ (hw _ (List.mem_of_getElem? (i := 15) rfl))) (mvT hZ (hw _ (List.mem_of_getElem? (i := 16) rfl))) (by decide) (backOf (W := 1) (rm3 l Z a0 hw [] av kv z0 z1 z2 h0 n0 (by omega) pr6 pr7 pr8) hZ (hw _ (List.mem_of_getElem? (i := 16) rfl)) (hw _ (List.mem_of_getElem? (i := 15) rfl)) (by decide) (by decide)) (g := (mkF m 5 #[.val (.ref a1), .val (.ref ac), .val (.ref ar)] [(.ref a1)])) rfl (by rw [hml]; rfl) (argsL := []) (rest := [(.ref a1)]) (lenOf pd_0 rfl) rfl (by show 2 * 0 + _ ≤ _; exact Nat.le_of_eq rfl) (hb hby d1_5) (fun _ _ => ⟨rfl, e1, (by decide : 0 + 1 ≤ _), (by decide : 0 + 3 ≤ _)⟩)
  dsimp only [Pt.U, Pt.locs, Pt.cells, Pt.slots] at X2 lq2 yq2 zq2 st2 hQ2
  subst lq2 yq2 zq2
  obtain ⟨h2, e2⟩ : ∃ z, T2.heap = z := ⟨_, rfl⟩
  rw [e2] at hQ2
  obtain ⟨r_2, rfl, Nq2, K2, g2_0, g2_1⟩ := hQ2
  have sz2 : h0.size ≤ h2.size := K2.1
  have N2 := Fr.app N0 Nq2
  have lt2_1 : @LT.lt Nat _ r_2 h2.size := g2_0.lt
  refine own_go (st' := T2.setTop (mkF m 8 #[.val (.ref a1), .val (.ref ac), .val (.ref ar)] [(.ref r_2), (.ref a1)])) (fun t k => st2 t k) ?_
  obtain ⟨cl3, Ar3, -, S3, M3, -, -⟩ := id g2_0
  refine own_go (st' := T2.setTop (mkF m 9 #[.val (.ref a1), .val (.ref ac), .val (.ref ar)] [(.int (3 : Int32)), (.ref a1)])) (fun t k => X2.arraylength hx (by rw [e2]; exact Ar3.1) (State.isArrayOf_alike hZ.alike Ar3.2.1) (g := (mkF m 8 #[.val (.ref a1), .val (.ref ac), .val (.ref ar)] [(.ref r_2), (.ref a1)])) rfl rfl (hb hby d1_8) t (by rw [len_of S3 M3]; exact k)) ?_
  obtain ⟨T4, h4, k4, X4, e4, E4, A4, st4⟩ := newP X2 hx hZ (hw _ (List.mem_of_getElem? (i := 6) rfl)) e2 (g := (mkF m 9 #[.val (.ref a1), .val (.ref ac), .val (.ref ar)] [(.int (3 : Int32)), (.ref a1)])) rfl (hb hby d1_9) rfl (by decide) (cap := 3) (by decide) (by decide) (by decide) (by decide)
  obtain ⟨b4, g4⟩ : ∃ z, z = h2.size := ⟨_, rfl⟩
  rw [← g4] at A4 st4
  have sz4 : h2.size ≤ h4.size := E4.1
  have lt4 : @LT.lt Nat _ b4 h4.size := A4.lt
  have v4 : Arv Z h4 b4 k4 .int (3 : Int32) [(.int (0 : Int32)), (.int (0 : Int32)), (.int (0 : Int32))] (.int (0 : Int32)) := (Arv.new A4 (by decide)).pad (pad_rep [] (.int (0 : Int32)) 3)
  refine own_go (st' := T4.setTop (mkF m 11 #[.val (.ref a1), .val (.ref ac), .val (.ref ar)] [(.ref b4), (.ref a1)])) (st4) ?_
  have c5 : Fld Z h4 a1 "com/example/glimmerboard/glimmerboard/forager/Family" "cells" "[I" .null := ((pr2.keep K2 nin0).ext E4)
  have c6 : Exa Z h4 a1 "com/example/glimmerboard/glimmerboard/forager/Family" := ((pr1.keep K2).ext E4)
  obtain ⟨T7, h7, X7, e7, W7, st7⟩ := putF X4 hx hZ hown (host := "") (Or.inl (hw _ (List.mem_of_getElem? (i := 32) rfl))) Via.refl e4 c5 c6 (Or.inr ⟨(hw _ (List.mem_of_getElem? (i := 33) rfl)), rfl, hnm⟩) (hw _ (List.mem_of_getElem? (i := 1) rfl)) (ty := (.array .int)) (by decide) rfl rfl (g := (mkF m 11 #[.val (.ref a1), .val (.ref ac), .val (.ref ar)] [(.ref b4), (.ref a1)])) rfl rfl (hb hby d1_11)
  have sz7 : h7.size = h4.size := W7.size
  have N7 := Fr.snoc X7 N2 (by omega)
  have f7 : Fld Z h7 a1 "com/example/glimmerboard/glimmerboard/forager/Family" "cells" "[I" (.ref b4) := c5.same W7
  refine own_go (st' := T7.setTop (mkF m 14 #[.val (.ref a1), .val (.ref ac), .val (.ref ar)] [])) (st7) ?_
  refine own_go (st' := T7.setTop (mkF m 15 #[.val (.ref a1), .val (.ref ac), .val (.ref ar)] [(.ref a1)])) (fun _ k => XS.aloadN X7.here hx rfl (hb hby d1_14) rfl rfl k) ?_
  refine own_go (st' := T7.setTop (mkF m 17 #[.val (.ref a1), .val (.ref ac), .val (.ref ar)] [(.int (-2 : Int32)), (.ref a1)])) (fun _ k => XS.bipush X7.here hx rfl (hb hby d1_15) k) ?_
  have c8 : Fld Z h7 a1 "com/example/glimmerboard/glimmerboard/forager/Family" "den" "I" (.int u5) := (((pr3.keep K2 nin0).ext E4).other W7 (Or.inr (slot_ne (Or.inl (hw _ (List.mem_of_getElem? (i := 35) rfl))) (Or.inr (hw _ (List.mem_of_getElem? (i := 33) rfl))) (by decide) (t := .int) (t' := (.array .int)) (by decide) (by decide))))
  have c9 : Exa Z h7 a1 "com/example/glimmerboard/glimmerboard/forager/Family" := (c6.wr W7)
  obtain ⟨T10, h10, X10, e10, W10, st10⟩ := putF X7 hx hZ hown (host := "") (Or.inl (hw _ (List.mem_of_getElem? (i := 34) rfl))) Via.refl e7 c8 c9 (Or.inl (hw _ (List.mem_of_getElem? (i := 35) rfl))) (hw _ (List.mem_of_getElem? (i := 1) rfl)) (ty := .int) (by decide) rfl rfl (g := (mkF m 17 #[.val (.ref a1), .val (.ref ac), .val (.ref ar)] [(.int (-2 : Int32)), (.ref a1)])) rfl rfl (hb hby d1_17)
  have sz10 : h10.size = h7.size := W10.size
  have N10 := Fr.snoc X10 N7 (by omega)
  have f10 : Fld Z h10 a1 "com/example/glimmerboard/glimmerboard/forager/Family" "den" "I" (.int (-2 : Int32)) := c8.same W10
  refine own_go (st' := T10.setTop (mkF m 20 #[.val (.ref a1), .val (.ref ac), .val (.ref ar)] [])) (st10) ?_
  refine own_go (st' := T10.setTop (mkF m 21 #[.val (.ref a1), .val (.ref ac), .val (.ref ar)] [(.ref a1)])) (fun _ k => XS.aloadN X10.here hx rfl (hb hby d1_20) rfl rfl k) ?_
  refine own_go (st' := T10.setTop (mkF m 22 #[.val (.ref a1), .val (.ref ac), .val (.ref ar)] [(.ref ac), (.ref a1)])) (fun _ k => XS.aloadN X10.here hx rfl (hb hby d1_21) rfl rfl k) ?_
  have c11 : Fld Z h10 a1 "com/example/glimmerboard/glimmerboard/forager/Family" "colour" "Lcom/example/glimmerboard/glimmerboard/forager/Colour;" .null := ((((pr4.keep K2 nin0).ext E4).other W7 (Or.inr (slot_ne (Or.inr (hw _ (List.mem_of_getElem? (i := 37) rfl))) (Or.inr (hw _ (List.mem_of_getElem? (i := 33) rfl))) (by decide) (t := (.object "com/example/glimmerboard/glimmerboard/forager/Colour")) (t' := (.array .int)) (by decide) (by decide)))).other W10 (Or.inr (slot_ne (Or.inr (hw _ (List.mem_of_getElem? (i := 37) rfl))) (Or.inl (hw _ (List.mem_of_getElem? (i := 35) rfl))) (by decide) (t := (.object "com/example/glimmerboard/glimmerboard/forager/Colour")) (t' := .int) (by decide) (by decide))))
  have c12 : Exa Z h10 a1 "com/example/glimmerboard/glimmerboard/forager/Family" := (c9.wr W10)
  obtain ⟨T13, h13, X13, e13, W13, st13⟩ := putF X10 hx hZ hown (host := "") (Or.inl (hw _ (List.mem_of_getElem? (i := 36) rfl))) Via.refl e10 c11 c12 (Or.inr ⟨(hw _ (List.mem_of_getElem? (i := 37) rfl)), rfl, hnm⟩) (hw _ (List.mem_of_getElem? (i := 1) rfl)) (ty := (.object "com/example/glimmerboard/glimmerboard/forager/Colour")) (by decide) rfl rfl (g := (mkF m 22 #[.val (.ref a1), .val (.ref ac), .val (.ref ar)] [(.ref ac), (.ref a1)])) rfl rfl (hb hby d1_22)
  have sz13 : h13.size = h10.size := W13.size
  have N13 := Fr.snoc X13 N10 (by omega)
  have f13 : Fld Z h13 a1 "com/example/glimmerboard/glimmerboard/forager/Family" "colour" "Lcom/example/glimmerboard/glimmerboard/forager/Colour;" (.ref ac) := c11.same W13
  refine own_go (st' := T13.setTop (mkF m 25 #[.val (.ref a1), .val (.ref ac), .val (.ref ar)] [])) (st13) ?_
  refine own_go (st' := T13.setTop (mkF m 26 #[.val (.ref a1), .val (.ref ac), .val (.ref ar)] [(.ref ar)])) (fun _ k => XS.aloadN X13.here hx rfl (hb hby d1_25) rfl rfl k) ?_
  refine own_go (st' := T13.setTop (mkF m 27 #[.val (.ref a1), .val (.ref ac), .val (.ref ar)] [(.int (0 : Int32)), (.ref ar)])) (fun _ k => XS.iconst X13.here hx rfl (hb hby d1_26) k) ?_
  refine own_go (st' := T13.setTop (mkF m 28 #[.val (.ref a1), .val (.ref ac), .val (.ref ar)] [(.ref a1), (.int (0 : Int32)), (.ref ar)])) (fun _ k => XS.aloadN X13.here hx rfl (hb hby d1_27) rfl rfl k) ?_
  have c14 : Fld Z h13 a1 "com/example/glimmerboard/glimmerboard/forager/Family" "cells" "[I" (.ref b4) := ((f7.other W10 (Or.inr (slot_ne (Or.inr (hw _ (List.mem_of_getElem? (i := 33) rfl))) (Or.inl (hw _ (List.mem_of_getElem? (i := 35) rfl))) (by decide) (t := (.array .int)) (t' := .int) (by decide) (by decide)))).other W13 (Or.inr (slot_ne (Or.inr (hw _ (List.mem_of_getElem? (i := 33) rfl))) (Or.inr (hw _ (List.mem_of_getElem? (i := 37) rfl))) (by decide) (t := (.array .int)) (t' := (.object "com/example/glimmerboard/glimmerboard/forager/Colour")) (by decide) (by decide))))
  obtain ⟨T15, X15, e15, st15⟩ := getF X13 hx hZ hown (host := "") (Or.inl (hw _ (List.mem_of_getElem? (i := 32) rfl))) Via.refl e13 c14 (g := (mkF m 28 #[.val (.ref a1), .val (.ref ac), .val (.ref ar)] [(.ref a1), (.int (0 : Int32)), (.ref ar)])) rfl rfl (hb hby d1_28)
  refine own_go (st' := T15.setTop (mkF m 31 #[.val (.ref a1), .val (.ref ac), .val (.ref ar)] [(.ref b4), (.int (0 : Int32)), (.ref ar)])) (st15) ?_
  refine own_go (st' := T15.setTop (mkF m 32 #[.val (.ref a1), .val (.ref ac), .val (.ref ar)] [(.int (0 : Int32)), (.ref b4), (.int (0 : Int32)), (.ref ar)])) (fun _ k => XS.iconst X15.here hx rfl (hb hby d1_31) k) ?_
  refine own_go (st' := T15.setTop (mkF m 33 #[.val (.ref a1), .val (.ref ac), .val (.ref ar)] [(.ref a1), (.int (0 : Int32)), (.ref b4), (.int (0 : Int32)), (.ref ar)])) (fun _ k => XS.aloadN X15.here hx rfl (hb hby d1_32) rfl rfl k) ?_
  obtain ⟨T16, X16, e16, st16⟩ := getF X15 hx hZ hown (host := "") (Or.inl (hw _ (List.mem_of_getElem? (i := 32) rfl))) Via.refl e15 c14 (g := (mkF m 33 #[.val (.ref a1), .val (.ref ac), .val (.ref ar)] [(.ref a1), (.int (0 : Int32)), (.ref b4), (.int (0 : Int32)), (.ref ar)])) rfl rfl (hb hby d1_33)
  refine own_go (st' := T16.setTop (mkF m 36 #[.val (.ref a1), .val (.ref ac), .val (.ref ar)] [(.ref b4), (.int (0 : Int32)), (.ref b4), (.int (0 : Int32)), (.ref ar)])) (st16) ?_
  have c17 : Arv Z h13 b4 k4 .int (3 : Int32) [(.int (0 : Int32)), (.int (0 : Int32)), (.int (0 : Int32))] (.int (0 : Int32)) := (((v4.other W7 (by first | assumption | exact Ne.symm (by assumption) | (apply Nat.ne_of_lt; omega) | (apply Nat.ne_of_gt; omega))).other W10 (by first | assumption | exact Ne.symm (by assumption) | (apply Nat.ne_of_lt; omega) | (apply Nat.ne_of_gt; omega))).other W13 (by first | assumption | exact Ne.symm (by assumption) | (apply Nat.ne_of_lt; omega) | (apply Nat.ne_of_gt; omega)))
  obtain ⟨cl18, Ar18, -, S18, M18, -, -⟩ := id c17
  refine own_go (st' := T16.setTop (mkF m 37 #[.val (.ref a1), .val (.ref ac), .val (.ref ar)] [(.int (3 : Int32)), (.int (0 : Int32)), (.ref b4), (.int (0 : Int32)), (.ref ar)])) (fun t k => X16.arraylength hx (by rw [e16]; exact Ar18.1) (State.isArrayOf_alike hZ.alike Ar18.2.1) (g := (mkF m 36 #[.val (.ref a1), .val (.ref ac), .val (.ref ar)] [(.ref b4), (.int (0 : Int32)), (.ref b4), (.int (0 : Int32)), (.ref ar)])) rfl rfl (hb hby d1_36) t (by rw [len_of S18 M18]; exact k)) ?_
  have c20 : Arv Z h13 ar ka .int (3 : Int32) [(.int i0), (.int i1), (.int i2)] (.int (0 : Int32)) := (((((pr5.keep K2 nin0).ext E4).other W7 (by first | assumption | exact Ne.symm (by assumption) | (apply Nat.ne_of_lt; omega) | (apply Nat.ne_of_gt; omega))).other W10 (by first | assumption | exact Ne.symm (by assumption) | (apply Nat.ne_of_lt; omega) | (apply Nat.ne_of_gt; omega))).other W13 (by first | assumption | exact Ne.symm (by assumption) | (apply Nat.ne_of_lt; omega) | (apply Nat.ne_of_gt; omega)))
  obtain ⟨T19, h19, LL19, X19, e19, N19, K19, V19, st19⟩ := cpA X16 hx hZ hown (hw _ (List.mem_of_getElem? (i := 38) rfl)) (hw _ (List.mem_of_getElem? (i := 41) rfl)) (hw _ (List.mem_of_getElem? (i := 39) rfl)) (hw _ (List.mem_of_getElem? (i := 40) rfl)) e16 c20 c17 (us := [(.int i0), (.int i1), (.int i2)]) (Or.inl ⟨rfl, rfl⟩) (sp := (0 : Int32)) (dp := (0 : Int32)) (nn := (3 : Int32)) (by decide) (by decide) (by decide) (by decide) (by decide) rfl (by decide) N13 (by omega) (g := (mkF m 37 #[.val (.ref a1), .val (.ref ac), .val (.ref ar)] [(.int (3 : Int32)), (.int (0 : Int32)), (.ref b4), (.int (0 : Int32)), (.ref ar)])) rfl (by rw [hml]; rfl) rfl (hb hby d1_37) (by decide) (W := 0) (by show 2 * 0 + _ ≤ _; exact Nat.le_of_eq rfl) (by decide)
  have sz19 : h13.size ≤ h19.size := K19.1
  have v19 : Arv Z h19 b4 k4 .int (3 : Int32) [(.int i0), (.int i1), (.int i2)] (.int (0 : Int32)) := V19
  refine own_go (st' := T19.setTop (mkF m 40 #[.val (.ref a1), .val (.ref ac), .val (.ref ar)] [])) (st19) ?_
  obtain ⟨fs, hr, hrun, hended, hW, hsame⟩ := X19.leave (v := none) (fun _ => rfl)
  refine ⟨_, _, ?_, hP _ _ hrun hended ⟨_, _, rfl, ?_, ⟨_, rfl⟩, hW, hsame.mono (by decide) (by decide)⟩⟩
  · exact X19.returnOut hx Bd.returns (hb hby d1_40) hr
  · show Qrm1 Z a1 ac ar ka i0 i1 i2 u5 av kv z0 z1 z2 h0 n0 _ T19.heap _
    have c22 : Exa Z h19 a1 "com/example/glimmerboard/glimmerboard/forager/Family" := ((c12.wr W13).keep K19)
    have c23 : Fld Z h19 a1 "com/example/glimmerboard/glimmerboard/forager/Family" "den" "I" (.int (-2 : Int32)) := ((f10.other W13 (Or.inr (slot_ne (Or.inl (hw _ (List.mem_of_getElem? (i := 35) rfl))) (Or.inr (hw _ (List.mem_of_getElem? (i := 37) rfl))) (by decide) (t := .int) (t' := (.object "com/example/glimmerboard/glimmerboard/forager/Colour")) (by decide) (by decide)))).keep K19 (ninS (by first | assumption | exact Ne.symm (by assumption) | (apply Nat.ne_of_lt; omega) | (apply Nat.ne_of_gt; omega)) nin0))
    rw [e19]
    exact ⟨rfl, N19, (((((((Keep.refl h0 [a1]).trans K2 all0).ext E4).wr W7 (Or.inl (List.mem_of_getElem? (i := 0) rfl))).wr W10 (Or.inl (List.mem_of_getElem? (i := 0) rfl))).wr W13 (Or.inl (List.mem_of_getElem? (i := 0) rfl))).trans K19 (allS (P := fun x => x ∈ [a1] ∨ h0.size ≤ x) (Or.inr (by omega)) all0)), c22, c23⟩
theorem d4_0 : decode prog_17_method_9_code 0 = .ok (.aload_n 0, 1) := by decide +kernel
theorem d4_1 : decode prog_17_method_9_code 1 = .ok (.getfield 19, 3) := by decide +kernel
theorem d4_4 : decode prog_17_method_9_code 4 = .ok (.iload_n 1, 1) := by decide +kernel
theorem d4_5 : decode prog_17_method_9_code 5 = .ok (.if_icmp .ne 7, 3) := by decide +kernel
theorem d4_8 : decode prog_17_method_9_code 8 = .ok (.iconst 1, 1) := by decide +kernel
theorem d4_9 : decode prog_17_method_9_code 9 = .ok (.goto 4, 3) := by decide +kernel
theorem d4_12 : decode prog_17_method_9_code 12 = .ok (.iconst 0, 1) := by decide +kernel
theorem d4_13 : decode prog_17_method_9_code 13 = .ok (.ireturn, 1) := by decide +kernel
theorem pn_4 : plainName "com/example/glimmerboard/glimmerboard/forager/Family" = true := by first | (simp [plainName, overriddenIn]; done) | decide +kernel
theorem ef_rm4 (m : MethodId) (x0 : Addr) (x1 : Int32) : entryFrame m #[(.ref x0), (.int x1)] 2 = mkF m 0 #[.val (.ref x0), .val (.int x1)] [] := by first | (simp [entryFrame, mkF, argsToLocals, Value.category]; done) | rfl
def Qrm4 (Z : State) (a1 : Addr) (p2 : Int32) (w3 : Int32) (h0 : Heap) (n0 : Nat) (v : Option Value) (h : Heap) (L : List Loc) : Prop := (v = some (.int (own_on w3 p2))) ∧ (Fr n0 L) ∧ (h = h0)
set_option maxRecDepth 65536 in
set_option maxHeartbeats 40000000 in
theorem rm4 (l : Launch) (Z : State) (a0 : Array Value) (hw : ∀ d ∈ tables_1, d.before a0 Z = true) (ws : List Jvm.Cond) (a1 : Addr) (p2 : Int32) (w3 : Int32) (h0 : Heap) (n0 : Nat) (Z0 : n0 ≤ h0.size) (pr1 : Fld Z h0 a1 "com/example/glimmerboard/glimmerboard/forager/Family" "den" "I" (.int w3)) :
    MetFree l (⟨"com/example/glimmerboard/glimmerboard/forager/Family", "denOn", "(I)Z"⟩ : MethodName) (head1 (Jvm.Cond.code (⟨"com/example/glimmerboard/glimmerboard/forager/Family", "denOn", "(I)Z"⟩ : MethodName) prog_17_method_9_code 2 (some .boolean) :: ws) ({ frames := 0, cells := 0, slots := 0, locals := 0 } : Room)) (fun a U => a = #[(.ref a1), (.int p2)] ∧ Z.Warmed39 U.vm ∧ U.heap = h0) (fun _ _ _ _ _ => True) (fun _ U o U' => ∃ v L, o = .returned v ∧ Qrm4 Z a1 p2 w3 h0 n0 v U'.heap L ∧ FrameEnd U o U' L ({ frames := 0, cells := 0, slots := 0, locals := 0 } : Room).cells ({ frames := 0, cells := 0, slots := 0, locals := 0 } : Room).slots) := by
  refine MetFree.of_bodySF (plainFor_of_name pn_4) hisR ?_
  intro p e s m args below meth c s₁ Bd hml0 hP0 hK
  obtain ⟨rfl, hZ, hh⟩ := hP0
  have hx := Bd.exec
  have hby := Bd.bytes
  have hml : c.maxLocals = 2 := hml0
  have hown : s.vm.findClass "com/example/glimmerboard/glimmerboard/forager/Family" = some m.cls := findClass_of_methodNamed Bd.named
  have hnm := (name_of_methodNamed Bd.named Bd.method).1
  have X0 : Stand p l e ({ frames := 0, cells := 0, slots := 0, locals := 0 } : Room) s m #[(.ref a1), (.int p2)] below meth c s₁ [] 0 0 := Stand.of_body Bd
  have e0 : s₁.heap = h0 := by rw [← hh, Bd.state]; rfl
  have N0 := Fr.nil n0
  suffices own_H : ∀ (P : State → Outcome → Prop), (∀ U o, U.status = .running → Ended U below o → (∃ v L, o = .returned v ∧ Qrm4 Z a1 p2 w3 h0 n0 v U.heap L ∧ FrameEnd s o U L ({ frames := 0, cells := 0, slots := 0, locals := 0 } : Room).cells ({ frames := 0, cells := 0, slots := 0, locals := 0 } : Room).slots) → P U o) → own_Go p.tables e below P (s₁.setTop (mkF m 0 #[.val (.ref a1), .val (.int p2)] [])) from own_go (fun _ k => castTop (ef_rm4 m a1 p2) k) (own_H _ (fun U o h1 h2 h3 => ⟨h1, h2, h3⟩))
  intro P hP
  have lt_a1 : @LT.lt Nat _ a1 h0.size := pr1.lt
  refine own_go (st' := s₁.setTop (mkF m 1 #[.val (.ref a1), .val (.int p2)] [(.ref a1)])) (fun _ k => XS.aloadN X0.here hx rfl (hb hby d4_0) rfl rfl k) ?_
  obtain ⟨T1, X1, e1, st1⟩ := getF X0 hx hZ hown (host := "") (Or.inl (hw _ (List.mem_of_getElem? (i := 34) rfl))) Via.refl e0 pr1 (g := (mkF m 1 #[.val (.ref a1), .val (.int p2)] [(.ref a1)])) rfl rfl (hb hby d4_1)
  refine own_go (st' := T1.setTop (mkF m 4 #[.val (.ref a1), .val (.int p2)] [(.int w3)])) (st1) ?_
  refine own_go (st' := T1.setTop (mkF m 5 #[.val (.ref a1), .val (.int p2)] [(.int p2), (.int w3)])) (fun _ k => XS.iloadN X1.here hx rfl (hb hby d4_4) rfl k) ?_
  by_cases hc2 : w3 = p2
  · --
    refine own_go (st' := T1.setTop (mkF m 8 #[.val (.ref a1), .val (.int p2)] [])) (fun _ k => XS.icmpNo X1.here hx rfl (hb hby d4_5) rfl (teq hc2).2 k) ?_
    refine own_go (st' := T1.setTop (mkF m 9 #[.val (.ref a1), .val (.int p2)] [(.int (1 : Int32))])) (fun _ k => XS.iconst X1.here hx rfl (hb hby d4_8) k) ?_
    refine own_go (st' := T1.setTop (mkF m 13 #[.val (.ref a1), .val (.int p2)] [(.int (1 : Int32))])) (fun _ k => XS.goto X1.here hx rfl (pc0 := 9) (pc' := 13) rfl (hb hby d4_9) (by decide) (by decide) k) ?_
    obtain ⟨fs, hr, hrun, hended, hW, hsame⟩ := X1.leave (v := some (.int (1 : Int32))) (fun h => by rw [Bd.returns] at h; cases h)
    refine ⟨_, _, ?_, hP _ _ hrun hended ⟨_, _, rfl, ?_, ⟨_, rfl⟩, hW, hsame.mono (by decide) (by decide)⟩⟩
    · exact retN X1 hx (t := .boolean) Bd.returns (by simp) (hb hby d4_13) hr
    · show Qrm4 Z a1 p2 w3 h0 n0 _ T1.heap _
      rw [e1]
      exact ⟨(by unfold own_on; rw [if_pos hc2]), N0, rfl⟩
  · --
    refine own_go (st' := T1.setTop (mkF m 12 #[.val (.ref a1), .val (.int p2)] [])) (fun _ k => XS.icmpYes X1.here hx rfl (pc0 := 5) (pc' := 12) rfl (hb hby d4_5) rfl (feq hc2).2 (by decide) (by decide) k) ?_
    refine own_go (st' := T1.setTop (mkF m 13 #[.val (.ref a1), .val (.int p2)] [(.int (0 : Int32))])) (fun _ k => XS.iconst X1.here hx rfl (hb hby d4_12) k) ?_
    obtain ⟨fs, hr, hrun, hended, hW, hsame⟩ := X1.leave (v := some (.int (0 : Int32))) (fun h => by rw [Bd.returns] at h; cases h)
    refine ⟨_, _, ?_, hP _ _ hrun hended ⟨_, _, rfl, ?_, ⟨_, rfl⟩, hW, hsame.mono (by decide) (by decide)⟩⟩
    · exact retN X1 hx (t := .boolean) Bd.returns (by simp) (hb hby d4_13) hr
    · show Qrm4 Z a1 p2 w3 h0 n0 _ T1.heap _
      rw [e1]
      exact ⟨(by unfold own_on; rw [if_neg hc2]), N0, rfl⟩
theorem d5_0 : decode prog_17_method_11_code 0 = .ok (.aload_n 0, 1) := by decide +kernel
theorem d5_1 : decode prog_17_method_11_code 1 = .ok (.iload_n 1, 1) := by decide +kernel
theorem d5_2 : decode prog_17_method_11_code 2 = .ok (.putfield 19, 3) := by decide +kernel
theorem d5_5 : decode prog_17_method_11_code 5 = .ok (.return_, 1) := by decide +kernel
theorem pn_5 : plainName "com/example/glimmerboard/glimmerboard/forager/Family" = true := by first | (simp [plainName, overriddenIn]; done) | decide +kernel
theorem ef_rm5 (m : MethodId) (x0 : Addr) (x1 : Int32) : entryFrame m #[(.ref x0), (.int x1)] 2 = mkF m 0 #[.val (.ref x0), .val (.int x1)] [] := by first | (simp [entryFrame, mkF, argsToLocals, Value.category]; done) | rfl
def Qrm5 (Z : State) (a1 : Addr) (p2 : Int32) (w3 : Int32) (h0 : Heap) (n0 : Nat) (v : Option Value) (h : Heap) (L : List Loc) : Prop := (v = none) ∧ (Fr n0 L) ∧ (Keep h0 h [a1]) ∧ (Exa Z h a1 "com/example/glimmerboard/glimmerboard/forager/Family") ∧ (Fld Z h a1 "com/example/glimmerboard/glimmerboard/forager/Family" "den" "I" (.int p2))
set_option maxRecDepth 65536 in
set_option maxHeartbeats 40000000 in
theorem rm5 (l : Launch) (Z : State) (a0 : Array Value) (hw : ∀ d ∈ tables_1, d.before a0 Z = true) (ws : List Jvm.Cond) (a1 : Addr) (p2 : Int32) (w3 : Int32) (h0 : Heap) (n0 : Nat) (Z0 : n0 ≤ h0.size) (pr1 : Exa Z h0 a1 "com/example/glimmerboard/glimmerboard/forager/Family") (pr2 : Fld Z h0 a1 "com/example/glimmerboard/glimmerboard/forager/Family" "den" "I" (.int w3)) (pr3 : n0 ≤ a1) :
    MetFree l (⟨"com/example/glimmerboard/glimmerboard/forager/Family", "makeDen", "(I)V"⟩ : MethodName) (head1 (Jvm.Cond.code (⟨"com/example/glimmerboard/glimmerboard/forager/Family", "makeDen", "(I)V"⟩ : MethodName) prog_17_method_11_code 2 none :: ws) ({ frames := 0, cells := 0, slots := 0, locals := 0 } : Room)) (fun a U => a = #[(.ref a1), (.int p2)] ∧ Z.Warmed39 U.vm ∧ U.heap = h0) (fun _ _ _ _ _ => True) (fun _ U o U' => ∃ v L, o = .returned v ∧ Qrm5 Z a1 p2 w3 h0 n0 v U'.heap L ∧ FrameEnd U o U' L ({ frames := 0, cells := 0, slots := 0, locals := 0 } : Room).cells ({ frames := 0, cells := 0, slots := 0, locals := 0 } : Room).slots) := by
  refine MetFree.of_bodySF (plainFor_of_name pn_5) hisR ?_
  intro p e s m args below meth c s₁ Bd hml0 hP0 hK
  obtain ⟨rfl, hZ, hh⟩ := hP0
  have hx := Bd.exec
  have hby := Bd.bytes
  have hml : c.maxLocals = 2 := hml0
  have hown : s.vm.findClass "com/example/glimmerboard/glimmerboard/forager/Family" = some m.cls := findClass_of_methodNamed Bd.named
  have hnm := (name_of_methodNamed Bd.named Bd.method).1
  have X0 : Stand p l e ({ frames := 0, cells := 0, slots := 0, locals := 0 } : Room) s m #[(.ref a1), (.int p2)] below meth c s₁ [] 0 0 := Stand.of_body Bd
  have e0 : s₁.heap = h0 := by rw [← hh, Bd.state]; rfl
  have N0 := Fr.nil n0
  suffices own_H : ∀ (P : State → Outcome → Prop), (∀ U o, U.status = .running → Ended U below o → (∃ v L, o = .returned v ∧ Qrm5 Z a1 p2 w3 h0 n0 v U.heap L ∧ FrameEnd s o U L ({ frames := 0, cells := 0, slots := 0, locals := 0 } : Room).cells ({ frames := 0, cells := 0, slots := 0, locals := 0 } : Room).slots) → P U o) → own_Go p.tables e below P (s₁.setTop (mkF m 0 #[.val (.ref a1), .val (.int p2)] [])) from own_go (fun _ k => castTop (ef_rm5 m a1 p2) k) (own_H _ (fun U o h1 h2 h3 => ⟨h1, h2, h3⟩))
  intro P hP
  have lt_a1 : @LT.lt Nat _ a1 h0.size := pr1.lt
  refine own_go (st' := s₁.setTop (mkF m 1 #[.val (.ref a1), .val (.int p2)] [(.ref a1)])) (fun _ k => XS.aloadN X0.here hx rfl (hb hby d5_0) rfl rfl k) ?_
  refine own_go (st' := s₁.setTop (mkF m 2 #[.val (.ref a1), .val (.int p2)] [(.int p2), (.ref a1)])) (fun _ k => XS.iloadN X0.here hx rfl (hb hby d5_1) rfl k) ?_
  obtain ⟨T1, h1, X1, e1, W1, st1⟩ := putF X0 hx hZ hown (host := "") (Or.inl (hw _ (List.mem_of_getElem? (i := 34) rfl))) Via.refl e0 pr2 pr1 (Or.inl (hw _ (List.mem_of_getElem? (i := 35) rfl))) (hw _ (List.mem_of_getElem? (i := 1) rfl)) (ty := .int) (by decide) rfl rfl (g := (mkF m 2 #[.val (.ref a1), .val (.int p2)] [(.int p2), (.ref a1)])) rfl rfl (hb hby d5_2)
  have sz1 : h1.size = h0.size := W1.size
  have N1 := Fr.snoc X1 N0 (by omega)
  have f1 : Fld Z h1 a1 "com/example/glimmerboard/glimmerboard/forager/Family" "den" "I" (.int p2) := pr2.same W1
  refine own_go (st' := T1.setTop (mkF m 5 #[.val (.ref a1), .val (.int p2)] [])) (st1) ?_
  obtain ⟨fs, hr, hrun, hended, hW, hsame⟩ := X1.leave (v := none) (fun _ => rfl)
  refine ⟨_, _, ?_, hP _ _ hrun hended ⟨_, _, rfl, ?_, ⟨_, rfl⟩, hW, hsame.mono (by decide) (by decide)⟩⟩
  · exact X1.returnOut hx Bd.returns (hb hby d5_5) hr
  · show Qrm5 Z a1 p2 w3 h0 n0 _ T1.heap _
    have c3 : Exa Z h1 a1 "com/example/glimmerboard/glimmerboard/forager/Family" := (pr1.wr W1)
    rw [e1]
    exact ⟨rfl, N1, ((Keep.refl h0 [a1]).wr W1 (Or.inl (List.mem_of_getElem? (i := 0) rfl))), c3, f1⟩
theorem pd_1 : parseMethodDescriptor "(Lcom/example/glimmerboard/glimmerboard/forager/Colour;[I)V" = some ⟨[(.object "com/example/glimmerboard/glimmerboard/forager/Colour"), (.array .int)], none⟩ := by decide +kernel
theorem pd_2 : parseMethodDescriptor "(I)Z" = some ⟨[.int], some .boolean⟩ := by decide +kernel
theorem pd_3 : parseMethodDescriptor "(I)V" = some ⟨[.int], none⟩ := by decide +kernel
theorem pn_0 : plainName "com/example/glimmerboard/glimmerboard/forager/FamilyDenOnPinLaw" = true := by first | (simp [plainName, overriddenIn]; done) | decide +kernel
theorem ef_rm0 (m : MethodId) (x0 : Int32) (x1 : Int32) (x2 : Int32) (x3 : Int32) (x4 : Int32) : entryFrame m #[(.int x0), (.int x1), (.int x2), (.int x3), (.int x4)] maxLocals = mkF m 0 #[.val (.int x0), .val (.int x1), .val (.int x2), .val (.int x3), .val (.int x4), .unset, .unset, .unset, .unset, .unset, .unset] [] := by first | (simp [entryFrame, mkF, argsToLocals, Value.category, maxLocals]; done) | rfl
def Qrm0 (Z : State) (c0 : Int32) (dd : Int32) (d2 : Int32) (qq : Int32) (fl : Int32) (a__VALUES : Addr) (a_RED : Addr) (a_LARGE : Addr) (a_MEDIUM : Addr) (a_SMALL : Addr) (k_a__VALUES : ClassId) (h0 : Heap) (n0 : Nat) (v : Option Value) (h : Heap) (L : List Loc) : Prop := v = some (.int 1) ∧ Fr n0 L ∧ True
set_option maxRecDepth 65536 in
set_option maxHeartbeats 40000000 in
theorem rm0 (l : Launch) (Z : State) (a0 : Array Value) (hw : ∀ d ∈ tables_1, d.before a0 Z = true) (ws : List Jvm.Cond) (c0 : Int32) (dd : Int32) (d2 : Int32) (qq : Int32) (fl : Int32) (a__VALUES : Addr) (a_RED : Addr) (a_LARGE : Addr) (a_MEDIUM : Addr) (a_SMALL : Addr) (k_a__VALUES : ClassId) (h0 : Heap) (n0 : Nat) (Z0 : n0 ≤ h0.size) (pr1 : Sta Z h0 "com/example/glimmerboard/glimmerboard/forager/Size" "$VALUES" "[Lcom/example/glimmerboard/glimmerboard/forager/Size;" (.ref a__VALUES)) (pr2 : Sta Z h0 "com/example/glimmerboard/glimmerboard/forager/Colour" "RED" "Lcom/example/glimmerboard/glimmerboard/forager/Colour;" (.ref a_RED)) (pr3 : Exa Z h0 a_RED "com/example/glimmerboard/glimmerboard/forager/Colour") (pr4 : Exa Z h0 a__VALUES "[Lcom/example/glimmerboard/glimmerboard/forager/Size;") (pr5 : Sta Z h0 "com/example/glimmerboard/glimmerboard/forager/Size" "LARGE" "Lcom/example/glimmerboard/glimmerboard/forager/Size;" (.ref a_LARGE)) (pr6 : Exa Z h0 a_LARGE "com/example/glimmerboard/glimmerboard/forager/Size") (pr7 : Sta Z h0 "com/example/glimmerboard/glimmerboard/forager/Size" "MEDIUM" "Lcom/example/glimmerboard/glimmerboard/forager/Size;" (.ref a_MEDIUM)) (pr8 : Exa Z h0 a_MEDIUM "com/example/glimmerboard/glimmerboard/forager/Size") (pr9 : Sta Z h0 "com/example/glimmerboard/glimmerboard/forager/Size" "SMALL" "Lcom/example/glimmerboard/glimmerboard/forager/Size;" (.ref a_SMALL)) (pr10 : Exa Z h0 a_SMALL "com/example/glimmerboard/glimmerboard/forager/Size") (pr11 : Arv Z h0 a__VALUES k_a__VALUES (.object "com/example/glimmerboard/glimmerboard/forager/Size") (3 : Int32) [(.ref a_LARGE), (.ref a_MEDIUM), (.ref a_SMALL)] .null) :
    MetFree l x (head1 (Jvm.Cond.code x code maxLocals ret :: ws) room_1) (fun a U => a = #[(.int c0), (.int dd), (.int d2), (.int qq), (.int fl)] ∧ Z.Warmed39 U.vm ∧ U.heap = h0) (fun _ _ _ _ _ => True) (fun _ U o U' => ∃ v L, o = .returned v ∧ Qrm0 Z c0 dd d2 qq fl a__VALUES a_RED a_LARGE a_MEDIUM a_SMALL k_a__VALUES h0 n0 v U'.heap L ∧ FrameEnd U o U' L 16 128) := by
  refine MetFree.of_bodySF (plainFor_of_name pn_0) hisR ?_
  intro p e s m args below meth c s₁ Bd hml0 hP0 hK
  obtain ⟨rfl, hZ, hh⟩ := hP0
  have hx := Bd.exec
  have hby := Bd.bytes
  have hml : c.maxLocals = 11 := hml0
  have hown : s.vm.findClass "com/example/glimmerboard/glimmerboard/forager/FamilyDenOnPinLaw" = some m.cls := findClass_of_methodNamed Bd.named
  have hnm := (name_of_methodNamed Bd.named Bd.method).1
  have X0 : Stand p l e room_1 s m #[(.int c0), (.int dd), (.int d2), (.int qq), (.int fl)] below meth c s₁ [] 0 0 := Stand.of_body Bd
  have e0 : s₁.heap = h0 := by rw [← hh, Bd.state]; rfl
  have N0 := Fr.nil n0
  suffices own_H : ∀ (P : State → Outcome → Prop), (∀ U o, U.status = .running → Ended U below o → (∃ v L, o = .returned v ∧ Qrm0 Z c0 dd d2 qq fl a__VALUES a_RED a_LARGE a_MEDIUM a_SMALL k_a__VALUES h0 n0 v U.heap L ∧ FrameEnd s o U L 16 128) → P U o) → own_Go p.tables e below P (s₁.setTop (mkF m 0 #[.val (.int c0), .val (.int dd), .val (.int d2), .val (.int qq), .val (.int fl), .unset, .unset, .unset, .unset, .unset, .unset] [])) from own_go (fun _ k => castTop (ef_rm0 m c0 dd d2 qq fl) k) (own_H _ (fun U o h1 h2 h3 => ⟨h1, h2, h3⟩))
  intro P hP
  have lt_a_RED : @LT.lt Nat _ a_RED h0.size := pr3.lt
  have lt_a__VALUES : @LT.lt Nat _ a__VALUES h0.size := pr4.lt
  have lt_a_LARGE : @LT.lt Nat _ a_LARGE h0.size := pr6.lt
  have lt_a_MEDIUM : @LT.lt Nat _ a_MEDIUM h0.size := pr8.lt
  have lt_a_SMALL : @LT.lt Nat _ a_SMALL h0.size := pr10.lt
  have J13_1 : ∀ (Tj1 : State) (lj1 : List Loc) (qa : Int32) (Xj1 : Stand p l e room_1 s m #[(.int c0), (.int dd), (.int d2), (.int qq), (.int fl)] below meth c Tj1 lj1 0 0) (ej1 : Tj1.heap = h0) (Nj1 : Fr n0 lj1) (hqa : ¬ (-2 : Int32) = qa), own_Go p.tables e below P (Tj1.setTop (mkF m 13 #[.val (.int c0), .val (.int dd), .val (.int d2), .val (.int qq), .val (.int fl), .unset, .unset, .unset, .unset, .unset, .unset] [(.int qa)])) := by
    intro Tj1 lj1 qa Xj1 ej1 Nj1 hqa
    refine own_go (st' := Tj1.setTop (mkF m 15 #[.val (.int c0), .val (.int dd), .val (.int d2), .val (.int qq), .val (.int fl), .val (.int qa), .unset, .unset, .unset, .unset, .unset] [])) (fun _ k => XS.istore Xj1.here hx rfl (hb hby at_13) rfl (l' := #[.val (.int c0), .val (.int dd), .val (.int d2), .val (.int qq), .val (.int fl), .val (.int qa), .unset, .unset, .unset, .unset, .unset]) rfl k) ?_
    obtain ⟨T2, h2, X2, e2, E2, A2, D2, -, st2⟩ := newO Xj1 hx hZ hown (hw _ (List.mem_of_getElem? (i := 0) rfl)) (hw _ (List.mem_of_getElem? (i := 1) rfl)) (hw _ (List.mem_of_getElem? (i := 2) rfl)) ej1 (g := (mkF m 15 #[.val (.int c0), .val (.int dd), .val (.int d2), .val (.int qq), .val (.int fl), .val (.int qa), .unset, .unset, .unset, .unset, .unset] [])) rfl (hb hby at_15) (by decide) (by decide)
    obtain ⟨b2, g2⟩ : ∃ z, z = h0.size := ⟨_, rfl⟩
    rw [← g2] at A2 D2 st2
    have sz2 : h0.size ≤ h2.size := E2.1
    have lt2 : @LT.lt Nat _ b2 h2.size := A2.lt
    have f3 : Fld Z h2 b2 "com/example/glimmerboard/glimmerboard/forager/Family" "cells" "[I" .null := D2 (Or.inr (hw _ (List.mem_of_getElem? (i := 33) rfl))) (ty := (.array .int)) (by decide)
    have f4 : Fld Z h2 b2 "com/example/glimmerboard/glimmerboard/forager/Family" "den" "I" (.int (0 : Int32)) := D2 (Or.inl (hw _ (List.mem_of_getElem? (i := 35) rfl))) (ty := .int) (by decide)
    have f5 : Fld Z h2 b2 "com/example/glimmerboard/glimmerboard/forager/Family" "colour" "Lcom/example/glimmerboard/glimmerboard/forager/Colour;" .null := D2 (Or.inr (hw _ (List.mem_of_getElem? (i := 37) rfl))) (ty := (.object "com/example/glimmerboard/glimmerboard/forager/Colour")) (by decide)
    refine own_go (st' := T2.setTop (mkF m 18 #[.val (.int c0), .val (.int dd), .val (.int d2), .val (.int qq), .val (.int fl), .val (.int qa), .unset, .unset, .unset, .unset, .unset] [(.ref b2)])) (st2) ?_
    refine own_go (st' := T2.setTop (mkF m 19 #[.val (.int c0), .val (.int dd), .val (.int d2), .val (.int qq), .val (.int fl), .val (.int qa), .unset, .unset, .unset, .unset, .unset] [(.ref b2), (.ref b2)])) (fun _ k => XS.dup X2.here hx rfl (hb hby at_18) rfl rfl k) ?_
    have c6 : Sta Z h2 "com/example/glimmerboard/glimmerboard/forager/Colour" "RED" "Lcom/example/glimmerboard/glimmerboard/forager/Colour;" (.ref a_RED) := (pr2.ext E2)
    obtain ⟨T7, X7, e7, st7⟩ := getS2 X2 hx hZ hown (host := "") (Or.inl (hw _ (List.mem_of_getElem? (i := 3) rfl))) Via.refl e2 c6 (g := (mkF m 19 #[.val (.int c0), .val (.int dd), .val (.int d2), .val (.int qq), .val (.int fl), .val (.int qa), .unset, .unset, .unset, .unset, .unset] [(.ref b2), (.ref b2)])) rfl (hb hby at_19)
    refine own_go (st' := T7.setTop (mkF m 22 #[.val (.int c0), .val (.int dd), .val (.int d2), .val (.int qq), .val (.int fl), .val (.int qa), .unset, .unset, .unset, .unset, .unset] [(.ref a_RED), (.ref b2), (.ref b2)])) (st7) ?_
    refine own_go (st' := T7.setTop (mkF m 23 #[.val (.int c0), .val (.int dd), .val (.int d2), .val (.int qq), .val (.int fl), .val (.int qa), .unset, .unset, .unset, .unset, .unset] [(.int (3 : Int32)), (.ref a_RED), (.ref b2), (.ref b2)])) (fun _ k => XS.iconst X7.here hx rfl (hb hby at_22) k) ?_
    obtain ⟨T8, h8, k8, X8, e8, E8, A8, st8⟩ := newP X7 hx hZ (hw _ (List.mem_of_getElem? (i := 6) rfl)) e7 (g := (mkF m 23 #[.val (.int c0), .val (.int dd), .val (.int d2), .val (.int qq), .val (.int fl), .val (.int qa), .unset, .unset, .unset, .unset, .unset] [(.int (3 : Int32)), (.ref a_RED), (.ref b2), (.ref b2)])) rfl (hb hby at_23) rfl (by decide) (cap := 3) (by decide) (by decide) (by decide) (by decide)
    obtain ⟨b8, g8⟩ : ∃ z, z = h2.size := ⟨_, rfl⟩
    rw [← g8] at A8 st8
    have sz8 : h2.size ≤ h8.size := E8.1
    have lt8 : @LT.lt Nat _ b8 h8.size := A8.lt
    have v8 : Arv Z h8 b8 k8 .int (3 : Int32) [(.int (0 : Int32)), (.int (0 : Int32)), (.int (0 : Int32))] (.int (0 : Int32)) := (Arv.new A8 (by decide)).pad (pad_rep [] (.int (0 : Int32)) 3)
    refine own_go (st' := T8.setTop (mkF m 25 #[.val (.int c0), .val (.int dd), .val (.int d2), .val (.int qq), .val (.int fl), .val (.int qa), .unset, .unset, .unset, .unset, .unset] [(.ref b8), (.ref a_RED), (.ref b2), (.ref b2)])) (st8) ?_
    refine own_go (st' := T8.setTop (mkF m 26 #[.val (.int c0), .val (.int dd), .val (.int d2), .val (.int qq), .val (.int fl), .val (.int qa), .unset, .unset, .unset, .unset, .unset] [(.ref b8), (.ref b8), (.ref a_RED), (.ref b2), (.ref b2)])) (fun _ k => XS.dup X8.here hx rfl (hb hby at_25) rfl rfl k) ?_
    refine own_go (st' := T8.setTop (mkF m 27 #[.val (.int c0), .val (.int dd), .val (.int d2), .val (.int qq), .val (.int fl), .val (.int qa), .unset, .unset, .unset, .unset, .unset] [(.int (0 : Int32)), (.ref b8), (.ref b8), (.ref a_RED), (.ref b2), (.ref b2)])) (fun _ k => XS.iconst X8.here hx rfl (hb hby at_26) k) ?_
    refine own_go (st' := T8.setTop (mkF m 29 #[.val (.int c0), .val (.int dd), .val (.int d2), .val (.int qq), .val (.int fl), .val (.int qa), .unset, .unset, .unset, .unset, .unset] [(.int qa), (.int (0 : Int32)), (.ref b8), (.ref b8), (.ref a_RED), (.ref b2), (.ref b2)])) (fun _ k => XS.iload X8.here hx rfl (hb hby at_27) rfl k) ?_
    obtain ⟨cl9, Ar9, qc9, S9, M9, H9, G9⟩ := id v8
    have hin9 : ¬ ((0 : Int32) < 0 ∨ cl9.slots.size ≤ ((0 : Int32)).toNatClampNeg) := (inb_of S9 ⟨by decide, by decide⟩)
    obtain ⟨T9, h9, X9, e9, W9, st9⟩ := stI X8 hx hZ e8 Ar9 (j := (0 : Int32)) hin9 (g := (mkF m 29 #[.val (.int c0), .val (.int dd), .val (.int d2), .val (.int qq), .val (.int fl), .val (.int qa), .unset, .unset, .unset, .unset, .unset] [(.int qa), (.int (0 : Int32)), (.ref b8), (.ref b8), (.ref a_RED), (.ref b2), (.ref b2)])) rfl rfl (hb hby at_29)
    have sz9 : h9.size = h8.size := W9.size
    have N9 := Fr.snoc X9 Nj1 (by omega)
    have v9 : Arv Z h9 b8 k8 .int (3 : Int32) [(.int qa), (.int (0 : Int32)), (.int (0 : Int32))] (.int (0 : Int32)) := Arv.set Ar9 qc9 S9 M9 H9 G9 rfl W9 0 rfl (Nat.le_of_ble_eq_true rfl)
    refine own_go (st' := T9.setTop (mkF m 30 #[.val (.int c0), .val (.int dd), .val (.int d2), .val (.int qq), .val (.int fl), .val (.int qa), .unset, .unset, .unset, .unset, .unset] [(.ref b8), (.ref a_RED), (.ref b2), (.ref b2)])) (st9) ?_
    refine own_go (st' := T9.setTop (mkF m 31 #[.val (.int c0), .val (.int dd), .val (.int d2), .val (.int qq), .val (.int fl), .val (.int qa), .unset, .unset, .unset, .unset, .unset] [(.ref b8), (.ref b8), (.ref a_RED), (.ref b2), (.ref b2)])) (fun _ k => XS.dup X9.here hx rfl (hb hby at_30) rfl rfl k) ?_
    refine own_go (st' := T9.setTop (mkF m 32 #[.val (.int c0), .val (.int dd), .val (.int d2), .val (.int qq), .val (.int fl), .val (.int qa), .unset, .unset, .unset, .unset, .unset] [(.int (1 : Int32)), (.ref b8), (.ref b8), (.ref a_RED), (.ref b2), (.ref b2)])) (fun _ k => XS.iconst X9.here hx rfl (hb hby at_31) k) ?_
    refine own_go (st' := T9.setTop (mkF m 33 #[.val (.int c0), .val (.int dd), .val (.int d2), .val (.int qq), .val (.int fl), .val (.int qa), .unset, .unset, .unset, .unset, .unset] [(.int (-1 : Int32)), (.int (1 : Int32)), (.ref b8), (.ref b8), (.ref a_RED), (.ref b2), (.ref b2)])) (fun _ k => XS.iconst X9.here hx rfl (hb hby at_32) k) ?_
    obtain ⟨cl10, Ar10, qc10, S10, M10, H10, G10⟩ := id v9
    have hin10 : ¬ ((1 : Int32) < 0 ∨ cl10.slots.size ≤ ((1 : Int32)).toNatClampNeg) := (inb_of S10 ⟨by decide, by decide⟩)
    obtain ⟨T10, h10, X10, e10, W10, st10⟩ := stI X9 hx hZ e9 Ar10 (j := (1 : Int32)) hin10 (g := (mkF m 33 #[.val (.int c0), .val (.int dd), .val (.int d2), .val (.int qq), .val (.int fl), .val (.int qa), .unset, .unset, .unset, .unset, .unset] [(.int (-1 : Int32)), (.int (1 : Int32)), (.ref b8), (.ref b8), (.ref a_RED), (.ref b2), (.ref b2)])) rfl rfl (hb hby at_33)
    have sz10 : h10.size = h9.size := W10.size
    have N10 := Fr.snoc X10 N9 (by omega)
    have v10 : Arv Z h10 b8 k8 .int (3 : Int32) [(.int qa), (.int (-1 : Int32)), (.int (0 : Int32))] (.int (0 : Int32)) := Arv.set Ar10 qc10 S10 M10 H10 G10 rfl W10 1 rfl (Nat.le_of_ble_eq_true rfl)
    refine own_go (st' := T10.setTop (mkF m 34 #[.val (.int c0), .val (.int dd), .val (.int d2), .val (.int qq), .val (.int fl), .val (.int qa), .unset, .unset, .unset, .unset, .unset] [(.ref b8), (.ref a_RED), (.ref b2), (.ref b2)])) (st10) ?_
    refine own_go (st' := T10.setTop (mkF m 35 #[.val (.int c0), .val (.int dd), .val (.int d2), .val (.int qq), .val (.int fl), .val (.int qa), .unset, .unset, .unset, .unset, .unset] [(.ref b8), (.ref b8), (.ref a_RED), (.ref b2), (.ref b2)])) (fun _ k => XS.dup X10.here hx rfl (hb hby at_34) rfl rfl k) ?_
    refine own_go (st' := T10.setTop (mkF m 36 #[.val (.int c0), .val (.int dd), .val (.int d2), .val (.int qq), .val (.int fl), .val (.int qa), .unset, .unset, .unset, .unset, .unset] [(.int (2 : Int32)), (.ref b8), (.ref b8), (.ref a_RED), (.ref b2), (.ref b2)])) (fun _ k => XS.iconst X10.here hx rfl (hb hby at_35) k) ?_
    refine own_go (st' := T10.setTop (mkF m 37 #[.val (.int c0), .val (.int dd), .val (.int d2), .val (.int qq), .val (.int fl), .val (.int qa), .unset, .unset, .unset, .unset, .unset] [(.int c0), (.int (2 : Int32)), (.ref b8), (.ref b8), (.ref a_RED), (.ref b2), (.ref b2)])) (fun _ k => XS.iloadN X10.here hx rfl (hb hby at_36) rfl k) ?_
    obtain ⟨cl11, Ar11, qc11, S11, M11, H11, G11⟩ := id v10
    have hin11 : ¬ ((2 : Int32) < 0 ∨ cl11.slots.size ≤ ((2 : Int32)).toNatClampNeg) := (inb_of S11 ⟨by decide, by decide⟩)
    obtain ⟨T11, h11, X11, e11, W11, st11⟩ := stI X10 hx hZ e10 Ar11 (j := (2 : Int32)) hin11 (g := (mkF m 37 #[.val (.int c0), .val (.int dd), .val (.int d2), .val (.int qq), .val (.int fl), .val (.int qa), .unset, .unset, .unset, .unset, .unset] [(.int c0), (.int (2 : Int32)), (.ref b8), (.ref b8), (.ref a_RED), (.ref b2), (.ref b2)])) rfl rfl (hb hby at_37)
    have sz11 : h11.size = h10.size := W11.size
    have N11 := Fr.snoc X11 N10 (by omega)
    have v11 : Arv Z h11 b8 k8 .int (3 : Int32) [(.int qa), (.int (-1 : Int32)), (.int c0)] (.int (0 : Int32)) := Arv.set Ar11 qc11 S11 M11 H11 G11 rfl W11 2 rfl (Nat.le_of_ble_eq_true rfl)
    refine own_go (st' := T11.setTop (mkF m 38 #[.val (.int c0), .val (.int dd), .val (.int d2), .val (.int qq), .val (.int fl), .val (.int qa), .unset, .unset, .unset, .unset, .unset] [(.ref b8), (.ref a_RED), (.ref b2), (.ref b2)])) (st11) ?_
    have c13 : Exa Z h11 b2 "com/example/glimmerboard/glimmerboard/forager/Family" := ((((A2.ext E8).wr W9).wr W10).wr W11)
    have c14 : Fld Z h11 b2 "com/example/glimmerboard/glimmerboard/forager/Family" "cells" "[I" .null := ((((f3.ext E8).other W9 (Or.inl (by first | assumption | exact Ne.symm (by assumption) | (apply Nat.ne_of_lt; omega) | (apply Nat.ne_of_gt; omega)))).other W10 (Or.inl (by first | assumption | exact Ne.symm (by assumption) | (apply Nat.ne_of_lt; omega) | (apply Nat.ne_of_gt; omega)))).other W11 (Or.inl (by first | assumption | exact Ne.symm (by assumption) | (apply Nat.ne_of_lt; omega) | (apply Nat.ne_of_gt; omega))))
    have c15 : Fld Z h11 b2 "com/example/glimmerboard/glimmerboard/forager/Family" "den" "I" (.int (0 : Int32)) := ((((f4.ext E8).other W9 (Or.inl (by first | assumption | exact Ne.symm (by assumption) | (apply Nat.ne_of_lt; omega) | (apply Nat.ne_of_gt; omega)))).other W10 (Or.inl (by first | assumption | exact Ne.symm (by assumption) | (apply Nat.ne_of_lt; omega) | (apply Nat.ne_of_gt; omega)))).other W11 (Or.inl (by first | assumption | exact Ne.symm (by assumption) | (apply Nat.ne_of_lt; omega) | (apply Nat.ne_of_gt; omega))))
    have c16 : Fld Z h11 b2 "com/example/glimmerboard/glimmerboard/forager/Family" "colour" "Lcom/example/glimmerboard/glimmerboard/forager/Colour;" .null := ((((f5.ext E8).other W9 (Or.inl (by first | assumption | exact Ne.symm (by assumption) | (apply Nat.ne_of_lt; omega) | (apply Nat.ne_of_gt; omega)))).other W10 (Or.inl (by first | assumption | exact Ne.symm (by assumption) | (apply Nat.ne_of_lt; omega) | (apply Nat.ne_of_gt; omega)))).other W11 (Or.inl (by first | assumption | exact Ne.symm (by assumption) | (apply Nat.ne_of_lt; omega) | (apply Nat.ne_of_gt; omega))))
    have c17 : Sta Z h11 "com/example/glimmerboard/glimmerboard/forager/Size" "$VALUES" "[Lcom/example/glimmerboard/glimmerboard/forager/Size;" (.ref a__VALUES) := (((((pr1.ext E2).ext E8).wr W9).wr W10).wr W11)
    have c18 : Arv Z h11 a__VALUES k_a__VALUES (.object "com/example/glimmerboard/glimmerboard/forager/Size") (3 : Int32) [(.ref a_LARGE), (.ref a_MEDIUM), (.ref a_SMALL)] .null := (((((pr11.ext E2).ext E8).other W9 (by first | assumption | exact Ne.symm (by assumption) | (apply Nat.ne_of_lt; omega) | (apply Nat.ne_of_gt; omega))).other W10 (by first | assumption | exact Ne.symm (by assumption) | (apply Nat.ne_of_lt; omega) | (apply Nat.ne_of_gt; omega))).other W11 (by first | assumption | exact Ne.symm (by assumption) | (apply Nat.ne_of_lt; omega) | (apply Nat.ne_of_gt; omega)))
    have c19 : Exa Z h11 a__VALUES "[Lcom/example/glimmerboard/glimmerboard/forager/Size;" := (((((pr4.ext E2).ext E8).wr W9).wr W10).wr W11)
    obtain ⟨_, _, ⟨T12, LC12, kC12, nC12⟩, -, X12, ⟨Lc12, hQ12, lq12, yq12, zq12⟩, st12⟩ := X11.specialBack hx (y := (⟨"com/example/glimmerboard/glimmerboard/forager/Family", "<init>", "(Lcom/example/glimmerboard/glimmerboard/forager/Colour;[I)V"⟩ : MethodName)) rfl hown (mvT hZ (hw _ (List.mem_of_getElem? (i := 7) rfl))) (mvT hZ (hw _ (List.mem_of_getElem? (i := 8) rfl))) (mvT hZ (hw _ (List.mem_of_getElem? (i := 9) rfl))) (by decide) (backOf (W := 1) (rm1 l Z a0 hw [] b2 a_RED b8 k8 qa (-1 : Int32) c0 (0 : Int32) a__VALUES k_a__VALUES a_LARGE a_MEDIUM a_SMALL h11 n0 (by omega) c13 c14 c15 c16 v11 c17 c18 c19 (by omega) (by first | assumption | exact Ne.symm (by assumption) | (apply Nat.ne_of_lt; omega) | (apply Nat.ne_of_gt; omega))) hZ (hw _ (List.mem_of_getElem? (i := 9) rfl)) (hw _ (List.mem_of_getElem? (i := 2) rfl)) (by decide) (by decide)) (g := (mkF m 38 #[.val (.int c0), .val (.int dd), .val (.int d2), .val (.int qq), .val (.int fl), .val (.int qa), .unset, .unset, .unset, .unset, .unset] [(.ref b8), (.ref a_RED), (.ref b2), (.ref b2)])) rfl (by rw [hml]; rfl) (Steps.refl _) (a := b2) (argsL := [(.ref a_RED), (.ref b8)]) (rest := [(.ref b2)]) (lenOf pd_1 rfl) rfl (by show 2 * 0 + _ ≤ _; exact Nat.le_of_eq rfl) (hb hby at_38) (fun _ _ => ⟨rfl, e11, (by decide : 2 + 2 ≤ _), (by decide : 7 + 6 ≤ _)⟩)
    dsimp only [Pt.U, Pt.locs, Pt.cells, Pt.slots] at X12 lq12 yq12 zq12 st12 hQ12
    subst lq12 yq12 zq12
    obtain ⟨h12, e12⟩ : ∃ z, T12.heap = z := ⟨_, rfl⟩
    rw [e12] at hQ12
    obtain ⟨rfl, Nq12, K12, g12_0, g12_1⟩ := hQ12
    have sz12 : h11.size ≤ h12.size := K12.1
    have N12 := Fr.app N11 Nq12
    have lt12_1 : @LT.lt Nat _ b2 h12.size := g12_0.lt
    refine own_go (st' := T12.setTop (mkF m 41 #[.val (.int c0), .val (.int dd), .val (.int d2), .val (.int qq), .val (.int fl), .val (.int qa), .unset, .unset, .unset, .unset, .unset] [(.ref b2)])) (fun _ k => st12.trans k) ?_
    refine own_go (st' := T12.setTop (mkF m 43 #[.val (.int c0), .val (.int dd), .val (.int d2), .val (.int qq), .val (.int fl), .val (.int qa), .val (.ref b2), .unset, .unset, .unset, .unset] [])) (fun _ k => XS.astore X12.here hx rfl (hb hby at_41) rfl rfl (l' := #[.val (.int c0), .val (.int dd), .val (.int d2), .val (.int qq), .val (.int fl), .val (.int qa), .val (.ref b2), .unset, .unset, .unset, .unset]) rfl k) ?_
    refine own_go (st' := T12.setTop (mkF m 45 #[.val (.int c0), .val (.int dd), .val (.int d2), .val (.int qq), .val (.int fl), .val (.int qa), .val (.ref b2), .unset, .unset, .unset, .unset] [(.ref b2)])) (fun _ k => XS.aload X12.here hx rfl (hb hby at_43) rfl rfl k) ?_
    refine own_go (st' := T12.setTop (mkF m 47 #[.val (.int c0), .val (.int dd), .val (.int d2), .val (.int qq), .val (.int fl), .val (.int qa), .val (.ref b2), .unset, .unset, .unset, .unset] [(.int qa), (.ref b2)])) (fun _ k => XS.iload X12.here hx rfl (hb hby at_45) rfl k) ?_
    obtain ⟨cq20, kq20, q20a, q20b, q20c⟩ := isOf hZ e12 g12_0
    obtain ⟨_, _, ⟨T20, LC20, kC20, nC20⟩, -, X20, ⟨Lc20, hQ20, lq20, yq20, zq20⟩, st20⟩ := X12.virtualBack hx (y := (⟨"com/example/glimmerboard/glimmerboard/forager/Family", "denOn", "(I)Z"⟩ : MethodName)) (z := (⟨"com/example/glimmerboard/glimmerboard/forager/Family", "denOn", "(I)Z"⟩ : MethodName)) hown (mvT hZ (hw _ (List.mem_of_getElem? (i := 42) rfl))) (mvT hZ (hw _ (List.mem_of_getElem? (i := 43) rfl))) (notFace_of_selects (args := #[]) (mvT hZ (hw _ (List.mem_of_getElem? (i := 45) rfl)))) (mvT hZ (hw _ (List.mem_of_getElem? (i := 45) rfl))) (mvT hZ (hw _ (List.mem_of_getElem? (i := 44) rfl))) (by decide) (backOf (W := 0) (rm4 l Z a0 hw [] b2 qa (-2 : Int32) h12 n0 (by omega) g12_1) hZ (hw _ (List.mem_of_getElem? (i := 46) rfl)) (hw _ (List.mem_of_getElem? (i := 2) rfl)) (by decide) (by decide)) q20a q20c (g := (mkF m 47 #[.val (.int c0), .val (.int dd), .val (.int d2), .val (.int qq), .val (.int fl), .val (.int qa), .val (.ref b2), .unset, .unset, .unset, .unset] [(.int qa), (.ref b2)])) rfl (by rw [hml]; rfl) (Steps.refl _) (argsL := [(.int qa)]) (rest := []) (lenOf pd_2 rfl) rfl (by show 2 * 0 + _ ≤ _; exact Nat.le_of_eq rfl) (hb hby at_47) (fun _ _ => ⟨rfl, e12, (by decide : 4 + 0 ≤ _), (by decide : 13 + 0 ≤ _)⟩)
    dsimp only [Pt.U, Pt.locs, Pt.cells, Pt.slots] at X20 lq20 yq20 zq20 st20 hQ20
    subst lq20 yq20 zq20
    obtain ⟨rfl, Nq20, eq20⟩ := hQ20
    have N20 := Fr.app N12 Nq20
    refine own_go (st' := T20.setTop (mkF m 50 #[.val (.int c0), .val (.int dd), .val (.int d2), .val (.int qq), .val (.int fl), .val (.int qa), .val (.ref b2), .unset, .unset, .unset, .unset] [(.int (own_on (-2 : Int32) qa))])) (fun _ k => st20.trans k) ?_
    have hc21 : (own_on (-2 : Int32) qa) = (0 : Int32) := own_on_ne hqa
    refine own_go (st' := T20.setTop (mkF m 53 #[.val (.int c0), .val (.int dd), .val (.int d2), .val (.int qq), .val (.int fl), .val (.int qa), .val (.ref b2), .unset, .unset, .unset, .unset] [])) (fun _ k => XS.ifNo X20.here hx rfl (hb hby at_50) rfl ((if0 _ _).trans (teq hc21).2) k) ?_
    refine own_go (st' := T20.setTop (mkF m 55 #[.val (.int c0), .val (.int dd), .val (.int d2), .val (.int qq), .val (.int fl), .val (.int qa), .val (.ref b2), .unset, .unset, .unset, .unset] [(.ref b2)])) (fun _ k => XS.aload X20.here hx rfl (hb hby at_53) rfl rfl k) ?_
    refine own_go (st' := T20.setTop (mkF m 56 #[.val (.int c0), .val (.int dd), .val (.int d2), .val (.int qq), .val (.int fl), .val (.int qa), .val (.ref b2), .unset, .unset, .unset, .unset] [(.int (-1 : Int32)), (.ref b2)])) (fun _ k => XS.iconst X20.here hx rfl (hb hby at_55) k) ?_
    obtain ⟨cq22, kq22, q22a, q22b, q22c⟩ := isOf hZ eq20 g12_0
    obtain ⟨_, _, ⟨T22, LC22, kC22, nC22⟩, -, X22, ⟨Lc22, hQ22, lq22, yq22, zq22⟩, st22⟩ := X20.virtualBack hx (y := (⟨"com/example/glimmerboard/glimmerboard/forager/Family", "denOn", "(I)Z"⟩ : MethodName)) (z := (⟨"com/example/glimmerboard/glimmerboard/forager/Family", "denOn", "(I)Z"⟩ : MethodName)) hown (mvT hZ (hw _ (List.mem_of_getElem? (i := 42) rfl))) (mvT hZ (hw _ (List.mem_of_getElem? (i := 43) rfl))) (notFace_of_selects (args := #[]) (mvT hZ (hw _ (List.mem_of_getElem? (i := 45) rfl)))) (mvT hZ (hw _ (List.mem_of_getElem? (i := 45) rfl))) (mvT hZ (hw _ (List.mem_of_getElem? (i := 44) rfl))) (by decide) (backOf (W := 0) (rm4 l Z a0 hw [] b2 (-1 : Int32) (-2 : Int32) h12 n0 (by omega) g12_1) hZ (hw _ (List.mem_of_getElem? (i := 46) rfl)) (hw _ (List.mem_of_getElem? (i := 2) rfl)) (by decide) (by decide)) q22a q22c (g := (mkF m 56 #[.val (.int c0), .val (.int dd), .val (.int d2), .val (.int qq), .val (.int fl), .val (.int qa), .val (.ref b2), .unset, .unset, .unset, .unset] [(.int (-1 : Int32)), (.ref b2)])) rfl (by rw [hml]; rfl) (Steps.refl _) (argsL := [(.int (-1 : Int32))]) (rest := []) (lenOf pd_2 rfl) rfl (by show 2 * 0 + _ ≤ _; exact Nat.le_of_eq rfl) (hb hby at_56) (fun _ _ => ⟨rfl, eq20, (by decide : 4 + 0 ≤ _), (by decide : 13 + 0 ≤ _)⟩)
    dsimp only [Pt.U, Pt.locs, Pt.cells, Pt.slots] at X22 lq22 yq22 zq22 st22 hQ22
    subst lq22 yq22 zq22
    obtain ⟨rfl, Nq22, eq22⟩ := hQ22
    have N22 := Fr.app N20 Nq22
    refine own_go (st' := T22.setTop (mkF m 59 #[.val (.int c0), .val (.int dd), .val (.int d2), .val (.int qq), .val (.int fl), .val (.int qa), .val (.ref b2), .unset, .unset, .unset, .unset] [(.int (own_on (-2 : Int32) (-1 : Int32)))])) (fun _ k => st22.trans k) ?_
    have hc23 : (own_on (-2 : Int32) (-1 : Int32)) = (0 : Int32) := own_on_ne (by decide)
    refine own_go (st' := T22.setTop (mkF m 62 #[.val (.int c0), .val (.int dd), .val (.int d2), .val (.int qq), .val (.int fl), .val (.int qa), .val (.ref b2), .unset, .unset, .unset, .unset] [])) (fun _ k => XS.ifNo X22.here hx rfl (hb hby at_59) rfl ((if0 _ _).trans (teq hc23).2) k) ?_
    refine own_go (st' := T22.setTop (mkF m 63 #[.val (.int c0), .val (.int dd), .val (.int d2), .val (.int qq), .val (.int fl), .val (.int qa), .val (.ref b2), .unset, .unset, .unset, .unset] [(.int (1 : Int32))])) (fun _ k => XS.iconst X22.here hx rfl (hb hby at_62) k) ?_
    refine own_go (st' := T22.setTop (mkF m 67 #[.val (.int c0), .val (.int dd), .val (.int d2), .val (.int qq), .val (.int fl), .val (.int qa), .val (.ref b2), .unset, .unset, .unset, .unset] [(.int (1 : Int32))])) (fun _ k => XS.goto X22.here hx rfl (pc0 := 63) (pc' := 67) rfl (hb hby at_63) (by decide) (by decide) k) ?_
    refine own_go (st' := T22.setTop (mkF m 69 #[.val (.int c0), .val (.int dd), .val (.int d2), .val (.int qq), .val (.int fl), .val (.int qa), .val (.ref b2), .val (.int (1 : Int32)), .unset, .unset, .unset] [])) (fun _ k => XS.istore X22.here hx rfl (hb hby at_67) rfl (l' := #[.val (.int c0), .val (.int dd), .val (.int d2), .val (.int qq), .val (.int fl), .val (.int qa), .val (.ref b2), .val (.int (1 : Int32)), .unset, .unset, .unset]) rfl k) ?_
    refine own_go (st' := T22.setTop (mkF m 71 #[.val (.int c0), .val (.int dd), .val (.int d2), .val (.int qq), .val (.int fl), .val (.int qa), .val (.ref b2), .val (.int (1 : Int32)), .unset, .unset, .unset] [(.ref b2)])) (fun _ k => XS.aload X22.here hx rfl (hb hby at_69) rfl rfl k) ?_
    refine own_go (st' := T22.setTop (mkF m 72 #[.val (.int c0), .val (.int dd), .val (.int d2), .val (.int qq), .val (.int fl), .val (.int qa), .val (.ref b2), .val (.int (1 : Int32)), .unset, .unset, .unset] [(.int dd), (.ref b2)])) (fun _ k => XS.iloadN X22.here hx rfl (hb hby at_71) rfl k) ?_
    obtain ⟨cq24, kq24, q24a, q24b, q24c⟩ := isOf hZ eq22 g12_0
    obtain ⟨_, _, ⟨T24, LC24, kC24, nC24⟩, -, X24, ⟨Lc24, hQ24, lq24, yq24, zq24⟩, st24⟩ := X22.virtualBack hx (y := (⟨"com/example/glimmerboard/glimmerboard/forager/Family", "makeDen", "(I)V"⟩ : MethodName)) (z := (⟨"com/example/glimmerboard/glimmerboard/forager/Family", "makeDen", "(I)V"⟩ : MethodName)) hown (mvT hZ (hw _ (List.mem_of_getElem? (i := 47) rfl))) (mvT hZ (hw _ (List.mem_of_getElem? (i := 48) rfl))) (notFace_of_selects (args := #[]) (mvT hZ (hw _ (List.mem_of_getElem? (i := 50) rfl)))) (mvT hZ (hw _ (List.mem_of_getElem? (i := 50) rfl))) (mvT hZ (hw _ (List.mem_of_getElem? (i := 49) rfl))) (by decide) (backOf (W := 0) (rm5 l Z a0 hw [] b2 dd (-2 : Int32) h12 n0 (by omega) g12_0 g12_1 (by omega)) hZ (hw _ (List.mem_of_getElem? (i := 51) rfl)) (hw _ (List.mem_of_getElem? (i := 2) rfl)) (by decide) (by decide)) q24a q24c (g := (mkF m 72 #[.val (.int c0), .val (.int dd), .val (.int d2), .val (.int qq), .val (.int fl), .val (.int qa), .val (.ref b2), .val (.int (1 : Int32)), .unset, .unset, .unset] [(.int dd), (.ref b2)])) rfl (by rw [hml]; rfl) (Steps.refl _) (argsL := [(.int dd)]) (rest := []) (lenOf pd_3 rfl) rfl (by show 2 * 0 + _ ≤ _; exact Nat.le_of_eq rfl) (hb hby at_72) (fun _ _ => ⟨rfl, eq22, (by decide : 4 + 0 ≤ _), (by decide : 13 + 0 ≤ _)⟩)
    dsimp only [Pt.U, Pt.locs, Pt.cells, Pt.slots] at X24 lq24 yq24 zq24 st24 hQ24
    subst lq24 yq24 zq24
    obtain ⟨h24, e24⟩ : ∃ z, T24.heap = z := ⟨_, rfl⟩
    rw [e24] at hQ24
    obtain ⟨rfl, Nq24, K24, g24_0, g24_1⟩ := hQ24
    have sz24 : h12.size ≤ h24.size := K24.1
    have N24 := Fr.app N22 Nq24
    have lt24_1 : @LT.lt Nat _ b2 h24.size := g24_0.lt
    refine own_go (st' := T24.setTop (mkF m 75 #[.val (.int c0), .val (.int dd), .val (.int d2), .val (.int qq), .val (.int fl), .val (.int qa), .val (.ref b2), .val (.int (1 : Int32)), .unset, .unset, .unset] [])) (fun _ k => st24.trans k) ?_
    refine own_go (st' := T24.setTop (mkF m 76 #[.val (.int c0), .val (.int dd), .val (.int d2), .val (.int qq), .val (.int fl), .val (.int qa), .val (.ref b2), .val (.int (1 : Int32)), .unset, .unset, .unset] [(.int dd)])) (fun _ k => XS.iloadN X24.here hx rfl (hb hby at_75) rfl k) ?_
    refine own_go (st' := T24.setTop (mkF m 78 #[.val (.int c0), .val (.int dd), .val (.int d2), .val (.int qq), .val (.int fl), .val (.int qa), .val (.ref b2), .val (.int (1 : Int32)), .val (.int dd), .unset, .unset] [])) (fun _ k => XS.istore X24.here hx rfl (hb hby at_76) rfl (l' := #[.val (.int c0), .val (.int dd), .val (.int d2), .val (.int qq), .val (.int fl), .val (.int qa), .val (.ref b2), .val (.int (1 : Int32)), .val (.int dd), .unset, .unset]) rfl k) ?_
    have J94_25 : ∀ (Tj25 : State) (lj25 : List Loc) (hj25 : Heap) (dn : Int32) (Xj25 : Stand p l e room_1 s m #[(.int c0), (.int dd), (.int d2), (.int qq), (.int fl)] below meth c Tj25 lj25 4 13) (ej25 : Tj25.heap = hj25) (Nj25 : Fr n0 lj25)  (szj25 : h24.size ≤ hj25.size) (fj25_0 : Exa Z hj25 b2 "com/example/glimmerboard/glimmerboard/forager/Family") (fj25_1 : Fld Z hj25 b2 "com/example/glimmerboard/glimmerboard/forager/Family" "den" "I" (.int dn)), own_Go p.tables e below P (Tj25.setTop (mkF m 94 #[.val (.int c0), .val (.int dd), .val (.int d2), .val (.int qq), .val (.int fl), .val (.int qa), .val (.ref b2), .val (.int (1 : Int32)), .val (.int dn), .unset, .unset] [])) := by
      intro Tj25 lj25 hj25 dn Xj25 ej25 Nj25 szj25 fj25_0 fj25_1
      have ltj25_0 : @LT.lt Nat _ b2 hj25.size := fj25_0.lt
      have J107_26 : ∀ (Tj26 : State) (lj26 : List Loc) (pb : Int32) (Xj26 : Stand p l e room_1 s m #[(.int c0), (.int dd), (.int d2), (.int qq), (.int fl)] below meth c Tj26 lj26 4 13) (ej26 : Tj26.heap = hj25) (Nj26 : Fr n0 lj26) , own_Go p.tables e below P (Tj26.setTop (mkF m 107 #[.val (.int c0), .val (.int dd), .val (.int d2), .val (.int qq), .val (.int fl), .val (.int qa), .val (.ref b2), .val (.int (1 : Int32)), .val (.int dn), .unset, .unset] [(.int pb)])) := by
        intro Tj26 lj26 pb Xj26 ej26 Nj26
        refine own_go (st' := Tj26.setTop (mkF m 109 #[.val (.int c0), .val (.int dd), .val (.int d2), .val (.int qq), .val (.int fl), .val (.int qa), .val (.ref b2), .val (.int (1 : Int32)), .val (.int dn), .val (.int pb), .unset] [])) (fun _ k => XS.istore Xj26.here hx rfl (hb hby at_107) rfl (l' := #[.val (.int c0), .val (.int dd), .val (.int d2), .val (.int qq), .val (.int fl), .val (.int qa), .val (.ref b2), .val (.int (1 : Int32)), .val (.int dn), .val (.int pb), .unset]) rfl k) ?_
        refine own_go (st' := Tj26.setTop (mkF m 111 #[.val (.int c0), .val (.int dd), .val (.int d2), .val (.int qq), .val (.int fl), .val (.int qa), .val (.ref b2), .val (.int (1 : Int32)), .val (.int dn), .val (.int pb), .unset] [(.ref b2)])) (fun _ k => XS.aload Xj26.here hx rfl (hb hby at_109) rfl rfl k) ?_
        refine own_go (st' := Tj26.setTop (mkF m 113 #[.val (.int c0), .val (.int dd), .val (.int d2), .val (.int qq), .val (.int fl), .val (.int qa), .val (.ref b2), .val (.int (1 : Int32)), .val (.int dn), .val (.int pb), .unset] [(.int pb), (.ref b2)])) (fun _ k => XS.iload Xj26.here hx rfl (hb hby at_111) rfl k) ?_
        obtain ⟨cq27, kq27, q27a, q27b, q27c⟩ := isOf hZ ej26 fj25_0
        obtain ⟨_, _, ⟨T27, LC27, kC27, nC27⟩, -, X27, ⟨Lc27, hQ27, lq27, yq27, zq27⟩, st27⟩ := Xj26.virtualBack hx (y := (⟨"com/example/glimmerboard/glimmerboard/forager/Family", "denOn", "(I)Z"⟩ : MethodName)) (z := (⟨"com/example/glimmerboard/glimmerboard/forager/Family", "denOn", "(I)Z"⟩ : MethodName)) hown (mvT hZ (hw _ (List.mem_of_getElem? (i := 42) rfl))) (mvT hZ (hw _ (List.mem_of_getElem? (i := 43) rfl))) (notFace_of_selects (args := #[]) (mvT hZ (hw _ (List.mem_of_getElem? (i := 45) rfl)))) (mvT hZ (hw _ (List.mem_of_getElem? (i := 45) rfl))) (mvT hZ (hw _ (List.mem_of_getElem? (i := 44) rfl))) (by decide) (backOf (W := 0) (rm4 l Z a0 hw [] b2 pb dn hj25 n0 (by omega) fj25_1) hZ (hw _ (List.mem_of_getElem? (i := 46) rfl)) (hw _ (List.mem_of_getElem? (i := 2) rfl)) (by decide) (by decide)) q27a q27c (g := (mkF m 113 #[.val (.int c0), .val (.int dd), .val (.int d2), .val (.int qq), .val (.int fl), .val (.int qa), .val (.ref b2), .val (.int (1 : Int32)), .val (.int dn), .val (.int pb), .unset] [(.int pb), (.ref b2)])) rfl (by rw [hml]; rfl) (Steps.refl _) (argsL := [(.int pb)]) (rest := []) (lenOf pd_2 rfl) rfl (by show 2 * 0 + _ ≤ _; exact Nat.le_of_eq rfl) (hb hby at_113) (fun _ _ => ⟨rfl, ej26, (by decide : 4 + 0 ≤ _), (by decide : 13 + 0 ≤ _)⟩)
        dsimp only [Pt.U, Pt.locs, Pt.cells, Pt.slots] at X27 lq27 yq27 zq27 st27 hQ27
        subst lq27 yq27 zq27
        obtain ⟨rfl, Nq27, eq27⟩ := hQ27
        have N27 := Fr.app Nj26 Nq27
        refine own_go (st' := T27.setTop (mkF m 116 #[.val (.int c0), .val (.int dd), .val (.int d2), .val (.int qq), .val (.int fl), .val (.int qa), .val (.ref b2), .val (.int (1 : Int32)), .val (.int dn), .val (.int pb), .unset] [(.int (own_on dn pb))])) (fun _ k => st27.trans k) ?_
        refine own_go (st' := T27.setTop (mkF m 118 #[.val (.int c0), .val (.int dd), .val (.int d2), .val (.int qq), .val (.int fl), .val (.int qa), .val (.ref b2), .val (.int (1 : Int32)), .val (.int dn), .val (.int pb), .unset] [(.int pb), (.int (own_on dn pb))])) (fun _ k => XS.iload X27.here hx rfl (hb hby at_116) rfl k) ?_
        refine own_go (st' := T27.setTop (mkF m 120 #[.val (.int c0), .val (.int dd), .val (.int d2), .val (.int qq), .val (.int fl), .val (.int qa), .val (.ref b2), .val (.int (1 : Int32)), .val (.int dn), .val (.int pb), .unset] [(.int dn), (.int pb), (.int (own_on dn pb))])) (fun _ k => XS.iload X27.here hx rfl (hb hby at_118) rfl k) ?_
        by_cases hc28 : pb = dn
        · --
          refine own_go (st' := T27.setTop (mkF m 123 #[.val (.int c0), .val (.int dd), .val (.int d2), .val (.int qq), .val (.int fl), .val (.int qa), .val (.ref b2), .val (.int (1 : Int32)), .val (.int dn), .val (.int pb), .unset] [(.int (own_on dn pb))])) (fun _ k => XS.icmpNo X27.here hx rfl (hb hby at_120) rfl (teq hc28).2 k) ?_
          refine own_go (st' := T27.setTop (mkF m 124 #[.val (.int c0), .val (.int dd), .val (.int d2), .val (.int qq), .val (.int fl), .val (.int qa), .val (.ref b2), .val (.int (1 : Int32)), .val (.int dn), .val (.int pb), .unset] [(.int (1 : Int32)), (.int (own_on dn pb))])) (fun _ k => XS.iconst X27.here hx rfl (hb hby at_123) k) ?_
          refine own_go (st' := T27.setTop (mkF m 128 #[.val (.int c0), .val (.int dd), .val (.int d2), .val (.int qq), .val (.int fl), .val (.int qa), .val (.ref b2), .val (.int (1 : Int32)), .val (.int dn), .val (.int pb), .unset] [(.int (1 : Int32)), (.int (own_on dn pb))])) (fun _ k => XS.goto X27.here hx rfl (pc0 := 124) (pc' := 128) rfl (hb hby at_124) (by decide) (by decide) k) ?_
          have hc29 : (own_on dn pb) = (1 : Int32) := by rw [hc28]; exact own_on_self dn
          refine own_go (st' := T27.setTop (mkF m 131 #[.val (.int c0), .val (.int dd), .val (.int d2), .val (.int qq), .val (.int fl), .val (.int qa), .val (.ref b2), .val (.int (1 : Int32)), .val (.int dn), .val (.int pb), .unset] [])) (fun _ k => XS.icmpNo X27.here hx rfl (hb hby at_128) rfl (teq hc29).2 k) ?_
          refine own_go (st' := T27.setTop (mkF m 133 #[.val (.int c0), .val (.int dd), .val (.int d2), .val (.int qq), .val (.int fl), .val (.int qa), .val (.ref b2), .val (.int (1 : Int32)), .val (.int dn), .val (.int pb), .unset] [(.ref b2)])) (fun _ k => XS.aload X27.here hx rfl (hb hby at_131) rfl rfl k) ?_
          refine own_go (st' := T27.setTop (mkF m 135 #[.val (.int c0), .val (.int dd), .val (.int d2), .val (.int qq), .val (.int fl), .val (.int qa), .val (.ref b2), .val (.int (1 : Int32)), .val (.int dn), .val (.int pb), .unset] [(.int dn), (.ref b2)])) (fun _ k => XS.iload X27.here hx rfl (hb hby at_133) rfl k) ?_
          obtain ⟨cq30, kq30, q30a, q30b, q30c⟩ := isOf hZ eq27 fj25_0
          obtain ⟨_, _, ⟨T30, LC30, kC30, nC30⟩, -, X30, ⟨Lc30, hQ30, lq30, yq30, zq30⟩, st30⟩ := X27.virtualBack hx (y := (⟨"com/example/glimmerboard/glimmerboard/forager/Family", "denOn", "(I)Z"⟩ : MethodName)) (z := (⟨"com/example/glimmerboard/glimmerboard/forager/Family", "denOn", "(I)Z"⟩ : MethodName)) hown (mvT hZ (hw _ (List.mem_of_getElem? (i := 42) rfl))) (mvT hZ (hw _ (List.mem_of_getElem? (i := 43) rfl))) (notFace_of_selects (args := #[]) (mvT hZ (hw _ (List.mem_of_getElem? (i := 45) rfl)))) (mvT hZ (hw _ (List.mem_of_getElem? (i := 45) rfl))) (mvT hZ (hw _ (List.mem_of_getElem? (i := 44) rfl))) (by decide) (backOf (W := 0) (rm4 l Z a0 hw [] b2 dn dn hj25 n0 (by omega) fj25_1) hZ (hw _ (List.mem_of_getElem? (i := 46) rfl)) (hw _ (List.mem_of_getElem? (i := 2) rfl)) (by decide) (by decide)) q30a q30c (g := (mkF m 135 #[.val (.int c0), .val (.int dd), .val (.int d2), .val (.int qq), .val (.int fl), .val (.int qa), .val (.ref b2), .val (.int (1 : Int32)), .val (.int dn), .val (.int pb), .unset] [(.int dn), (.ref b2)])) rfl (by rw [hml]; rfl) (Steps.refl _) (argsL := [(.int dn)]) (rest := []) (lenOf pd_2 rfl) rfl (by show 2 * 0 + _ ≤ _; exact Nat.le_of_eq rfl) (hb hby at_135) (fun _ _ => ⟨rfl, eq27, (by decide : 4 + 0 ≤ _), (by decide : 13 + 0 ≤ _)⟩)
          dsimp only [Pt.U, Pt.locs, Pt.cells, Pt.slots] at X30 lq30 yq30 zq30 st30 hQ30
          subst lq30 yq30 zq30
          obtain ⟨rfl, Nq30, eq30⟩ := hQ30
          have N30 := Fr.app N27 Nq30
          refine own_go (st' := T30.setTop (mkF m 138 #[.val (.int c0), .val (.int dd), .val (.int d2), .val (.int qq), .val (.int fl), .val (.int qa), .val (.ref b2), .val (.int (1 : Int32)), .val (.int dn), .val (.int pb), .unset] [(.int (own_on dn dn))])) (fun _ k => st30.trans k) ?_
          have hc31 : ¬ ((own_on dn dn) = (0 : Int32)) := by rw [own_on_self]; decide
          refine own_go (st' := T30.setTop (mkF m 141 #[.val (.int c0), .val (.int dd), .val (.int d2), .val (.int qq), .val (.int fl), .val (.int qa), .val (.ref b2), .val (.int (1 : Int32)), .val (.int dn), .val (.int pb), .unset] [])) (fun _ k => XS.ifNo X30.here hx rfl (hb hby at_138) rfl ((if0 _ _).trans (feq hc31).1) k) ?_
          refine own_go (st' := T30.setTop (mkF m 143 #[.val (.int c0), .val (.int dd), .val (.int d2), .val (.int qq), .val (.int fl), .val (.int qa), .val (.ref b2), .val (.int (1 : Int32)), .val (.int dn), .val (.int pb), .unset] [(.ref b2)])) (fun _ k => XS.aload X30.here hx rfl (hb hby at_141) rfl rfl k) ?_
          refine own_go (st' := T30.setTop (mkF m 144 #[.val (.int c0), .val (.int dd), .val (.int d2), .val (.int qq), .val (.int fl), .val (.int qa), .val (.ref b2), .val (.int (1 : Int32)), .val (.int dn), .val (.int pb), .unset] [(.int dd), (.ref b2)])) (fun _ k => XS.iloadN X30.here hx rfl (hb hby at_143) rfl k) ?_
          obtain ⟨cq32, kq32, q32a, q32b, q32c⟩ := isOf hZ eq30 fj25_0
          obtain ⟨_, _, ⟨T32, LC32, kC32, nC32⟩, -, X32, ⟨Lc32, hQ32, lq32, yq32, zq32⟩, st32⟩ := X30.virtualBack hx (y := (⟨"com/example/glimmerboard/glimmerboard/forager/Family", "denOn", "(I)Z"⟩ : MethodName)) (z := (⟨"com/example/glimmerboard/glimmerboard/forager/Family", "denOn", "(I)Z"⟩ : MethodName)) hown (mvT hZ (hw _ (List.mem_of_getElem? (i := 42) rfl))) (mvT hZ (hw _ (List.mem_of_getElem? (i := 43) rfl))) (notFace_of_selects (args := #[]) (mvT hZ (hw _ (List.mem_of_getElem? (i := 45) rfl)))) (mvT hZ (hw _ (List.mem_of_getElem? (i := 45) rfl))) (mvT hZ (hw _ (List.mem_of_getElem? (i := 44) rfl))) (by decide) (backOf (W := 0) (rm4 l Z a0 hw [] b2 dd dn hj25 n0 (by omega) fj25_1) hZ (hw _ (List.mem_of_getElem? (i := 46) rfl)) (hw _ (List.mem_of_getElem? (i := 2) rfl)) (by decide) (by decide)) q32a q32c (g := (mkF m 144 #[.val (.int c0), .val (.int dd), .val (.int d2), .val (.int qq), .val (.int fl), .val (.int qa), .val (.ref b2), .val (.int (1 : Int32)), .val (.int dn), .val (.int pb), .unset] [(.int dd), (.ref b2)])) rfl (by rw [hml]; rfl) (Steps.refl _) (argsL := [(.int dd)]) (rest := []) (lenOf pd_2 rfl) rfl (by show 2 * 0 + _ ≤ _; exact Nat.le_of_eq rfl) (hb hby at_144) (fun _ _ => ⟨rfl, eq30, (by decide : 4 + 0 ≤ _), (by decide : 13 + 0 ≤ _)⟩)
          dsimp only [Pt.U, Pt.locs, Pt.cells, Pt.slots] at X32 lq32 yq32 zq32 st32 hQ32
          subst lq32 yq32 zq32
          obtain ⟨rfl, Nq32, eq32⟩ := hQ32
          have N32 := Fr.app N30 Nq32
          refine own_go (st' := T32.setTop (mkF m 147 #[.val (.int c0), .val (.int dd), .val (.int d2), .val (.int qq), .val (.int fl), .val (.int qa), .val (.ref b2), .val (.int (1 : Int32)), .val (.int dn), .val (.int pb), .unset] [(.int (own_on dn dd))])) (fun _ k => st32.trans k) ?_
          refine own_go (st' := T32.setTop (mkF m 148 #[.val (.int c0), .val (.int dd), .val (.int d2), .val (.int qq), .val (.int fl), .val (.int qa), .val (.ref b2), .val (.int (1 : Int32)), .val (.int dn), .val (.int pb), .unset] [(.int dd), (.int (own_on dn dd))])) (fun _ k => XS.iloadN X32.here hx rfl (hb hby at_147) rfl k) ?_
          refine own_go (st' := T32.setTop (mkF m 150 #[.val (.int c0), .val (.int dd), .val (.int d2), .val (.int qq), .val (.int fl), .val (.int qa), .val (.ref b2), .val (.int (1 : Int32)), .val (.int dn), .val (.int pb), .unset] [(.int dn), (.int dd), (.int (own_on dn dd))])) (fun _ k => XS.iload X32.here hx rfl (hb hby at_148) rfl k) ?_
          by_cases hc33 : dd = dn
          · --
            refine own_go (st' := T32.setTop (mkF m 153 #[.val (.int c0), .val (.int dd), .val (.int d2), .val (.int qq), .val (.int fl), .val (.int qa), .val (.ref b2), .val (.int (1 : Int32)), .val (.int dn), .val (.int pb), .unset] [(.int (own_on dn dd))])) (fun _ k => XS.icmpNo X32.here hx rfl (hb hby at_150) rfl (teq hc33).2 k) ?_
            refine own_go (st' := T32.setTop (mkF m 154 #[.val (.int c0), .val (.int dd), .val (.int d2), .val (.int qq), .val (.int fl), .val (.int qa), .val (.ref b2), .val (.int (1 : Int32)), .val (.int dn), .val (.int pb), .unset] [(.int (1 : Int32)), (.int (own_on dn dd))])) (fun _ k => XS.iconst X32.here hx rfl (hb hby at_153) k) ?_
            refine own_go (st' := T32.setTop (mkF m 158 #[.val (.int c0), .val (.int dd), .val (.int d2), .val (.int qq), .val (.int fl), .val (.int qa), .val (.ref b2), .val (.int (1 : Int32)), .val (.int dn), .val (.int pb), .unset] [(.int (1 : Int32)), (.int (own_on dn dd))])) (fun _ k => XS.goto X32.here hx rfl (pc0 := 154) (pc' := 158) rfl (hb hby at_154) (by decide) (by decide) k) ?_
            have hc34 : (own_on dn dd) = (1 : Int32) := by rw [hc33]; exact own_on_self dn
            refine own_go (st' := T32.setTop (mkF m 161 #[.val (.int c0), .val (.int dd), .val (.int d2), .val (.int qq), .val (.int fl), .val (.int qa), .val (.ref b2), .val (.int (1 : Int32)), .val (.int dn), .val (.int pb), .unset] [])) (fun _ k => XS.icmpNo X32.here hx rfl (hb hby at_158) rfl (teq hc34).2 k) ?_
            refine own_go (st' := T32.setTop (mkF m 162 #[.val (.int c0), .val (.int dd), .val (.int d2), .val (.int qq), .val (.int fl), .val (.int qa), .val (.ref b2), .val (.int (1 : Int32)), .val (.int dn), .val (.int pb), .unset] [(.int (1 : Int32))])) (fun _ k => XS.iconst X32.here hx rfl (hb hby at_161) k) ?_
            refine own_go (st' := T32.setTop (mkF m 166 #[.val (.int c0), .val (.int dd), .val (.int d2), .val (.int qq), .val (.int fl), .val (.int qa), .val (.ref b2), .val (.int (1 : Int32)), .val (.int dn), .val (.int pb), .unset] [(.int (1 : Int32))])) (fun _ k => XS.goto X32.here hx rfl (pc0 := 162) (pc' := 166) rfl (hb hby at_162) (by decide) (by decide) k) ?_
            refine own_go (st' := T32.setTop (mkF m 168 #[.val (.int c0), .val (.int dd), .val (.int d2), .val (.int qq), .val (.int fl), .val (.int qa), .val (.ref b2), .val (.int (1 : Int32)), .val (.int dn), .val (.int pb), .val (.int (1 : Int32))] [])) (fun _ k => XS.istore X32.here hx rfl (hb hby at_166) rfl (l' := #[.val (.int c0), .val (.int dd), .val (.int d2), .val (.int qq), .val (.int fl), .val (.int qa), .val (.ref b2), .val (.int (1 : Int32)), .val (.int dn), .val (.int pb), .val (.int (1 : Int32))]) rfl k) ?_
            refine own_go (st' := T32.setTop (mkF m 170 #[.val (.int c0), .val (.int dd), .val (.int d2), .val (.int qq), .val (.int fl), .val (.int qa), .val (.ref b2), .val (.int (1 : Int32)), .val (.int dn), .val (.int pb), .val (.int (1 : Int32))] [(.int (1 : Int32))])) (fun _ k => XS.iload X32.here hx rfl (hb hby at_168) rfl k) ?_
            have hc35 : ¬ ((1 : Int32) = (0 : Int32)) := by decide
            refine own_go (st' := T32.setTop (mkF m 173 #[.val (.int c0), .val (.int dd), .val (.int d2), .val (.int qq), .val (.int fl), .val (.int qa), .val (.ref b2), .val (.int (1 : Int32)), .val (.int dn), .val (.int pb), .val (.int (1 : Int32))] [])) (fun _ k => XS.ifNo X32.here hx rfl (hb hby at_170) rfl ((if0 _ _).trans (feq hc35).1) k) ?_
            refine own_go (st' := T32.setTop (mkF m 175 #[.val (.int c0), .val (.int dd), .val (.int d2), .val (.int qq), .val (.int fl), .val (.int qa), .val (.ref b2), .val (.int (1 : Int32)), .val (.int dn), .val (.int pb), .val (.int (1 : Int32))] [(.int (1 : Int32))])) (fun _ k => XS.iload X32.here hx rfl (hb hby at_173) rfl k) ?_
            have hc36 : ¬ ((1 : Int32) = (0 : Int32)) := by decide
            refine own_go (st' := T32.setTop (mkF m 178 #[.val (.int c0), .val (.int dd), .val (.int d2), .val (.int qq), .val (.int fl), .val (.int qa), .val (.ref b2), .val (.int (1 : Int32)), .val (.int dn), .val (.int pb), .val (.int (1 : Int32))] [])) (fun _ k => XS.ifNo X32.here hx rfl (hb hby at_175) rfl ((if0 _ _).trans (feq hc36).1) k) ?_
            refine own_go (st' := T32.setTop (mkF m 179 #[.val (.int c0), .val (.int dd), .val (.int d2), .val (.int qq), .val (.int fl), .val (.int qa), .val (.ref b2), .val (.int (1 : Int32)), .val (.int dn), .val (.int pb), .val (.int (1 : Int32))] [(.int (1 : Int32))])) (fun _ k => XS.iconst X32.here hx rfl (hb hby at_178) k) ?_
            refine own_go (st' := T32.setTop (mkF m 183 #[.val (.int c0), .val (.int dd), .val (.int d2), .val (.int qq), .val (.int fl), .val (.int qa), .val (.ref b2), .val (.int (1 : Int32)), .val (.int dn), .val (.int pb), .val (.int (1 : Int32))] [(.int (1 : Int32))])) (fun _ k => XS.goto X32.here hx rfl (pc0 := 179) (pc' := 183) rfl (hb hby at_179) (by decide) (by decide) k) ?_
            obtain ⟨fs, hr, hrun, hended, hW, hsame⟩ := X32.leave (v := some (.int (1 : Int32))) (fun h => by rw [Bd.returns] at h; cases h)
            refine ⟨_, _, ?_, hP _ _ hrun hended ⟨_, _, rfl, ?_, ⟨_, rfl⟩, hW, hsame.mono (by decide) (by decide)⟩⟩
            · exact retN X32 hx (t := .boolean) Bd.returns (by simp) (hb hby at_183) hr
            · show Qrm0 Z c0 dd d2 qq fl a__VALUES a_RED a_LARGE a_MEDIUM a_SMALL k_a__VALUES h0 n0 _ T32.heap _
              rw [eq32]
              exact ⟨rfl, N32, trivial⟩
          · --
            refine own_go (st' := T32.setTop (mkF m 157 #[.val (.int c0), .val (.int dd), .val (.int d2), .val (.int qq), .val (.int fl), .val (.int qa), .val (.ref b2), .val (.int (1 : Int32)), .val (.int dn), .val (.int pb), .unset] [(.int (own_on dn dd))])) (fun _ k => XS.icmpYes X32.here hx rfl (pc0 := 150) (pc' := 157) rfl (hb hby at_150) rfl (feq hc33).2 (by decide) (by decide) k) ?_
            refine own_go (st' := T32.setTop (mkF m 158 #[.val (.int c0), .val (.int dd), .val (.int d2), .val (.int qq), .val (.int fl), .val (.int qa), .val (.ref b2), .val (.int (1 : Int32)), .val (.int dn), .val (.int pb), .unset] [(.int (0 : Int32)), (.int (own_on dn dd))])) (fun _ k => XS.iconst X32.here hx rfl (hb hby at_157) k) ?_
            have hc38 : (own_on dn dd) = (0 : Int32) := own_on_ne (fun q => hc33 q.symm)
            refine own_go (st' := T32.setTop (mkF m 161 #[.val (.int c0), .val (.int dd), .val (.int d2), .val (.int qq), .val (.int fl), .val (.int qa), .val (.ref b2), .val (.int (1 : Int32)), .val (.int dn), .val (.int pb), .unset] [])) (fun _ k => XS.icmpNo X32.here hx rfl (hb hby at_158) rfl (teq hc38).2 k) ?_
            refine own_go (st' := T32.setTop (mkF m 162 #[.val (.int c0), .val (.int dd), .val (.int d2), .val (.int qq), .val (.int fl), .val (.int qa), .val (.ref b2), .val (.int (1 : Int32)), .val (.int dn), .val (.int pb), .unset] [(.int (1 : Int32))])) (fun _ k => XS.iconst X32.here hx rfl (hb hby at_161) k) ?_
            refine own_go (st' := T32.setTop (mkF m 166 #[.val (.int c0), .val (.int dd), .val (.int d2), .val (.int qq), .val (.int fl), .val (.int qa), .val (.ref b2), .val (.int (1 : Int32)), .val (.int dn), .val (.int pb), .unset] [(.int (1 : Int32))])) (fun _ k => XS.goto X32.here hx rfl (pc0 := 162) (pc' := 166) rfl (hb hby at_162) (by decide) (by decide) k) ?_
            refine own_go (st' := T32.setTop (mkF m 168 #[.val (.int c0), .val (.int dd), .val (.int d2), .val (.int qq), .val (.int fl), .val (.int qa), .val (.ref b2), .val (.int (1 : Int32)), .val (.int dn), .val (.int pb), .val (.int (1 : Int32))] [])) (fun _ k => XS.istore X32.here hx rfl (hb hby at_166) rfl (l' := #[.val (.int c0), .val (.int dd), .val (.int d2), .val (.int qq), .val (.int fl), .val (.int qa), .val (.ref b2), .val (.int (1 : Int32)), .val (.int dn), .val (.int pb), .val (.int (1 : Int32))]) rfl k) ?_
            refine own_go (st' := T32.setTop (mkF m 170 #[.val (.int c0), .val (.int dd), .val (.int d2), .val (.int qq), .val (.int fl), .val (.int qa), .val (.ref b2), .val (.int (1 : Int32)), .val (.int dn), .val (.int pb), .val (.int (1 : Int32))] [(.int (1 : Int32))])) (fun _ k => XS.iload X32.here hx rfl (hb hby at_168) rfl k) ?_
            have hc39 : ¬ ((1 : Int32) = (0 : Int32)) := by decide
            refine own_go (st' := T32.setTop (mkF m 173 #[.val (.int c0), .val (.int dd), .val (.int d2), .val (.int qq), .val (.int fl), .val (.int qa), .val (.ref b2), .val (.int (1 : Int32)), .val (.int dn), .val (.int pb), .val (.int (1 : Int32))] [])) (fun _ k => XS.ifNo X32.here hx rfl (hb hby at_170) rfl ((if0 _ _).trans (feq hc39).1) k) ?_
            refine own_go (st' := T32.setTop (mkF m 175 #[.val (.int c0), .val (.int dd), .val (.int d2), .val (.int qq), .val (.int fl), .val (.int qa), .val (.ref b2), .val (.int (1 : Int32)), .val (.int dn), .val (.int pb), .val (.int (1 : Int32))] [(.int (1 : Int32))])) (fun _ k => XS.iload X32.here hx rfl (hb hby at_173) rfl k) ?_
            have hc40 : ¬ ((1 : Int32) = (0 : Int32)) := by decide
            refine own_go (st' := T32.setTop (mkF m 178 #[.val (.int c0), .val (.int dd), .val (.int d2), .val (.int qq), .val (.int fl), .val (.int qa), .val (.ref b2), .val (.int (1 : Int32)), .val (.int dn), .val (.int pb), .val (.int (1 : Int32))] [])) (fun _ k => XS.ifNo X32.here hx rfl (hb hby at_175) rfl ((if0 _ _).trans (feq hc40).1) k) ?_
            refine own_go (st' := T32.setTop (mkF m 179 #[.val (.int c0), .val (.int dd), .val (.int d2), .val (.int qq), .val (.int fl), .val (.int qa), .val (.ref b2), .val (.int (1 : Int32)), .val (.int dn), .val (.int pb), .val (.int (1 : Int32))] [(.int (1 : Int32))])) (fun _ k => XS.iconst X32.here hx rfl (hb hby at_178) k) ?_
            refine own_go (st' := T32.setTop (mkF m 183 #[.val (.int c0), .val (.int dd), .val (.int d2), .val (.int qq), .val (.int fl), .val (.int qa), .val (.ref b2), .val (.int (1 : Int32)), .val (.int dn), .val (.int pb), .val (.int (1 : Int32))] [(.int (1 : Int32))])) (fun _ k => XS.goto X32.here hx rfl (pc0 := 179) (pc' := 183) rfl (hb hby at_179) (by decide) (by decide) k) ?_
            obtain ⟨fs, hr, hrun, hended, hW, hsame⟩ := X32.leave (v := some (.int (1 : Int32))) (fun h => by rw [Bd.returns] at h; cases h)
            refine ⟨_, _, ?_, hP _ _ hrun hended ⟨_, _, rfl, ?_, ⟨_, rfl⟩, hW, hsame.mono (by decide) (by decide)⟩⟩
            · exact retN X32 hx (t := .boolean) Bd.returns (by simp) (hb hby at_183) hr
            · show Qrm0 Z c0 dd d2 qq fl a__VALUES a_RED a_LARGE a_MEDIUM a_SMALL k_a__VALUES h0 n0 _ T32.heap _
              rw [eq32]
              exact ⟨rfl, N32, trivial⟩
        · --
          refine own_go (st' := T27.setTop (mkF m 127 #[.val (.int c0), .val (.int dd), .val (.int d2), .val (.int qq), .val (.int fl), .val (.int qa), .val (.ref b2), .val (.int (1 : Int32)), .val (.int dn), .val (.int pb), .unset] [(.int (own_on dn pb))])) (fun _ k => XS.icmpYes X27.here hx rfl (pc0 := 120) (pc' := 127) rfl (hb hby at_120) rfl (feq hc28).2 (by decide) (by decide) k) ?_
          refine own_go (st' := T27.setTop (mkF m 128 #[.val (.int c0), .val (.int dd), .val (.int d2), .val (.int qq), .val (.int fl), .val (.int qa), .val (.ref b2), .val (.int (1 : Int32)), .val (.int dn), .val (.int pb), .unset] [(.int (0 : Int32)), (.int (own_on dn pb))])) (fun _ k => XS.iconst X27.here hx rfl (hb hby at_127) k) ?_
          have hc42 : (own_on dn pb) = (0 : Int32) := own_on_ne (fun q => hc28 q.symm)
          refine own_go (st' := T27.setTop (mkF m 131 #[.val (.int c0), .val (.int dd), .val (.int d2), .val (.int qq), .val (.int fl), .val (.int qa), .val (.ref b2), .val (.int (1 : Int32)), .val (.int dn), .val (.int pb), .unset] [])) (fun _ k => XS.icmpNo X27.here hx rfl (hb hby at_128) rfl (teq hc42).2 k) ?_
          refine own_go (st' := T27.setTop (mkF m 133 #[.val (.int c0), .val (.int dd), .val (.int d2), .val (.int qq), .val (.int fl), .val (.int qa), .val (.ref b2), .val (.int (1 : Int32)), .val (.int dn), .val (.int pb), .unset] [(.ref b2)])) (fun _ k => XS.aload X27.here hx rfl (hb hby at_131) rfl rfl k) ?_
          refine own_go (st' := T27.setTop (mkF m 135 #[.val (.int c0), .val (.int dd), .val (.int d2), .val (.int qq), .val (.int fl), .val (.int qa), .val (.ref b2), .val (.int (1 : Int32)), .val (.int dn), .val (.int pb), .unset] [(.int dn), (.ref b2)])) (fun _ k => XS.iload X27.here hx rfl (hb hby at_133) rfl k) ?_
          obtain ⟨cq43, kq43, q43a, q43b, q43c⟩ := isOf hZ eq27 fj25_0
          obtain ⟨_, _, ⟨T43, LC43, kC43, nC43⟩, -, X43, ⟨Lc43, hQ43, lq43, yq43, zq43⟩, st43⟩ := X27.virtualBack hx (y := (⟨"com/example/glimmerboard/glimmerboard/forager/Family", "denOn", "(I)Z"⟩ : MethodName)) (z := (⟨"com/example/glimmerboard/glimmerboard/forager/Family", "denOn", "(I)Z"⟩ : MethodName)) hown (mvT hZ (hw _ (List.mem_of_getElem? (i := 42) rfl))) (mvT hZ (hw _ (List.mem_of_getElem? (i := 43) rfl))) (notFace_of_selects (args := #[]) (mvT hZ (hw _ (List.mem_of_getElem? (i := 45) rfl)))) (mvT hZ (hw _ (List.mem_of_getElem? (i := 45) rfl))) (mvT hZ (hw _ (List.mem_of_getElem? (i := 44) rfl))) (by decide) (backOf (W := 0) (rm4 l Z a0 hw [] b2 dn dn hj25 n0 (by omega) fj25_1) hZ (hw _ (List.mem_of_getElem? (i := 46) rfl)) (hw _ (List.mem_of_getElem? (i := 2) rfl)) (by decide) (by decide)) q43a q43c (g := (mkF m 135 #[.val (.int c0), .val (.int dd), .val (.int d2), .val (.int qq), .val (.int fl), .val (.int qa), .val (.ref b2), .val (.int (1 : Int32)), .val (.int dn), .val (.int pb), .unset] [(.int dn), (.ref b2)])) rfl (by rw [hml]; rfl) (Steps.refl _) (argsL := [(.int dn)]) (rest := []) (lenOf pd_2 rfl) rfl (by show 2 * 0 + _ ≤ _; exact Nat.le_of_eq rfl) (hb hby at_135) (fun _ _ => ⟨rfl, eq27, (by decide : 4 + 0 ≤ _), (by decide : 13 + 0 ≤ _)⟩)
          dsimp only [Pt.U, Pt.locs, Pt.cells, Pt.slots] at X43 lq43 yq43 zq43 st43 hQ43
          subst lq43 yq43 zq43
          obtain ⟨rfl, Nq43, eq43⟩ := hQ43
          have N43 := Fr.app N27 Nq43
          refine own_go (st' := T43.setTop (mkF m 138 #[.val (.int c0), .val (.int dd), .val (.int d2), .val (.int qq), .val (.int fl), .val (.int qa), .val (.ref b2), .val (.int (1 : Int32)), .val (.int dn), .val (.int pb), .unset] [(.int (own_on dn dn))])) (fun _ k => st43.trans k) ?_
          have hc44 : ¬ ((own_on dn dn) = (0 : Int32)) := by rw [own_on_self]; decide
          refine own_go (st' := T43.setTop (mkF m 141 #[.val (.int c0), .val (.int dd), .val (.int d2), .val (.int qq), .val (.int fl), .val (.int qa), .val (.ref b2), .val (.int (1 : Int32)), .val (.int dn), .val (.int pb), .unset] [])) (fun _ k => XS.ifNo X43.here hx rfl (hb hby at_138) rfl ((if0 _ _).trans (feq hc44).1) k) ?_
          refine own_go (st' := T43.setTop (mkF m 143 #[.val (.int c0), .val (.int dd), .val (.int d2), .val (.int qq), .val (.int fl), .val (.int qa), .val (.ref b2), .val (.int (1 : Int32)), .val (.int dn), .val (.int pb), .unset] [(.ref b2)])) (fun _ k => XS.aload X43.here hx rfl (hb hby at_141) rfl rfl k) ?_
          refine own_go (st' := T43.setTop (mkF m 144 #[.val (.int c0), .val (.int dd), .val (.int d2), .val (.int qq), .val (.int fl), .val (.int qa), .val (.ref b2), .val (.int (1 : Int32)), .val (.int dn), .val (.int pb), .unset] [(.int dd), (.ref b2)])) (fun _ k => XS.iloadN X43.here hx rfl (hb hby at_143) rfl k) ?_
          obtain ⟨cq45, kq45, q45a, q45b, q45c⟩ := isOf hZ eq43 fj25_0
          obtain ⟨_, _, ⟨T45, LC45, kC45, nC45⟩, -, X45, ⟨Lc45, hQ45, lq45, yq45, zq45⟩, st45⟩ := X43.virtualBack hx (y := (⟨"com/example/glimmerboard/glimmerboard/forager/Family", "denOn", "(I)Z"⟩ : MethodName)) (z := (⟨"com/example/glimmerboard/glimmerboard/forager/Family", "denOn", "(I)Z"⟩ : MethodName)) hown (mvT hZ (hw _ (List.mem_of_getElem? (i := 42) rfl))) (mvT hZ (hw _ (List.mem_of_getElem? (i := 43) rfl))) (notFace_of_selects (args := #[]) (mvT hZ (hw _ (List.mem_of_getElem? (i := 45) rfl)))) (mvT hZ (hw _ (List.mem_of_getElem? (i := 45) rfl))) (mvT hZ (hw _ (List.mem_of_getElem? (i := 44) rfl))) (by decide) (backOf (W := 0) (rm4 l Z a0 hw [] b2 dd dn hj25 n0 (by omega) fj25_1) hZ (hw _ (List.mem_of_getElem? (i := 46) rfl)) (hw _ (List.mem_of_getElem? (i := 2) rfl)) (by decide) (by decide)) q45a q45c (g := (mkF m 144 #[.val (.int c0), .val (.int dd), .val (.int d2), .val (.int qq), .val (.int fl), .val (.int qa), .val (.ref b2), .val (.int (1 : Int32)), .val (.int dn), .val (.int pb), .unset] [(.int dd), (.ref b2)])) rfl (by rw [hml]; rfl) (Steps.refl _) (argsL := [(.int dd)]) (rest := []) (lenOf pd_2 rfl) rfl (by show 2 * 0 + _ ≤ _; exact Nat.le_of_eq rfl) (hb hby at_144) (fun _ _ => ⟨rfl, eq43, (by decide : 4 + 0 ≤ _), (by decide : 13 + 0 ≤ _)⟩)
          dsimp only [Pt.U, Pt.locs, Pt.cells, Pt.slots] at X45 lq45 yq45 zq45 st45 hQ45
          subst lq45 yq45 zq45
          obtain ⟨rfl, Nq45, eq45⟩ := hQ45
          have N45 := Fr.app N43 Nq45
          refine own_go (st' := T45.setTop (mkF m 147 #[.val (.int c0), .val (.int dd), .val (.int d2), .val (.int qq), .val (.int fl), .val (.int qa), .val (.ref b2), .val (.int (1 : Int32)), .val (.int dn), .val (.int pb), .unset] [(.int (own_on dn dd))])) (fun _ k => st45.trans k) ?_
          refine own_go (st' := T45.setTop (mkF m 148 #[.val (.int c0), .val (.int dd), .val (.int d2), .val (.int qq), .val (.int fl), .val (.int qa), .val (.ref b2), .val (.int (1 : Int32)), .val (.int dn), .val (.int pb), .unset] [(.int dd), (.int (own_on dn dd))])) (fun _ k => XS.iloadN X45.here hx rfl (hb hby at_147) rfl k) ?_
          refine own_go (st' := T45.setTop (mkF m 150 #[.val (.int c0), .val (.int dd), .val (.int d2), .val (.int qq), .val (.int fl), .val (.int qa), .val (.ref b2), .val (.int (1 : Int32)), .val (.int dn), .val (.int pb), .unset] [(.int dn), (.int dd), (.int (own_on dn dd))])) (fun _ k => XS.iload X45.here hx rfl (hb hby at_148) rfl k) ?_
          by_cases hc46 : dd = dn
          · --
            refine own_go (st' := T45.setTop (mkF m 153 #[.val (.int c0), .val (.int dd), .val (.int d2), .val (.int qq), .val (.int fl), .val (.int qa), .val (.ref b2), .val (.int (1 : Int32)), .val (.int dn), .val (.int pb), .unset] [(.int (own_on dn dd))])) (fun _ k => XS.icmpNo X45.here hx rfl (hb hby at_150) rfl (teq hc46).2 k) ?_
            refine own_go (st' := T45.setTop (mkF m 154 #[.val (.int c0), .val (.int dd), .val (.int d2), .val (.int qq), .val (.int fl), .val (.int qa), .val (.ref b2), .val (.int (1 : Int32)), .val (.int dn), .val (.int pb), .unset] [(.int (1 : Int32)), (.int (own_on dn dd))])) (fun _ k => XS.iconst X45.here hx rfl (hb hby at_153) k) ?_
            refine own_go (st' := T45.setTop (mkF m 158 #[.val (.int c0), .val (.int dd), .val (.int d2), .val (.int qq), .val (.int fl), .val (.int qa), .val (.ref b2), .val (.int (1 : Int32)), .val (.int dn), .val (.int pb), .unset] [(.int (1 : Int32)), (.int (own_on dn dd))])) (fun _ k => XS.goto X45.here hx rfl (pc0 := 154) (pc' := 158) rfl (hb hby at_154) (by decide) (by decide) k) ?_
            have hc47 : (own_on dn dd) = (1 : Int32) := by rw [hc46]; exact own_on_self dn
            refine own_go (st' := T45.setTop (mkF m 161 #[.val (.int c0), .val (.int dd), .val (.int d2), .val (.int qq), .val (.int fl), .val (.int qa), .val (.ref b2), .val (.int (1 : Int32)), .val (.int dn), .val (.int pb), .unset] [])) (fun _ k => XS.icmpNo X45.here hx rfl (hb hby at_158) rfl (teq hc47).2 k) ?_
            refine own_go (st' := T45.setTop (mkF m 162 #[.val (.int c0), .val (.int dd), .val (.int d2), .val (.int qq), .val (.int fl), .val (.int qa), .val (.ref b2), .val (.int (1 : Int32)), .val (.int dn), .val (.int pb), .unset] [(.int (1 : Int32))])) (fun _ k => XS.iconst X45.here hx rfl (hb hby at_161) k) ?_
            refine own_go (st' := T45.setTop (mkF m 166 #[.val (.int c0), .val (.int dd), .val (.int d2), .val (.int qq), .val (.int fl), .val (.int qa), .val (.ref b2), .val (.int (1 : Int32)), .val (.int dn), .val (.int pb), .unset] [(.int (1 : Int32))])) (fun _ k => XS.goto X45.here hx rfl (pc0 := 162) (pc' := 166) rfl (hb hby at_162) (by decide) (by decide) k) ?_
            refine own_go (st' := T45.setTop (mkF m 168 #[.val (.int c0), .val (.int dd), .val (.int d2), .val (.int qq), .val (.int fl), .val (.int qa), .val (.ref b2), .val (.int (1 : Int32)), .val (.int dn), .val (.int pb), .val (.int (1 : Int32))] [])) (fun _ k => XS.istore X45.here hx rfl (hb hby at_166) rfl (l' := #[.val (.int c0), .val (.int dd), .val (.int d2), .val (.int qq), .val (.int fl), .val (.int qa), .val (.ref b2), .val (.int (1 : Int32)), .val (.int dn), .val (.int pb), .val (.int (1 : Int32))]) rfl k) ?_
            refine own_go (st' := T45.setTop (mkF m 170 #[.val (.int c0), .val (.int dd), .val (.int d2), .val (.int qq), .val (.int fl), .val (.int qa), .val (.ref b2), .val (.int (1 : Int32)), .val (.int dn), .val (.int pb), .val (.int (1 : Int32))] [(.int (1 : Int32))])) (fun _ k => XS.iload X45.here hx rfl (hb hby at_168) rfl k) ?_
            have hc48 : ¬ ((1 : Int32) = (0 : Int32)) := by decide
            refine own_go (st' := T45.setTop (mkF m 173 #[.val (.int c0), .val (.int dd), .val (.int d2), .val (.int qq), .val (.int fl), .val (.int qa), .val (.ref b2), .val (.int (1 : Int32)), .val (.int dn), .val (.int pb), .val (.int (1 : Int32))] [])) (fun _ k => XS.ifNo X45.here hx rfl (hb hby at_170) rfl ((if0 _ _).trans (feq hc48).1) k) ?_
            refine own_go (st' := T45.setTop (mkF m 175 #[.val (.int c0), .val (.int dd), .val (.int d2), .val (.int qq), .val (.int fl), .val (.int qa), .val (.ref b2), .val (.int (1 : Int32)), .val (.int dn), .val (.int pb), .val (.int (1 : Int32))] [(.int (1 : Int32))])) (fun _ k => XS.iload X45.here hx rfl (hb hby at_173) rfl k) ?_
            have hc49 : ¬ ((1 : Int32) = (0 : Int32)) := by decide
            refine own_go (st' := T45.setTop (mkF m 178 #[.val (.int c0), .val (.int dd), .val (.int d2), .val (.int qq), .val (.int fl), .val (.int qa), .val (.ref b2), .val (.int (1 : Int32)), .val (.int dn), .val (.int pb), .val (.int (1 : Int32))] [])) (fun _ k => XS.ifNo X45.here hx rfl (hb hby at_175) rfl ((if0 _ _).trans (feq hc49).1) k) ?_
            refine own_go (st' := T45.setTop (mkF m 179 #[.val (.int c0), .val (.int dd), .val (.int d2), .val (.int qq), .val (.int fl), .val (.int qa), .val (.ref b2), .val (.int (1 : Int32)), .val (.int dn), .val (.int pb), .val (.int (1 : Int32))] [(.int (1 : Int32))])) (fun _ k => XS.iconst X45.here hx rfl (hb hby at_178) k) ?_
            refine own_go (st' := T45.setTop (mkF m 183 #[.val (.int c0), .val (.int dd), .val (.int d2), .val (.int qq), .val (.int fl), .val (.int qa), .val (.ref b2), .val (.int (1 : Int32)), .val (.int dn), .val (.int pb), .val (.int (1 : Int32))] [(.int (1 : Int32))])) (fun _ k => XS.goto X45.here hx rfl (pc0 := 179) (pc' := 183) rfl (hb hby at_179) (by decide) (by decide) k) ?_
            obtain ⟨fs, hr, hrun, hended, hW, hsame⟩ := X45.leave (v := some (.int (1 : Int32))) (fun h => by rw [Bd.returns] at h; cases h)
            refine ⟨_, _, ?_, hP _ _ hrun hended ⟨_, _, rfl, ?_, ⟨_, rfl⟩, hW, hsame.mono (by decide) (by decide)⟩⟩
            · exact retN X45 hx (t := .boolean) Bd.returns (by simp) (hb hby at_183) hr
            · show Qrm0 Z c0 dd d2 qq fl a__VALUES a_RED a_LARGE a_MEDIUM a_SMALL k_a__VALUES h0 n0 _ T45.heap _
              rw [eq45]
              exact ⟨rfl, N45, trivial⟩
          · --
            refine own_go (st' := T45.setTop (mkF m 157 #[.val (.int c0), .val (.int dd), .val (.int d2), .val (.int qq), .val (.int fl), .val (.int qa), .val (.ref b2), .val (.int (1 : Int32)), .val (.int dn), .val (.int pb), .unset] [(.int (own_on dn dd))])) (fun _ k => XS.icmpYes X45.here hx rfl (pc0 := 150) (pc' := 157) rfl (hb hby at_150) rfl (feq hc46).2 (by decide) (by decide) k) ?_
            refine own_go (st' := T45.setTop (mkF m 158 #[.val (.int c0), .val (.int dd), .val (.int d2), .val (.int qq), .val (.int fl), .val (.int qa), .val (.ref b2), .val (.int (1 : Int32)), .val (.int dn), .val (.int pb), .unset] [(.int (0 : Int32)), (.int (own_on dn dd))])) (fun _ k => XS.iconst X45.here hx rfl (hb hby at_157) k) ?_
            have hc51 : (own_on dn dd) = (0 : Int32) := own_on_ne (fun q => hc46 q.symm)
            refine own_go (st' := T45.setTop (mkF m 161 #[.val (.int c0), .val (.int dd), .val (.int d2), .val (.int qq), .val (.int fl), .val (.int qa), .val (.ref b2), .val (.int (1 : Int32)), .val (.int dn), .val (.int pb), .unset] [])) (fun _ k => XS.icmpNo X45.here hx rfl (hb hby at_158) rfl (teq hc51).2 k) ?_
            refine own_go (st' := T45.setTop (mkF m 162 #[.val (.int c0), .val (.int dd), .val (.int d2), .val (.int qq), .val (.int fl), .val (.int qa), .val (.ref b2), .val (.int (1 : Int32)), .val (.int dn), .val (.int pb), .unset] [(.int (1 : Int32))])) (fun _ k => XS.iconst X45.here hx rfl (hb hby at_161) k) ?_
            refine own_go (st' := T45.setTop (mkF m 166 #[.val (.int c0), .val (.int dd), .val (.int d2), .val (.int qq), .val (.int fl), .val (.int qa), .val (.ref b2), .val (.int (1 : Int32)), .val (.int dn), .val (.int pb), .unset] [(.int (1 : Int32))])) (fun _ k => XS.goto X45.here hx rfl (pc0 := 162) (pc' := 166) rfl (hb hby at_162) (by decide) (by decide) k) ?_
            refine own_go (st' := T45.setTop (mkF m 168 #[.val (.int c0), .val (.int dd), .val (.int d2), .val (.int qq), .val (.int fl), .val (.int qa), .val (.ref b2), .val (.int (1 : Int32)), .val (.int dn), .val (.int pb), .val (.int (1 : Int32))] [])) (fun _ k => XS.istore X45.here hx rfl (hb hby at_166) rfl (l' := #[.val (.int c0), .val (.int dd), .val (.int d2), .val (.int qq), .val (.int fl), .val (.int qa), .val (.ref b2), .val (.int (1 : Int32)), .val (.int dn), .val (.int pb), .val (.int (1 : Int32))]) rfl k) ?_
            refine own_go (st' := T45.setTop (mkF m 170 #[.val (.int c0), .val (.int dd), .val (.int d2), .val (.int qq), .val (.int fl), .val (.int qa), .val (.ref b2), .val (.int (1 : Int32)), .val (.int dn), .val (.int pb), .val (.int (1 : Int32))] [(.int (1 : Int32))])) (fun _ k => XS.iload X45.here hx rfl (hb hby at_168) rfl k) ?_
            have hc52 : ¬ ((1 : Int32) = (0 : Int32)) := by decide
            refine own_go (st' := T45.setTop (mkF m 173 #[.val (.int c0), .val (.int dd), .val (.int d2), .val (.int qq), .val (.int fl), .val (.int qa), .val (.ref b2), .val (.int (1 : Int32)), .val (.int dn), .val (.int pb), .val (.int (1 : Int32))] [])) (fun _ k => XS.ifNo X45.here hx rfl (hb hby at_170) rfl ((if0 _ _).trans (feq hc52).1) k) ?_
            refine own_go (st' := T45.setTop (mkF m 175 #[.val (.int c0), .val (.int dd), .val (.int d2), .val (.int qq), .val (.int fl), .val (.int qa), .val (.ref b2), .val (.int (1 : Int32)), .val (.int dn), .val (.int pb), .val (.int (1 : Int32))] [(.int (1 : Int32))])) (fun _ k => XS.iload X45.here hx rfl (hb hby at_173) rfl k) ?_
            have hc53 : ¬ ((1 : Int32) = (0 : Int32)) := by decide
            refine own_go (st' := T45.setTop (mkF m 178 #[.val (.int c0), .val (.int dd), .val (.int d2), .val (.int qq), .val (.int fl), .val (.int qa), .val (.ref b2), .val (.int (1 : Int32)), .val (.int dn), .val (.int pb), .val (.int (1 : Int32))] [])) (fun _ k => XS.ifNo X45.here hx rfl (hb hby at_175) rfl ((if0 _ _).trans (feq hc53).1) k) ?_
            refine own_go (st' := T45.setTop (mkF m 179 #[.val (.int c0), .val (.int dd), .val (.int d2), .val (.int qq), .val (.int fl), .val (.int qa), .val (.ref b2), .val (.int (1 : Int32)), .val (.int dn), .val (.int pb), .val (.int (1 : Int32))] [(.int (1 : Int32))])) (fun _ k => XS.iconst X45.here hx rfl (hb hby at_178) k) ?_
            refine own_go (st' := T45.setTop (mkF m 183 #[.val (.int c0), .val (.int dd), .val (.int d2), .val (.int qq), .val (.int fl), .val (.int qa), .val (.ref b2), .val (.int (1 : Int32)), .val (.int dn), .val (.int pb), .val (.int (1 : Int32))] [(.int (1 : Int32))])) (fun _ k => XS.goto X45.here hx rfl (pc0 := 179) (pc' := 183) rfl (hb hby at_179) (by decide) (by decide) k) ?_
            obtain ⟨fs, hr, hrun, hended, hW, hsame⟩ := X45.leave (v := some (.int (1 : Int32))) (fun h => by rw [Bd.returns] at h; cases h)
            refine ⟨_, _, ?_, hP _ _ hrun hended ⟨_, _, rfl, ?_, ⟨_, rfl⟩, hW, hsame.mono (by decide) (by decide)⟩⟩
            · exact retN X45 hx (t := .boolean) Bd.returns (by simp) (hb hby at_183) hr
            · show Qrm0 Z c0 dd d2 qq fl a__VALUES a_RED a_LARGE a_MEDIUM a_SMALL k_a__VALUES h0 n0 _ T45.heap _
              rw [eq45]
              exact ⟨rfl, N45, trivial⟩
      refine own_go (st' := Tj25.setTop (mkF m 96 #[.val (.int c0), .val (.int dd), .val (.int d2), .val (.int qq), .val (.int fl), .val (.int qa), .val (.ref b2), .val (.int (1 : Int32)), .val (.int dn), .unset, .unset] [(.int fl)])) (fun _ k => XS.iload Xj25.here hx rfl (hb hby at_94) rfl k) ?_
      refine own_go (st' := Tj25.setTop (mkF m 97 #[.val (.int c0), .val (.int dd), .val (.int d2), .val (.int qq), .val (.int fl), .val (.int qa), .val (.ref b2), .val (.int (1 : Int32)), .val (.int dn), .unset, .unset] [(.int (2 : Int32)), (.int fl)])) (fun _ k => XS.iconst Xj25.here hx rfl (hb hby at_96) k) ?_
      refine own_go (st' := Tj25.setTop (mkF m 98 #[.val (.int c0), .val (.int dd), .val (.int d2), .val (.int qq), .val (.int fl), .val (.int qa), .val (.ref b2), .val (.int (1 : Int32)), .val (.int dn), .unset, .unset] [(.int (fl &&& (2 : Int32)))])) (fun _ k => XS.iand Xj25.here hx rfl (hb hby at_97) rfl k) ?_
      by_cases hc55 : (fl &&& (2 : Int32)) = (0 : Int32)
      · --
        refine own_go (st' := Tj25.setTop (mkF m 106 #[.val (.int c0), .val (.int dd), .val (.int d2), .val (.int qq), .val (.int fl), .val (.int qa), .val (.ref b2), .val (.int (1 : Int32)), .val (.int dn), .unset, .unset] [])) (fun _ k => XS.ifYes Xj25.here hx rfl (pc0 := 98) (pc' := 106) rfl (hb hby at_98) rfl ((if0 _ _).trans (teq hc55).1) (by decide) (by decide) k) ?_
        refine own_go (st' := Tj25.setTop (mkF m 107 #[.val (.int c0), .val (.int dd), .val (.int d2), .val (.int qq), .val (.int fl), .val (.int qa), .val (.ref b2), .val (.int (1 : Int32)), .val (.int dn), .unset, .unset] [(.int qq)])) (fun _ k => XS.iloadN Xj25.here hx rfl (hb hby at_106) rfl k) ?_
        exact J107_26 _ _ qq Xj25 ej25 Nj25
      · --
        refine own_go (st' := Tj25.setTop (mkF m 101 #[.val (.int c0), .val (.int dd), .val (.int d2), .val (.int qq), .val (.int fl), .val (.int qa), .val (.ref b2), .val (.int (1 : Int32)), .val (.int dn), .unset, .unset] [])) (fun _ k => XS.ifNo Xj25.here hx rfl (hb hby at_98) rfl ((if0 _ _).trans (feq hc55).1) k) ?_
        refine own_go (st' := Tj25.setTop (mkF m 103 #[.val (.int c0), .val (.int dd), .val (.int d2), .val (.int qq), .val (.int fl), .val (.int qa), .val (.ref b2), .val (.int (1 : Int32)), .val (.int dn), .unset, .unset] [(.int dn)])) (fun _ k => XS.iload Xj25.here hx rfl (hb hby at_101) rfl k) ?_
        refine own_go (st' := Tj25.setTop (mkF m 107 #[.val (.int c0), .val (.int dd), .val (.int d2), .val (.int qq), .val (.int fl), .val (.int qa), .val (.ref b2), .val (.int (1 : Int32)), .val (.int dn), .unset, .unset] [(.int dn)])) (fun _ k => XS.goto Xj25.here hx rfl (pc0 := 103) (pc' := 107) rfl (hb hby at_103) (by decide) (by decide) k) ?_
        exact J107_26 _ _ dn Xj25 ej25 Nj25
    refine own_go (st' := T24.setTop (mkF m 80 #[.val (.int c0), .val (.int dd), .val (.int d2), .val (.int qq), .val (.int fl), .val (.int qa), .val (.ref b2), .val (.int (1 : Int32)), .val (.int dd), .unset, .unset] [(.int fl)])) (fun _ k => XS.iload X24.here hx rfl (hb hby at_78) rfl k) ?_
    refine own_go (st' := T24.setTop (mkF m 81 #[.val (.int c0), .val (.int dd), .val (.int d2), .val (.int qq), .val (.int fl), .val (.int qa), .val (.ref b2), .val (.int (1 : Int32)), .val (.int dd), .unset, .unset] [(.int (1 : Int32)), (.int fl)])) (fun _ k => XS.iconst X24.here hx rfl (hb hby at_80) k) ?_
    refine own_go (st' := T24.setTop (mkF m 82 #[.val (.int c0), .val (.int dd), .val (.int d2), .val (.int qq), .val (.int fl), .val (.int qa), .val (.ref b2), .val (.int (1 : Int32)), .val (.int dd), .unset, .unset] [(.int (fl &&& (1 : Int32)))])) (fun _ k => XS.iand X24.here hx rfl (hb hby at_81) rfl k) ?_
    by_cases hc56 : (fl &&& (1 : Int32)) = (0 : Int32)
    · --
      refine own_go (st' := T24.setTop (mkF m 94 #[.val (.int c0), .val (.int dd), .val (.int d2), .val (.int qq), .val (.int fl), .val (.int qa), .val (.ref b2), .val (.int (1 : Int32)), .val (.int dd), .unset, .unset] [])) (fun _ k => XS.ifYes X24.here hx rfl (pc0 := 82) (pc' := 94) rfl (hb hby at_82) rfl ((if0 _ _).trans (teq hc56).1) (by decide) (by decide) k) ?_
      exact J94_25 _ _ _ dd X24 e24 N24 (by omega) g24_0 g24_1
    · --
      refine own_go (st' := T24.setTop (mkF m 85 #[.val (.int c0), .val (.int dd), .val (.int d2), .val (.int qq), .val (.int fl), .val (.int qa), .val (.ref b2), .val (.int (1 : Int32)), .val (.int dd), .unset, .unset] [])) (fun _ k => XS.ifNo X24.here hx rfl (hb hby at_82) rfl ((if0 _ _).trans (feq hc56).1) k) ?_
      refine own_go (st' := T24.setTop (mkF m 87 #[.val (.int c0), .val (.int dd), .val (.int d2), .val (.int qq), .val (.int fl), .val (.int qa), .val (.ref b2), .val (.int (1 : Int32)), .val (.int dd), .unset, .unset] [(.ref b2)])) (fun _ k => XS.aload X24.here hx rfl (hb hby at_85) rfl rfl k) ?_
      refine own_go (st' := T24.setTop (mkF m 88 #[.val (.int c0), .val (.int dd), .val (.int d2), .val (.int qq), .val (.int fl), .val (.int qa), .val (.ref b2), .val (.int (1 : Int32)), .val (.int dd), .unset, .unset] [(.int d2), (.ref b2)])) (fun _ k => XS.iloadN X24.here hx rfl (hb hby at_87) rfl k) ?_
      obtain ⟨cq57, kq57, q57a, q57b, q57c⟩ := isOf hZ e24 g24_0
      obtain ⟨_, _, ⟨T57, LC57, kC57, nC57⟩, -, X57, ⟨Lc57, hQ57, lq57, yq57, zq57⟩, st57⟩ := X24.virtualBack hx (y := (⟨"com/example/glimmerboard/glimmerboard/forager/Family", "makeDen", "(I)V"⟩ : MethodName)) (z := (⟨"com/example/glimmerboard/glimmerboard/forager/Family", "makeDen", "(I)V"⟩ : MethodName)) hown (mvT hZ (hw _ (List.mem_of_getElem? (i := 47) rfl))) (mvT hZ (hw _ (List.mem_of_getElem? (i := 48) rfl))) (notFace_of_selects (args := #[]) (mvT hZ (hw _ (List.mem_of_getElem? (i := 50) rfl)))) (mvT hZ (hw _ (List.mem_of_getElem? (i := 50) rfl))) (mvT hZ (hw _ (List.mem_of_getElem? (i := 49) rfl))) (by decide) (backOf (W := 0) (rm5 l Z a0 hw [] b2 d2 dd h24 n0 (by omega) g24_0 g24_1 (by omega)) hZ (hw _ (List.mem_of_getElem? (i := 51) rfl)) (hw _ (List.mem_of_getElem? (i := 2) rfl)) (by decide) (by decide)) q57a q57c (g := (mkF m 88 #[.val (.int c0), .val (.int dd), .val (.int d2), .val (.int qq), .val (.int fl), .val (.int qa), .val (.ref b2), .val (.int (1 : Int32)), .val (.int dd), .unset, .unset] [(.int d2), (.ref b2)])) rfl (by rw [hml]; rfl) (Steps.refl _) (argsL := [(.int d2)]) (rest := []) (lenOf pd_3 rfl) rfl (by show 2 * 0 + _ ≤ _; exact Nat.le_of_eq rfl) (hb hby at_88) (fun _ _ => ⟨rfl, e24, (by decide : 4 + 0 ≤ _), (by decide : 13 + 0 ≤ _)⟩)
      dsimp only [Pt.U, Pt.locs, Pt.cells, Pt.slots] at X57 lq57 yq57 zq57 st57 hQ57
      subst lq57 yq57 zq57
      obtain ⟨h57, e57⟩ : ∃ z, T57.heap = z := ⟨_, rfl⟩
      rw [e57] at hQ57
      obtain ⟨rfl, Nq57, K57, g57_0, g57_1⟩ := hQ57
      have sz57 : h24.size ≤ h57.size := K57.1
      have N57 := Fr.app N24 Nq57
      have lt57_1 : @LT.lt Nat _ b2 h57.size := g57_0.lt
      refine own_go (st' := T57.setTop (mkF m 91 #[.val (.int c0), .val (.int dd), .val (.int d2), .val (.int qq), .val (.int fl), .val (.int qa), .val (.ref b2), .val (.int (1 : Int32)), .val (.int dd), .unset, .unset] [])) (fun _ k => st57.trans k) ?_
      refine own_go (st' := T57.setTop (mkF m 92 #[.val (.int c0), .val (.int dd), .val (.int d2), .val (.int qq), .val (.int fl), .val (.int qa), .val (.ref b2), .val (.int (1 : Int32)), .val (.int dd), .unset, .unset] [(.int d2)])) (fun _ k => XS.iloadN X57.here hx rfl (hb hby at_91) rfl k) ?_
      refine own_go (st' := T57.setTop (mkF m 94 #[.val (.int c0), .val (.int dd), .val (.int d2), .val (.int qq), .val (.int fl), .val (.int qa), .val (.ref b2), .val (.int (1 : Int32)), .val (.int d2), .unset, .unset] [])) (fun _ k => XS.istore X57.here hx rfl (hb hby at_92) rfl (l' := #[.val (.int c0), .val (.int dd), .val (.int d2), .val (.int qq), .val (.int fl), .val (.int qa), .val (.ref b2), .val (.int (1 : Int32)), .val (.int d2), .unset, .unset]) rfl k) ?_
      exact J94_25 _ _ _ d2 X57 e57 N57 (by omega) g57_0 g57_1
  refine own_go (st' := s₁.setTop (mkF m 1 #[.val (.int c0), .val (.int dd), .val (.int d2), .val (.int qq), .val (.int fl), .unset, .unset, .unset, .unset, .unset, .unset] [(.int qq)])) (fun _ k => XS.iloadN X0.here hx rfl (hb hby at_0) rfl k) ?_
  refine own_go (st' := s₁.setTop (mkF m 2 #[.val (.int c0), .val (.int dd), .val (.int d2), .val (.int qq), .val (.int fl), .unset, .unset, .unset, .unset, .unset, .unset] [(.int (-1 : Int32)), (.int qq)])) (fun _ k => XS.iconst X0.here hx rfl (hb hby at_1) k) ?_
  by_cases hc58 : qq < (-1 : Int32)
  · --
    refine own_go (st' := s₁.setTop (mkF m 9 #[.val (.int c0), .val (.int dd), .val (.int d2), .val (.int qq), .val (.int fl), .unset, .unset, .unset, .unset, .unset, .unset] [])) (fun _ k => XS.icmpYes X0.here hx rfl (pc0 := 2) (pc' := 9) rfl (hb hby at_2) rfl (tlt hc58).1 (by decide) (by decide) k) ?_
    refine own_go (st' := s₁.setTop (mkF m 10 #[.val (.int c0), .val (.int dd), .val (.int d2), .val (.int qq), .val (.int fl), .unset, .unset, .unset, .unset, .unset, .unset] [(.int qq)])) (fun _ k => XS.iloadN X0.here hx rfl (hb hby at_9) rfl k) ?_
    refine own_go (st' := s₁.setTop (mkF m 12 #[.val (.int c0), .val (.int dd), .val (.int d2), .val (.int qq), .val (.int fl), .unset, .unset, .unset, .unset, .unset, .unset] [(.int (2147483647 : Int32)), (.int qq)])) (X0.ldcInt hx hown (mvT hZ (hw _ (List.mem_of_getElem? (i := 52) rfl))) (g := (mkF m 10 #[.val (.int c0), .val (.int dd), .val (.int d2), .val (.int qq), .val (.int fl), .unset, .unset, .unset, .unset, .unset, .unset] [(.int qq)])) rfl (hb hby at_10)) ?_
    refine own_go (st' := s₁.setTop (mkF m 13 #[.val (.int c0), .val (.int dd), .val (.int d2), .val (.int qq), .val (.int fl), .unset, .unset, .unset, .unset, .unset, .unset] [(.int (qq &&& (2147483647 : Int32)))])) (fun _ k => XS.iand X0.here hx rfl (hb hby at_12) rfl k) ?_
    exact J13_1 _ _ (qq &&& (2147483647 : Int32)) X0 e0 N0 (own_q2 qq)
  · --
    refine own_go (st' := s₁.setTop (mkF m 5 #[.val (.int c0), .val (.int dd), .val (.int d2), .val (.int qq), .val (.int fl), .unset, .unset, .unset, .unset, .unset, .unset] [])) (fun _ k => XS.icmpNo X0.here hx rfl (hb hby at_2) rfl (flt hc58).1 k) ?_
    refine own_go (st' := s₁.setTop (mkF m 6 #[.val (.int c0), .val (.int dd), .val (.int d2), .val (.int qq), .val (.int fl), .unset, .unset, .unset, .unset, .unset, .unset] [(.int qq)])) (fun _ k => XS.iloadN X0.here hx rfl (hb hby at_5) rfl k) ?_
    refine own_go (st' := s₁.setTop (mkF m 13 #[.val (.int c0), .val (.int dd), .val (.int d2), .val (.int qq), .val (.int fl), .unset, .unset, .unset, .unset, .unset, .unset] [(.int qq)])) (fun _ k => XS.goto X0.here hx rfl (pc0 := 6) (pc' := 13) rfl (hb hby at_6) (by decide) (by decide) k) ?_
    exact J13_1 _ _ qq X0 e0 N0 (own_q qq hc58)
set_option maxRecDepth 65536 in
set_option maxHeartbeats 40000000 in
theorem comes_1 {Post : Tables → Env → Array Value → State → Outcome → State → Prop} (hpost : ∀ tb e args s v u, (limb_1_1.after args s (.returned v) u = true ∧ limb_1_2.after args s (.returned v) u = true ∧ True) → FrameEnd s (.returned v) u (Jvm.fieldLocs frame_1_writes args s ++ Jvm.arrayLocs frame_1_arrays args s ++ Jvm.staticLocs frame_1_statics s) 16 128 → Post tb e args s (.returned v) u) :
    ArmFor flags0 classFile x code maxLocals ret World_1 tables_1 room_1 Calls_1 rest_1 Pre_1 Post := by
  intro l hfl _ _ p e ha hc hk s m args below hf hA hF happ hP
  obtain ⟨hcalls, hrest, hpre⟩ := hP
  obtain ⟨-, -, -, hnamed, -, -, -, hat⟩ := (Spec.applies_iff hf).mp happ
  obtain ⟨hg, hn⟩ := and_e (Cond.before_iff.mp (show (Jvm.Cond.and given_1 narrow_1).before args s = true from hpre))
  obtain ⟨h1, h2⟩ := and_e hg
  obtain ⟨w0, w1, w2, w3, w4, rfl⟩ : ∃ w0 w1 w2 w3 w4 : Value, args = #[w0, w1, w2, w3, w4] := by
    have hs : args.size = 5 := by simpa [Cond.value, given_1] using h1
    obtain ⟨L⟩ := args
    match L, hs with
    | [w0, w1, w2, w3, w4], _ => exact ⟨w0, w1, w2, w3, w4, rfl⟩
  have hw := fun d (hd : d ∈ tables_1) => atoms_spec (ws := Jvm.Cond.code x code maxLocals ret :: tables_1) hat d (List.mem_cons_of_mem _ hd)
  have hfit : Fit s := fun {y c} hc i hi => by
    obtain ⟨ha, rfl⟩ := Array.getElem?_eq_some_iff.mp hc
    have q := List.all_eq_true.mp ((Array.all_eq_true_iff_forall_mem.mp hF) _ (Array.getElem_mem ha)) i (List.mem_range.mpr hi)
    simpa [Array.getElem?_eq_getElem hi] using q
  obtain ⟨ha0, hr0⟩ := and_e h2
  obtain ⟨c0, ev0⟩ := is_v ha0
  obtain rfl : w0 = (.int c0) := Option.some.inj ev0
  obtain ⟨ha1, hr1⟩ := and_e hr0
  obtain ⟨dd, ev1⟩ := is_v ha1
  obtain rfl : w1 = (.int dd) := Option.some.inj ev1
  obtain ⟨ha2, hr2⟩ := and_e hr1
  obtain ⟨d2, ev2⟩ := is_v ha2
  obtain rfl : w2 = (.int d2) := Option.some.inj ev2
  obtain ⟨ha3, hr3⟩ := and_e hr2
  obtain ⟨qq, ev3⟩ := is_v ha3
  obtain rfl : w3 = (.int qq) := Option.some.inj ev3
  obtain ⟨fl, ev4⟩ := is_v hr3
  obtain rfl : w4 = (.int fl) := Option.some.inj ev4
  obtain ⟨nw0, nr0⟩ := and_e hn
  obtain ⟨nw1, nr1⟩ := and_e nr0
  obtain ⟨nw2, nr2⟩ := and_e nr1
  obtain ⟨nw3, nr3⟩ := and_e nr2
  obtain ⟨nw4, nr4⟩ := and_e nr3
  obtain ⟨nw5, nr5⟩ := and_e nr4
  obtain ⟨nw6, nr6⟩ := and_e nr5
  obtain ⟨nw7, nr7⟩ := and_e nr6
  obtain ⟨nw8, nr8⟩ := and_e nr7
  have nw9 := nr8
  obtain ⟨a__VALUES, ea__VALUES⟩ := arr_v nw1
  have sa__VALUES : Sta s s.heap "com/example/glimmerboard/glimmerboard/forager/Size" "$VALUES" "[Lcom/example/glimmerboard/glimmerboard/forager/Size;" (.ref a__VALUES) := Sta.start ea__VALUES (Or.inr ⟨(hw _ (List.mem_of_getElem? (i := 15) rfl)), (hw _ (List.mem_of_getElem? (i := 18) rfl))⟩)
  obtain ⟨cla__VALUES, Ara__VALUES⟩ := Arr.start ea__VALUES nw1
  obtain ⟨a_RED, ea_RED⟩ := exa_v nw0
  have sa_RED : Sta s s.heap "com/example/glimmerboard/glimmerboard/forager/Colour" "RED" "Lcom/example/glimmerboard/glimmerboard/forager/Colour;" (.ref a_RED) := Sta.start ea_RED (Or.inr ⟨(hw _ (List.mem_of_getElem? (i := 4) rfl)), (hw _ (List.mem_of_getElem? (i := 5) rfl))⟩)
  have xa_RED : Exa s s.heap a_RED "com/example/glimmerboard/glimmerboard/forager/Colour" := Exa.start ea_RED nw0
  have xa__VALUES : Exa s s.heap a__VALUES "[Lcom/example/glimmerboard/glimmerboard/forager/Size;" := Exa.start ea__VALUES nw2
  obtain ⟨a_LARGE, ea_LARGE⟩ := exa_v nw4
  have sa_LARGE : Sta s s.heap "com/example/glimmerboard/glimmerboard/forager/Size" "LARGE" "Lcom/example/glimmerboard/glimmerboard/forager/Size;" (.ref a_LARGE) := Sta.start ea_LARGE (Or.inr ⟨(hw _ (List.mem_of_getElem? (i := 15) rfl)), (hw _ (List.mem_of_getElem? (i := 26) rfl))⟩)
  have xa_LARGE : Exa s s.heap a_LARGE "com/example/glimmerboard/glimmerboard/forager/Size" := Exa.start ea_LARGE nw4
  obtain ⟨a_MEDIUM, ea_MEDIUM⟩ := exa_v nw6
  have sa_MEDIUM : Sta s s.heap "com/example/glimmerboard/glimmerboard/forager/Size" "MEDIUM" "Lcom/example/glimmerboard/glimmerboard/forager/Size;" (.ref a_MEDIUM) := Sta.start ea_MEDIUM (Or.inr ⟨(hw _ (List.mem_of_getElem? (i := 15) rfl)), (hw _ (List.mem_of_getElem? (i := 27) rfl))⟩)
  have xa_MEDIUM : Exa s s.heap a_MEDIUM "com/example/glimmerboard/glimmerboard/forager/Size" := Exa.start ea_MEDIUM nw6
  obtain ⟨a_SMALL, ea_SMALL⟩ := exa_v nw8
  have sa_SMALL : Sta s s.heap "com/example/glimmerboard/glimmerboard/forager/Size" "SMALL" "Lcom/example/glimmerboard/glimmerboard/forager/Size;" (.ref a_SMALL) := Sta.start ea_SMALL (Or.inr ⟨(hw _ (List.mem_of_getElem? (i := 15) rfl)), (hw _ (List.mem_of_getElem? (i := 28) rfl))⟩)
  have xa_SMALL : Exa s s.heap a_SMALL "com/example/glimmerboard/glimmerboard/forager/Size" := Exa.start ea_SMALL nw8
  have lna__VALUES := own_len ea__VALUES Ara__VALUES.1 nw3
  have ela__VALUES_0 := own_elem ea__VALUES Ara__VALUES.1 ea_LARGE nw5
  have ela__VALUES_1 := own_elem ea__VALUES Ara__VALUES.1 ea_MEDIUM nw7
  have ela__VALUES_2 := own_elem ea__VALUES Ara__VALUES.1 ea_SMALL nw9
  have va__VALUES : Arv s s.heap a__VALUES cla__VALUES.cls (.object "com/example/glimmerboard/glimmerboard/forager/Size") (3 : Int32) [(.ref a_LARGE), (.ref a_MEDIUM), (.ref a_SMALL)] .null := Arv.start hfit Ara__VALUES lna__VALUES.1 lna__VALUES.2 (by decide) rfl ⟨ela__VALUES_0, ela__VALUES_1, ela__VALUES_2, trivial⟩
  obtain ⟨n, o, h1, h2, h3, _, L, rfl, hQ, hq⟩ := rm0 l s _ hw tables_1 c0 dd d2 qq fl a__VALUES a_RED a_LARGE a_MEDIUM a_SMALL cla__VALUES.cls s.heap s.heap.size (Nat.le_refl _) sa__VALUES sa_RED xa_RED xa__VALUES sa_LARGE xa_LARGE sa_MEDIUM xa_MEDIUM sa_SMALL xa_SMALL va__VALUES p e ha hc hk s m _ below hf ((Spec.applies_iff_loose hf).mp happ).1 ⟨rfl, State.Warmed39.refl s, rfl⟩ trivial
  obtain ⟨rfl, N, -⟩ := hQ
  refine ⟨n, _, h1, h2, h3, hpost _ _ _ _ _ _ ⟨Cond.after_iff.mpr rfl, Cond.after_iff.mpr (eq_i res_at (Term.int_eval (1)) rfl), trivial⟩ ⟨hq.1, hq.2.1, (hq.2.2.sift fun y hy => Or.inr (N y hy)).mono (by decide) (by decide)⟩⟩
theorem main_1_1 : Claimed_1_1 := comes_1 fun _ _ _ _ _ _ h hF => ⟨h.1, hF⟩
theorem main_1_2 : Claimed_1_2 := comes_1 fun _ _ _ _ _ _ h hF => ⟨h.2.1, hF⟩
end Jvm.Pilot.@@N@@
namespace Jvm.Pilot.@@N@@
open Jvm Jvm.ClassFile Sem Op Lib Jvm.Free Jvm.Stand Jvm.Pilot.@@N@@.Jvm.D
/-! MADE BY PROGRAM (witnessworld.py) out of the Statement's table words and the real class files: 16 classes; the members and pool entries that the words name. The judged class is class 1, her method 1. -/
namespace start1
open Jvm.ClassFile
def u (s : String) : CpInfo := .utf8 (stringToUtf16 s)
/-- a pool by its gaps: so many unusable entries, then the entry; so many at the end -/
def gap : Nat → List CpInfo → List CpInfo
  | 0, r => r
  | n + 1, r => .unusable :: gap n r
def poolList (es : List (Nat × CpInfo)) (last : Nat) : List CpInfo := es.foldr (fun e r => gap e.1 (e.2 :: r)) (gap last [])
def pool (es : List (Nat × CpInfo)) (last : Nat) : Array CpInfo := ⟨poolList es last⟩
def fileOf (pool : Array CpInfo) (this : Nat) (attrs : Array Attribute := #[]) (ms : Array MethodInfo := #[]) (fl : Nat := 33) (sup : Nat := 0) (ifs : Array Nat := #[]) (fds : Array FieldInfo := #[]) : ClassFile where
  minorVersion := 0
  majorVersion := 65
  constantPool := pool
  accessFlags := fl
  thisClass := this
  superClass := sup
  interfaces := ifs
  fields := fds
  methods := ms
  attributes := attrs
def plain (name : String) (sup : Option ClassId) : Class where
  name := name
  kind := .ordinary
  loader := none
  accessFlags := 33
  super := sup
  interfaces := #[]
  cf := none
  fields := #[]
  methods := #[]
  instanceTypes := #[]
  staticTypes := #[]
  resolved := #[]
  callSites := []
  init := .initialized
  statics := none
  mirror := none

def pool0 : Array CpInfo := pool [(5, u "<init>"), (0, u "()V"), (1, .class_ 10), (1, u "java/lang/Object"), (85, u "clone"), (0, u "()Ljava/lang/Object;")] 26

def k0c0 : Code := { maxStack := 0, maxLocals := 1, code := object_method_1_code, exceptionTable := #[], attributes := #[] }
def k0m0 : Method := { name := "<init>", desc := "()V", sig := { parameters := [], returnType := none }, accessFlags := 1, code := some k0c0 }
def k0m1 : Method := { name := "clone", desc := "()Ljava/lang/Object;", sig := { parameters := [], returnType := some (.object "java/lang/Object") }, accessFlags := 260, code := none }
/-- java/lang/Object -/
def k0 : Class := { plain "java/lang/Object" none with
  accessFlags := 33
  interfaces := #[]
  cf := some (fileOf pool0 8 #[] #[{ accessFlags := 1, nameIndex := 5, descriptorIndex := 6, attributes := #[] }, { accessFlags := 260, nameIndex := 96, descriptorIndex := 97, attributes := #[] }] 33 0 #[] #[])
  fields := #[]
  methods := #[k0m0, k0m1]
  instanceTypes := #[]
  staticTypes := #[]
  resolved := Array.replicate 124 none
  statics := none }

def pool1 : Array CpInfo := pool [(2, .class_ 4), (1, u "java/lang/Object"), (0, u "<init>"), (0, u "()V"), (0, .integer 2147483647), (0, .class_ 9), (0, u "com/example/glimmerboard/glimmerboard/forager/Family"), (0, .fieldref 11 12), (0, .class_ 13), (0, .nameAndType 14 15), (0, u "com/example/glimmerboard/glimmerboard/forager/Colour"), (0, u "RED"), (0, u "Lcom/example/glimmerboard/glimmerboard/forager/Colour;"), (0, .methodref 8 17), (0, .nameAndType 5 18), (0, u "(Lcom/example/glimmerboard/glimmerboard/forager/Colour;[I)V"), (0, .methodref 8 20), (0, .nameAndType 21 22), (0, u "denOn"), (0, u "(I)Z"), (0, .methodref 8 24), (0, .nameAndType 25 26), (0, u "makeDen"), (0, u "(I)V"), (0, .class_ 28), (0, u "com/example/glimmerboard/glimmerboard/forager/FamilyDenOnPinLaw"), (2, u "law"), (0, u "(IIIII)Z")] 3

def k1m0 : Method := { name := "<init>", desc := "()V", sig := { parameters := [], returnType := none }, accessFlags := 2, code := none }
def k1c1 : Code := { maxStack := 7, maxLocals := 11, code := code, exceptionTable := #[], attributes := #[] }
def k1m1 : Method := { name := "law", desc := "(IIIII)Z", sig := { parameters := [.int, .int, .int, .int, .int], returnType := some .boolean }, accessFlags := 9, code := some k1c1 }
/-- com/example/glimmerboard/glimmerboard/forager/FamilyDenOnPinLaw -/
def k1 : Class := { plain "com/example/glimmerboard/glimmerboard/forager/FamilyDenOnPinLaw" (some 0) with
  accessFlags := 49
  interfaces := #[]
  cf := some (fileOf pool1 27 #[] #[{ accessFlags := 2, nameIndex := 5, descriptorIndex := 6, attributes := #[] }, { accessFlags := 9, nameIndex := 31, descriptorIndex := 32, attributes := #[] }] 49 2 #[] #[])
  fields := #[]
  methods := #[k1m0, k1m1]
  instanceTypes := #[]
  staticTypes := #[]
  resolved := Array.replicate 36 none
  statics := none }

def pool2 : Array CpInfo := pool [(1, .methodref 2 3), (0, .class_ 4), (0, .nameAndType 5 6), (0, u "java/lang/Object"), (0, u "<init>"), (0, u "()V"), (0, .methodref 8 9), (0, .class_ 10), (0, .nameAndType 11 12), (0, u "com/example/glimmerboard/glimmerboard/forager/Size"), (0, u "values"), (0, u "()[Lcom/example/glimmerboard/glimmerboard/forager/Size;"), (0, .fieldref 14 15), (0, .class_ 16), (0, .nameAndType 17 18), (0, u "com/example/glimmerboard/glimmerboard/forager/Family"), (0, u "cells"), (0, u "[I"), (0, .fieldref 14 20), (0, .nameAndType 21 22), (0, u "den"), (0, u "I"), (0, .fieldref 14 24), (0, .nameAndType 25 26), (0, u "colour"), (0, u "Lcom/example/glimmerboard/glimmerboard/forager/Colour;"), (0, .methodref 28 29), (0, .class_ 30), (0, .nameAndType 31 32), (0, u "java/lang/System"), (0, u "arraycopy"), (0, u "(Ljava/lang/Object;ILjava/lang/Object;II)V"), (2, u "(Lcom/example/glimmerboard/glimmerboard/forager/Colour;[I)V"), (2, u "eaten"), (27, u "Ljava/lang/String;"), (28, u "HOME"), (2, u "HOME_WORD"), (0, u "NO_DEN"), (13, u "denOn"), (0, u "(I)Z"), (0, u "makeDen"), (0, u "(I)V")] 27

def k2c0 : Code := { maxStack := 5, maxLocals := 3, code := prog_17_method_1_code, exceptionTable := #[], attributes := #[] }
def k2m0 : Method := { name := "<init>", desc := "(Lcom/example/glimmerboard/glimmerboard/forager/Colour;[I)V", sig := { parameters := [(.object "com/example/glimmerboard/glimmerboard/forager/Colour"), (.array .int)], returnType := none }, accessFlags := 0, code := some k2c0 }
def k2c1 : Code := { maxStack := 2, maxLocals := 2, code := prog_17_method_9_code, exceptionTable := #[], attributes := #[] }
def k2m1 : Method := { name := "denOn", desc := "(I)Z", sig := { parameters := [.int], returnType := some .boolean }, accessFlags := 0, code := some k2c1 }
def k2c2 : Code := { maxStack := 2, maxLocals := 2, code := prog_17_method_11_code, exceptionTable := #[], attributes := #[] }
def k2m2 : Method := { name := "makeDen", desc := "(I)V", sig := { parameters := [.int], returnType := none }, accessFlags := 0, code := some k2c2 }
/-- com/example/glimmerboard/glimmerboard/forager/Family -/
def k2 : Class := { plain "com/example/glimmerboard/glimmerboard/forager/Family" (some 0) with
  accessFlags := 48
  interfaces := #[]
  cf := some (fileOf pool2 14 #[] #[{ accessFlags := 0, nameIndex := 5, descriptorIndex := 35, attributes := #[] }, { accessFlags := 0, nameIndex := 113, descriptorIndex := 114, attributes := #[] }, { accessFlags := 0, nameIndex := 115, descriptorIndex := 116, attributes := #[] }] 48 2 #[] #[{ accessFlags := 24, nameIndex := 95, descriptorIndex := 22, attributes := #[] }, { accessFlags := 26, nameIndex := 98, descriptorIndex := 66, attributes := #[] }, { accessFlags := 26, nameIndex := 99, descriptorIndex := 22, attributes := #[] }, { accessFlags := 16, nameIndex := 25, descriptorIndex := 26, attributes := #[] }, { accessFlags := 18, nameIndex := 17, descriptorIndex := 18, attributes := #[] }, { accessFlags := 2, nameIndex := 38, descriptorIndex := 22, attributes := #[] }, { accessFlags := 2, nameIndex := 21, descriptorIndex := 22, attributes := #[] }])
  fields := #[{ name := "HOME", type := .int, accessFlags := 24, slot := 0, constantValue := 0 }, { name := "HOME_WORD", type := (.object "java/lang/String"), accessFlags := 26, slot := 1, constantValue := 0 }, { name := "NO_DEN", type := .int, accessFlags := 26, slot := 2, constantValue := 0 }, { name := "colour", type := (.object "com/example/glimmerboard/glimmerboard/forager/Colour"), accessFlags := 16, slot := 0, constantValue := 0 }, { name := "cells", type := (.array .int), accessFlags := 18, slot := 1, constantValue := 0 }, { name := "eaten", type := .int, accessFlags := 2, slot := 2, constantValue := 0 }, { name := "den", type := .int, accessFlags := 2, slot := 3, constantValue := 0 }]
  methods := #[k2m0, k2m1, k2m2]
  instanceTypes := #[(.object "com/example/glimmerboard/glimmerboard/forager/Colour"), (.array .int), .int, .int]
  staticTypes := #[.int, (.object "java/lang/String"), .int]
  resolved := Array.replicate 144 none
  statics := none }

def pool3 : Array CpInfo := pool [(1, .class_ 2), (0, u "java/lang/constant/Constable"), (0, .class_ 4), (0, u "java/lang/Object")] 6

/-- java/lang/constant/Constable -/
def k3 : Class := { plain "java/lang/constant/Constable" (some 0) with
  accessFlags := 1537
  interfaces := #[]
  cf := some (fileOf pool3 1 #[] #[] 1537 3 #[] #[])
  fields := #[]
  methods := #[]
  instanceTypes := #[]
  staticTypes := #[]
  resolved := Array.replicate 11 none
  statics := none }

def pool4 : Array CpInfo := pool [(1, .class_ 2), (0, u "java/lang/Comparable"), (0, .class_ 4), (0, u "java/lang/Object")] 7

/-- java/lang/Comparable -/
def k4 : Class := { plain "java/lang/Comparable" (some 0) with
  accessFlags := 1537
  interfaces := #[]
  cf := some (fileOf pool4 1 #[] #[] 1537 3 #[] #[])
  fields := #[]
  methods := #[]
  instanceTypes := #[]
  staticTypes := #[]
  resolved := Array.replicate 12 none
  statics := none }

def pool5 : Array CpInfo := pool [(1, .class_ 2), (0, u "java/io/Serializable"), (0, .class_ 4), (0, u "java/lang/Object")] 2

/-- java/io/Serializable -/
def k5 : Class := { plain "java/io/Serializable" (some 0) with
  accessFlags := 1537
  interfaces := #[]
  cf := some (fileOf pool5 1 #[] #[] 1537 3 #[] #[])
  fields := #[]
  methods := #[]
  instanceTypes := #[]
  staticTypes := #[]
  resolved := Array.replicate 7 none
  statics := none }

def pool6 : Array CpInfo := pool [(2, .class_ 4), (1, u "java/lang/Enum"), (0, u "name"), (0, u "Ljava/lang/String;"), (2, u "ordinal"), (0, u "I"), (1, .class_ 14), (1, u "java/lang/Object"), (4, u "hash"), (86, .class_ 108), (1, u "java/lang/Enum$EnumDesc"), (2, .class_ 112), (0, u "java/lang/constant/Constable"), (0, .class_ 114), (0, u "java/lang/Comparable"), (0, .class_ 116), (0, u "java/io/Serializable")] 87

/-- java/lang/Enum -/
def k6 : Class := { plain "java/lang/Enum" (some 0) with
  accessFlags := 1057
  interfaces := #[3, 4, 5]
  cf := some (fileOf pool6 2 #[.nestMembers #[106]] #[] 1057 12 #[111, 113, 115] #[{ accessFlags := 18, nameIndex := 5, descriptorIndex := 6, attributes := #[] }, { accessFlags := 18, nameIndex := 9, descriptorIndex := 10, attributes := #[] }, { accessFlags := 2, nameIndex := 19, descriptorIndex := 10, attributes := #[] }])
  fields := #[{ name := "name", type := (.object "java/lang/String"), accessFlags := 18, slot := 0, constantValue := 0 }, { name := "ordinal", type := .int, accessFlags := 18, slot := 1, constantValue := 0 }, { name := "hash", type := .int, accessFlags := 2, slot := 2, constantValue := 0 }]
  methods := #[]
  instanceTypes := #[(.object "java/lang/String"), .int, .int]
  staticTypes := #[]
  resolved := Array.replicate 204 none
  statics := none }

def pool7 : Array CpInfo := pool [(1, .class_ 2), (0, u "com/example/glimmerboard/glimmerboard/forager/Colour"), (2, u "RED"), (0, u "Lcom/example/glimmerboard/glimmerboard/forager/Colour;"), (2, u "ORANGE"), (2, u "YELLOW"), (2, u "GREEN"), (2, u "BLUE"), (2, u "PURPLE"), (2, u "$VALUES"), (0, u "[Lcom/example/glimmerboard/glimmerboard/forager/Colour;"), (6, .class_ 34), (1, u "java/lang/Enum"), (24, u "word"), (0, u "Ljava/lang/String;"), (2, u "NAMES")] 103

/-- com/example/glimmerboard/glimmerboard/forager/Colour -/
def k7 : Class := { plain "com/example/glimmerboard/glimmerboard/forager/Colour" (some 6) with
  accessFlags := 16432
  interfaces := #[]
  cf := some (fileOf pool7 1 #[] #[] 16432 32 #[] #[{ accessFlags := 16409, nameIndex := 5, descriptorIndex := 6, attributes := #[] }, { accessFlags := 16409, nameIndex := 9, descriptorIndex := 6, attributes := #[] }, { accessFlags := 16409, nameIndex := 12, descriptorIndex := 6, attributes := #[] }, { accessFlags := 16409, nameIndex := 15, descriptorIndex := 6, attributes := #[] }, { accessFlags := 16409, nameIndex := 18, descriptorIndex := 6, attributes := #[] }, { accessFlags := 16409, nameIndex := 21, descriptorIndex := 6, attributes := #[] }, { accessFlags := 16, nameIndex := 59, descriptorIndex := 60, attributes := #[] }, { accessFlags := 24, nameIndex := 63, descriptorIndex := 60, attributes := #[] }, { accessFlags := 4122, nameIndex := 24, descriptorIndex := 25, attributes := #[] }])
  fields := #[{ name := "RED", type := (.object "com/example/glimmerboard/glimmerboard/forager/Colour"), accessFlags := 16409, slot := 0, constantValue := 0 }, { name := "ORANGE", type := (.object "com/example/glimmerboard/glimmerboard/forager/Colour"), accessFlags := 16409, slot := 1, constantValue := 0 }, { name := "YELLOW", type := (.object "com/example/glimmerboard/glimmerboard/forager/Colour"), accessFlags := 16409, slot := 2, constantValue := 0 }, { name := "GREEN", type := (.object "com/example/glimmerboard/glimmerboard/forager/Colour"), accessFlags := 16409, slot := 3, constantValue := 0 }, { name := "BLUE", type := (.object "com/example/glimmerboard/glimmerboard/forager/Colour"), accessFlags := 16409, slot := 4, constantValue := 0 }, { name := "PURPLE", type := (.object "com/example/glimmerboard/glimmerboard/forager/Colour"), accessFlags := 16409, slot := 5, constantValue := 0 }, { name := "word", type := (.object "java/lang/String"), accessFlags := 16, slot := 3, constantValue := 0 }, { name := "NAMES", type := (.object "java/lang/String"), accessFlags := 24, slot := 6, constantValue := 0 }, { name := "$VALUES", type := (.array (.object "com/example/glimmerboard/glimmerboard/forager/Colour")), accessFlags := 4122, slot := 7, constantValue := 0 }]
  methods := #[]
  instanceTypes := #[(.object "java/lang/String"), .int, .int, (.object "java/lang/String")]
  staticTypes := #[(.object "com/example/glimmerboard/glimmerboard/forager/Colour"), (.object "com/example/glimmerboard/glimmerboard/forager/Colour"), (.object "com/example/glimmerboard/glimmerboard/forager/Colour"), (.object "com/example/glimmerboard/glimmerboard/forager/Colour"), (.object "com/example/glimmerboard/glimmerboard/forager/Colour"), (.object "com/example/glimmerboard/glimmerboard/forager/Colour"), (.object "java/lang/String"), (.array (.object "com/example/glimmerboard/glimmerboard/forager/Colour"))]
  resolved := Array.replicate 167 none
  statics := some 0 }

def pool8 : Array CpInfo := pool [(1, .class_ 2), (0, u "com/example/glimmerboard/glimmerboard/forager/Size"), (2, u "LARGE"), (0, u "Lcom/example/glimmerboard/glimmerboard/forager/Size;"), (2, u "MEDIUM"), (2, u "SMALL"), (0, .fieldref 1 14), (0, .nameAndType 15 16), (0, u "$VALUES"), (0, u "[Lcom/example/glimmerboard/glimmerboard/forager/Size;"), (0, .methodref 18 19), (0, .class_ 16), (0, .nameAndType 20 21), (0, u "clone"), (0, u "()Ljava/lang/Object;"), (1, .class_ 25), (1, u "java/lang/Enum"), (24, u "word"), (0, u "Ljava/lang/String;"), (2, u "values"), (0, u "()[Lcom/example/glimmerboard/glimmerboard/forager/Size;")] 23

def k8c0 : Code := { maxStack := 1, maxLocals := 0, code := prog_28_method_1_code, exceptionTable := #[], attributes := #[] }
def k8m0 : Method := { name := "values", desc := "()[Lcom/example/glimmerboard/glimmerboard/forager/Size;", sig := { parameters := [], returnType := some (.array (.object "com/example/glimmerboard/glimmerboard/forager/Size")) }, accessFlags := 9, code := some k8c0 }
/-- com/example/glimmerboard/glimmerboard/forager/Size -/
def k8 : Class := { plain "com/example/glimmerboard/glimmerboard/forager/Size" (some 6) with
  accessFlags := 16432
  interfaces := #[]
  cf := some (fileOf pool8 1 #[] #[{ accessFlags := 9, nameIndex := 54, descriptorIndex := 55, attributes := #[] }] 16432 23 #[] #[{ accessFlags := 16409, nameIndex := 5, descriptorIndex := 6, attributes := #[] }, { accessFlags := 16409, nameIndex := 9, descriptorIndex := 6, attributes := #[] }, { accessFlags := 16409, nameIndex := 12, descriptorIndex := 6, attributes := #[] }, { accessFlags := 16, nameIndex := 50, descriptorIndex := 51, attributes := #[] }, { accessFlags := 4122, nameIndex := 15, descriptorIndex := 16, attributes := #[] }])
  fields := #[{ name := "LARGE", type := (.object "com/example/glimmerboard/glimmerboard/forager/Size"), accessFlags := 16409, slot := 0, constantValue := 0 }, { name := "MEDIUM", type := (.object "com/example/glimmerboard/glimmerboard/forager/Size"), accessFlags := 16409, slot := 1, constantValue := 0 }, { name := "SMALL", type := (.object "com/example/glimmerboard/glimmerboard/forager/Size"), accessFlags := 16409, slot := 2, constantValue := 0 }, { name := "word", type := (.object "java/lang/String"), accessFlags := 16, slot := 3, constantValue := 0 }, { name := "$VALUES", type := (.array (.object "com/example/glimmerboard/glimmerboard/forager/Size")), accessFlags := 4122, slot := 3, constantValue := 0 }]
  methods := #[k8m0]
  instanceTypes := #[(.object "java/lang/String"), .int, .int, (.object "java/lang/String")]
  staticTypes := #[(.object "com/example/glimmerboard/glimmerboard/forager/Size"), (.object "com/example/glimmerboard/glimmerboard/forager/Size"), (.object "com/example/glimmerboard/glimmerboard/forager/Size"), (.array (.object "com/example/glimmerboard/glimmerboard/forager/Size"))]
  resolved := Array.replicate 79 none
  statics := some 1 }

def pool9 : Array CpInfo := pool [(1, .class_ 2), (0, u "java/lang/Cloneable"), (0, .class_ 4), (0, u "java/lang/Object")] 2

/-- java/lang/Cloneable -/
def k9 : Class := { plain "java/lang/Cloneable" (some 0) with
  accessFlags := 1537
  interfaces := #[]
  cf := some (fileOf pool9 1 #[] #[] 1537 3 #[] #[])
  fields := #[]
  methods := #[]
  instanceTypes := #[]
  staticTypes := #[]
  resolved := Array.replicate 7 none
  statics := none }

def pool10 : Array CpInfo := pool [(2, .class_ 4), (1, u "java/lang/Object"), (0, u "<init>"), (0, u "()V"), (1, .class_ 10), (1, u "java/lang/System"), (0, u "allowSecurityManager"), (0, u "I"), (16, u "cons"), (0, u "Ljava/io/Console;"), (77, .class_ 110), (1, u "java/lang/System$CallersHolder"), (43, u "initialErrStream"), (0, u "Ljava/io/PrintStream;"), (19, u "security"), (0, u "Ljava/lang/SecurityManager;"), (31, .class_ 209), (0, u "java/lang/System$1"), (7, u "props"), (0, u "Ljava/util/Properties;"), (2, u "lineSeparator"), (0, u "Ljava/lang/String;"), (96, .class_ 321), (1, u "java/lang/System$LoggerFinder"), (5, .class_ 328), (0, u "java/lang/System$Logger"), (67, u "err"), (2, u "out"), (91, u "notSupportedJnuEncoding"), (15, u "in"), (17, u "initialIn"), (0, u "Ljava/io/InputStream;"), (35, u "bootLayer"), (0, u "Ljava/lang/ModuleLayer;"), (99, .class_ 664), (0, u "java/lang/System$2"), (9, u "NEVER"), (2, u "MAYBE"), (49, u "arraycopy"), (0, u "(Ljava/lang/Object;ILjava/lang/Object;II)V"), (72, .class_ 802), (0, u "java/lang/System$Logger$Level")] 31

def k10m0 : Method := { name := "<init>", desc := "()V", sig := { parameters := [], returnType := none }, accessFlags := 2, code := none }
def k10m1 : Method := { name := "arraycopy", desc := "(Ljava/lang/Object;ILjava/lang/Object;II)V", sig := { parameters := [(.object "java/lang/Object"), .int, (.object "java/lang/Object"), .int, .int], returnType := none }, accessFlags := 265, code := none }
/-- java/lang/System -/
def k10 : Class := { plain "java/lang/System" (some 0) with
  accessFlags := 49
  interfaces := #[]
  cf := some (fileOf pool10 8 #[.nestMembers #[319, 327, 801, 108, 663, 208]] #[{ accessFlags := 2, nameIndex := 5, descriptorIndex := 6, attributes := #[] }, { accessFlags := 265, nameIndex := 727, descriptorIndex := 728, attributes := #[] }] 49 2 #[] #[{ accessFlags := 25, nameIndex := 507, descriptorIndex := 526, attributes := #[] }, { accessFlags := 25, nameIndex := 399, descriptorIndex := 155, attributes := #[] }, { accessFlags := 25, nameIndex := 396, descriptorIndex := 155, attributes := #[] }, { accessFlags := 10, nameIndex := 525, descriptorIndex := 526, attributes := #[] }, { accessFlags := 26, nameIndex := 674, descriptorIndex := 12, attributes := #[] }, { accessFlags := 26, nameIndex := 677, descriptorIndex := 12, attributes := #[] }, { accessFlags := 10, nameIndex := 11, descriptorIndex := 12, attributes := #[] }, { accessFlags := 74, nameIndex := 175, descriptorIndex := 176, attributes := #[] }, { accessFlags := 10, nameIndex := 491, descriptorIndex := 222, attributes := #[] }, { accessFlags := 74, nameIndex := 29, descriptorIndex := 30, attributes := #[] }, { accessFlags := 74, nameIndex := 154, descriptorIndex := 155, attributes := #[] }, { accessFlags := 10, nameIndex := 217, descriptorIndex := 218, attributes := #[] }, { accessFlags := 10, nameIndex := 221, descriptorIndex := 222, attributes := #[] }, { accessFlags := 8, nameIndex := 562, descriptorIndex := 563, attributes := #[] }])
  fields := #[{ name := "in", type := (.object "java/io/InputStream"), accessFlags := 25, slot := 0, constantValue := 0 }, { name := "out", type := (.object "java/io/PrintStream"), accessFlags := 25, slot := 1, constantValue := 0 }, { name := "err", type := (.object "java/io/PrintStream"), accessFlags := 25, slot := 2, constantValue := 0 }, { name := "initialIn", type := (.object "java/io/InputStream"), accessFlags := 10, slot := 3, constantValue := 0 }, { name := "NEVER", type := .int, accessFlags := 26, slot := 4, constantValue := 0 }, { name := "MAYBE", type := .int, accessFlags := 26, slot := 5, constantValue := 0 }, { name := "allowSecurityManager", type := .int, accessFlags := 10, slot := 6, constantValue := 0 }, { name := "security", type := (.object "java/lang/SecurityManager"), accessFlags := 74, slot := 7, constantValue := 0 }, { name := "notSupportedJnuEncoding", type := (.object "java/lang/String"), accessFlags := 10, slot := 8, constantValue := 0 }, { name := "cons", type := (.object "java/io/Console"), accessFlags := 74, slot := 9, constantValue := 0 }, { name := "initialErrStream", type := (.object "java/io/PrintStream"), accessFlags := 74, slot := 10, constantValue := 0 }, { name := "props", type := (.object "java/util/Properties"), accessFlags := 10, slot := 11, constantValue := 0 }, { name := "lineSeparator", type := (.object "java/lang/String"), accessFlags := 10, slot := 12, constantValue := 0 }, { name := "bootLayer", type := (.object "java/lang/ModuleLayer"), accessFlags := 8, slot := 13, constantValue := 0 }]
  methods := #[k10m0, k10m1]
  instanceTypes := #[]
  staticTypes := #[(.object "java/io/InputStream"), (.object "java/io/PrintStream"), (.object "java/io/PrintStream"), (.object "java/io/InputStream"), .int, .int, .int, (.object "java/lang/SecurityManager"), (.object "java/lang/String"), (.object "java/io/Console"), (.object "java/io/PrintStream"), (.object "java/util/Properties"), (.object "java/lang/String"), (.object "java/lang/ModuleLayer")]
  resolved := Array.replicate 834 none
  statics := none }

/-- the primitive byte -/
def k11 : Class := { plain "byte" none with kind := .primitive 'B', accessFlags := 0x411 }
/-- [B -/
def k12 : Class := { plain "[B" (some 0) with kind := .array 11 .byte, interfaces := #[9, 5], accessFlags := 1041 }

/-- the primitive int -/
def k13 : Class := { plain "int" none with kind := .primitive 'I', accessFlags := 0x411 }
/-- [I -/
def k14 : Class := { plain "[I" (some 0) with kind := .array 13 .int, interfaces := #[9, 5], accessFlags := 1041 }

/-- [Lcom/example/glimmerboard/glimmerboard/forager/Size; -/
def k15 : Class := { plain "[Lcom/example/glimmerboard/glimmerboard/forager/Size;" (some 0) with kind := .array 8 (.object "com/example/glimmerboard/glimmerboard/forager/Size"), interfaces := #[9, 5], accessFlags := 1041 }

def heap : Heap := #[{ cls := 7, slots := #[.ref 6, .null, .null, .null, .null, .null, .null, .null], vm := .statics 7 },
  { cls := 8, slots := #[.ref 3, .ref 4, .ref 5, .ref 2], vm := .statics 8 },
  { cls := 15, slots := #[.ref 3, .ref 4, .ref 5], vm := .none },
  { cls := 8, slots := #[.null, .int 0, .int 0, .null], vm := .none },
  { cls := 8, slots := #[.null, .int 1, .int 0, .null], vm := .none },
  { cls := 8, slots := #[.null, .int 2, .int 0, .null], vm := .none },
  { cls := 7, slots := #[.null, .int 0, .int 0, .null], vm := .none }]
def classes : Array Class := #[k0, k1, k2, k3, k4, k5, k6, k7, k8, k9, k10, k11, k12, k13, k14, k15]
def interned : List (Array UInt16 × Addr) := []
def slotsUsed : Nat := 31
def theMethod : MethodId := ⟨1, 1⟩
def args0 : Array Value := #[.int 5, .int 7, .int 8, .int 9, .int 1]
def aboutOver (below : List Frame) : State where
  vm := { classes := classes, interned := interned.toArray }
  heap := heap
  slotsUsed := slotsUsed
  threads := #[{ frames := .invoking theMethod args0 :: below }]
def below0 : List Frame := [.native { method := ⟨0, 0⟩, args := #[] }]
def about1 : State := aboutOver below0
def p0 : Program := .bare "" "" ""
def e0 : Env := launch0.env 0 0 0
theorem w_frames : about1.frames = Frame.invoking theMethod args0 :: below0 := rfl
set_option maxRecDepth 65536 in
theorem w_args : argsFit about1.vm theMethod args0 = true := by decide +kernel
set_option maxRecDepth 65536 in
theorem w_heap : heapFits about1 = true := by decide +kernel
set_option maxRecDepth 65536 in
theorem w_runnable : about1.curStatus? = some .runnable := by decide +kernel
set_option maxRecDepth 65536 in
theorem w_alone : about1.alone = true := by decide +kernel
set_option maxRecDepth 65536 in
theorem w_named : about1.methodNamed? x = some theMethod := by decide +kernel
set_option maxRecDepth 65536 in
theorem w_hears : about1.hears theMethod below0 = true := by decide +kernel
set_option maxRecDepth 65536 in
theorem w_ripe : about1.ripe theMethod args0 below0 = true := by decide +kernel
theorem w_running : about1.status = .running := rfl
set_option maxRecDepth 65536 in
theorem w_room : about1.hasRoom e0.platform room_1 = true :=
  launch0.hasRoom_least _ room_1 (by decide +kernel) (by decide +kernel) (by decide +kernel) (by decide +kernel) (by decide +kernel) (by decide +kernel)
theorem allAtoms_all (ts : List Jvm.Cond) (a : Array Jvm.Value) (st : Jvm.State) : (allAtoms ts).before a st = ts.all (fun c => c.before a st) := by
  induction ts with
  | nil => rfl
  | cons c t ih =>
    show (Jvm.Cond.and c (allAtoms t)).before a st = _
    rw [Jvm.Cond.before_and, ih, List.all_cons]
def words1 : List Jvm.Cond := Jvm.Cond.code x code maxLocals ret :: tables_1
/-- a 'code' word, met by the world's own term for the bytes: nothing is compared byte by byte -/
theorem code_word {y : MethodName} {bytes : ByteArray} {mx : Nat} {rt : Option FieldType} {a : Array Value} {s : State} {m : MethodId} {meth : Method} {c : Code} (h1 : s.methodNamed? y = some m) (h2 : s.vm.method? m = some meth) (h3 : meth.code = some c) (h4 : c.code = bytes)
    (h5 : (c.maxLocals == mx && c.exceptionTable.isEmpty && decide (c.maxStack ≤ mostOperands) && decide (meth.sig.returnType = rt) && !meth.locks && decide (parseMethodDescriptor y.desc = some meth.sig)) = true) : (Jvm.Cond.code y bytes mx rt).before a s = true := by
  simp only [Bool.and_eq_true, beq_iff_eq, Bool.not_eq_true', decide_eq_true_eq] at h5
  obtain ⟨⟨⟨⟨⟨g1, g2⟩, g3⟩, g4⟩, g5⟩, g6⟩ := h5
  simp [Cond.before, Cond.holds, Cond.value, h1, h2, h3, h4, g1, g2, g3, g4, g5, g6]
def isCode : Jvm.Cond → Bool
  | .code _ _ _ _ => true
  | _ => false
theorem all_split {L : List Jvm.Cond} {P : Jvm.Cond → Bool} (h1 : L.all (fun c => isCode c || P c) = true) (h2 : ∀ c ∈ L.filter isCode, P c = true) : L.all P = true := by
  refine List.all_eq_true.mpr fun c hc => ?_
  have h := List.all_eq_true.mp h1 c hc
  rcases Bool.eq_false_or_eq_true (isCode c) with hi | hi
  · exact h2 c (List.mem_filter.mpr ⟨hc, hi⟩)
  · simpa [hi] using h
set_option maxRecDepth 65536 in
theorem w_c0 : (Jvm.Cond.code x code maxLocals ret).before args0 about1 = true := code_word (m := ⟨1, 1⟩) (meth := k1m1) (c := k1c1) (by decide +kernel) rfl rfl rfl (by decide +kernel)
set_option maxRecDepth 65536 in
theorem w_c1 : (Jvm.Cond.code ({ cls := "com/example/glimmerboard/glimmerboard/forager/Family", name := "<init>", desc := "(Lcom/example/glimmerboard/glimmerboard/forager/Colour;[I)V" } : Jvm.MethodName) prog_17_method_1_code (3 : Nat) (Option.none : Option Jvm.ClassFile.FieldType)).before args0 about1 = true := code_word (m := ⟨2, 0⟩) (meth := k2m0) (c := k2c0) (by decide +kernel) rfl rfl rfl (by decide +kernel)
set_option maxRecDepth 65536 in
theorem w_c2 : (Jvm.Cond.code ({ cls := "java/lang/Object", name := "<init>", desc := "()V" } : Jvm.MethodName) object_method_1_code (1 : Nat) (Option.none : Option Jvm.ClassFile.FieldType)).before args0 about1 = true := code_word (m := ⟨0, 0⟩) (meth := k0m0) (c := k0c0) (by decide +kernel) rfl rfl rfl (by decide +kernel)
set_option maxRecDepth 65536 in
theorem w_c3 : (Jvm.Cond.code ({ cls := "com/example/glimmerboard/glimmerboard/forager/Size", name := "values", desc := "()[Lcom/example/glimmerboard/glimmerboard/forager/Size;" } : Jvm.MethodName) prog_28_method_1_code (0 : Nat) (Option.some (Jvm.ClassFile.FieldType.array (Jvm.ClassFile.FieldType.object "com/example/glimmerboard/glimmerboard/forager/Size")))).before args0 about1 = true := code_word (m := ⟨8, 0⟩) (meth := k8m0) (c := k8c0) (by decide +kernel) rfl rfl rfl (by decide +kernel)
set_option maxRecDepth 65536 in
theorem w_c4 : (Jvm.Cond.code ({ cls := "com/example/glimmerboard/glimmerboard/forager/Family", name := "denOn", desc := "(I)Z" } : Jvm.MethodName) prog_17_method_9_code (2 : Nat) (Option.some Jvm.ClassFile.FieldType.boolean)).before args0 about1 = true := code_word (m := ⟨2, 1⟩) (meth := k2m1) (c := k2c1) (by decide +kernel) rfl rfl rfl (by decide +kernel)
set_option maxRecDepth 65536 in
theorem w_c5 : (Jvm.Cond.code ({ cls := "com/example/glimmerboard/glimmerboard/forager/Family", name := "makeDen", desc := "(I)V" } : Jvm.MethodName) prog_17_method_11_code (2 : Nat) (Option.none : Option Jvm.ClassFile.FieldType)).before args0 about1 = true := code_word (m := ⟨2, 2⟩) (meth := k2m2) (c := k2c2) (by decide +kernel) rfl rfl rfl (by decide +kernel)
def codes1 : List Jvm.Cond := [Jvm.Cond.code x code maxLocals ret, Jvm.Cond.code ({ cls := "com/example/glimmerboard/glimmerboard/forager/Family", name := "<init>", desc := "(Lcom/example/glimmerboard/glimmerboard/forager/Colour;[I)V" } : Jvm.MethodName) prog_17_method_1_code (3 : Nat) (Option.none : Option Jvm.ClassFile.FieldType), Jvm.Cond.code ({ cls := "java/lang/Object", name := "<init>", desc := "()V" } : Jvm.MethodName) object_method_1_code (1 : Nat) (Option.none : Option Jvm.ClassFile.FieldType), Jvm.Cond.code ({ cls := "com/example/glimmerboard/glimmerboard/forager/Size", name := "values", desc := "()[Lcom/example/glimmerboard/glimmerboard/forager/Size;" } : Jvm.MethodName) prog_28_method_1_code (0 : Nat) (Option.some (Jvm.ClassFile.FieldType.array (Jvm.ClassFile.FieldType.object "com/example/glimmerboard/glimmerboard/forager/Size"))), Jvm.Cond.code ({ cls := "com/example/glimmerboard/glimmerboard/forager/Family", name := "denOn", desc := "(I)Z" } : Jvm.MethodName) prog_17_method_9_code (2 : Nat) (Option.some Jvm.ClassFile.FieldType.boolean), Jvm.Cond.code ({ cls := "com/example/glimmerboard/glimmerboard/forager/Family", name := "makeDen", desc := "(I)V" } : Jvm.MethodName) prog_17_method_11_code (2 : Nat) (Option.none : Option Jvm.ClassFile.FieldType)]
set_option maxRecDepth 65536 in
theorem codes_eq : words1.filter isCode = codes1 := rfl
theorem w_codes : ∀ c ∈ words1.filter isCode, c.before args0 about1 = true := by
  rw [codes_eq]
  intro c hc
  simp only [codes1, List.mem_cons, List.not_mem_nil, or_false] at hc
  rcases hc with rfl | rfl | rfl | rfl | rfl | rfl
  · exact w_c0
  · exact w_c1
  · exact w_c2
  · exact w_c3
  · exact w_c4
  · exact w_c5
set_option maxRecDepth 65536 in
theorem w_t1 : (words1.take 24).all (fun c => isCode c || c.before args0 about1) = true := by decide +kernel
set_option maxRecDepth 65536 in
theorem w_t2 : ((words1.drop 24).take 24).all (fun c => isCode c || c.before args0 about1) = true := by decide +kernel
set_option maxRecDepth 65536 in
theorem w_t3 : ((words1.drop 24).drop 24).all (fun c => isCode c || c.before args0 about1) = true := by decide +kernel
theorem w_tables : (allAtoms (Jvm.Cond.code x code maxLocals ret :: tables_1)).before args0 about1 = true := by
  rw [allAtoms_all]
  show words1.all (fun c => c.before args0 about1) = true
  refine all_split ?_ w_codes
  rw [← List.take_append_drop 24 words1, List.all_append, w_t1, ← List.take_append_drop 24 (words1.drop 24), List.all_append, w_t2, w_t3]
  rfl
set_option maxRecDepth 65536 in
theorem w_case : (Jvm.Cond.and given_1 narrow_1).before args0 about1 = true := by decide +kernel
theorem w_applies : (headSpec (Jvm.Cond.code x code maxLocals ret :: tables_1) room_1).applies x e0.platform about1 = true :=
  (Spec.applies_iff w_frames).mpr ⟨w_running, w_runnable, w_alone, w_named, w_hears, w_ripe, w_room, w_tables⟩
theorem atStart : AtStart classFile x code maxLocals ret World_1 tables_1 room_1 Calls_1 rest_1 Pre_1 launch0 p0 e0 about1 theMethod args0 below0 :=
  ⟨lists_1, trivial, launch0.admits_env _ _ _, launch0.least_env, fairChoices_fair.cas, fairChoices_fair.clock, w_frames, w_args, w_heap, w_applies, trivial, trivial, w_case⟩
end start1
theorem witness_1 : WitnessClaimed_1 := ⟨start1.p0, start1.e0, start1.about1, start1.theMethod, start1.args0, start1.below0, start1.atStart⟩
end Jvm.Pilot.@@N@@
