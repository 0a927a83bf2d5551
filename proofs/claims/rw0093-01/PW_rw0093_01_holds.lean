import PyProof.Rows.All
import Wide.All
import OpenK.AllK
import Wide.FinOn
import PySem.Challenge.RW_rw0093_01
open PySem PySem.W PyProof.Rows
set_option Elab.async false
set_option linter.unusedVariables false
set_option linter.unusedSimpArgs false
set_option bootstrap.genMatcherCode false
set_option compiler.extract_closed false
set_option genSizeOf false
set_option genSizeOfSpec false

section
namespace Mine
theorem ite_some {α : Type} {c : Prop} [Decidable c] {x y : α} (h : (if c then some x else none) = some y) : c ∧ x = y := by
  by_cases hc : c
  · rw [if_pos hc] at h; exact ⟨hc, Option.some.inj h⟩
  · rw [if_neg hc] at h; cases h

/-- pure values -/
inductive PV where
  | none
  | bool (b : Bool)
  | int (i : Int)
  | str (x : Str)
  | list (xs : List PV)
  | tuple (xs : List PV)

noncomputable def PV.sc : PV → Bool
  | .list _ => false
  | .tuple _ => false
  | _ => true

mutual
/-- the value v bears the pure value in the heap; each list or tuple of it lies where P holds -/
noncomputable def Den (P : Addr → Prop) (h : Heap) : PV → Value → Prop
  | .none, v => v = .none
  | .bool b, v => v = .bool b
  | .int i, v => ∃ t, v = .int i t
  | .str x, v => ∃ t, v = .str x t
  | .list xs, v => ∃ a vs, v = .ref a ∧ P a ∧ h.IsList a vs.toArray ∧ DenL P h xs vs
  | .tuple xs, v => ∃ a vs, v = .ref a ∧ P a ∧ IsTup h a vs.toArray ∧ DenL P h xs vs
noncomputable def DenL (P : Addr → Prop) (h : Heap) : List PV → List Value → Prop
  | [], vs => vs = []
  | x :: xs, vs => ∃ v r, vs = v :: r ∧ Den P h x v ∧ DenL P h xs r
end

noncomputable def LT (o : Obj) : Prop := (o.cls = .type "list" ∨ o.cls = .type "tuple") ∧ ∃ vs n, o.data = .seq vs n

mutual
theorem Den.imp {P P' : Addr → Prop} {h h' : Heap} (k : ∀ a o, P a → LT o → h.get? a = some o → h'.get? a = some o ∧ P' a) :
    ∀ {x : PV} {v : Value}, Den P h x v → Den P' h' x v
  | .none, _, d => by simpa only [Den] using d
  | .bool _, _, d => by simpa only [Den] using d
  | .int _, _, d => by simpa only [Den] using d
  | .str _, _, d => by simpa only [Den] using d
  | .list xs, v, d => by
    simp only [Den] at d ⊢
    obtain ⟨a, vs, e, p, ⟨o, ho, hc, nn, r⟩, l⟩ := d
    have q := k a o p ⟨.inl hc, _, nn, r⟩ ho
    exact ⟨a, vs, e, q.2, ⟨o, q.1, hc, nn, r⟩, DenL.imp k l⟩
  | .tuple xs, v, d => by
    simp only [Den] at d ⊢
    obtain ⟨a, vs, e, p, ⟨o, ho, hc, nn, r⟩, l⟩ := d
    have q := k a o p ⟨.inr hc, _, nn, r⟩ ho
    exact ⟨a, vs, e, q.2, ⟨o, q.1, hc, nn, r⟩, DenL.imp k l⟩
theorem DenL.imp {P P' : Addr → Prop} {h h' : Heap} (k : ∀ a o, P a → LT o → h.get? a = some o → h'.get? a = some o ∧ P' a) :
    ∀ {xs : List PV} {vs : List Value}, DenL P h xs vs → DenL P' h' xs vs
  | [], _, d => by simpa only [DenL] using d
  | x :: xs, vs, d => by
    simp only [DenL] at d ⊢
    obtain ⟨v, r, e, d1, d2⟩ := d
    exact ⟨v, r, e, Den.imp k d1, DenL.imp k d2⟩
end

theorem Den.sc {P P' : Addr → Prop} {h h' : Heap} {x : PV} {v : Value} (hx : x.sc = true) (d : Den P h x v) : Den P' h' x v := by
  cases x <;> simp [PV.sc] at hx <;> simpa only [Den] using d
theorem DenL.sc {P P' : Addr → Prop} {h h' : Heap} : ∀ {xs : List PV} {vs : List Value}, (xs.all PV.sc) = true → DenL P h xs vs → DenL P' h' xs vs
  | [], _, _, d => by simpa only [DenL] using d
  | x :: xs, vs, hx, d => by
    simp only [List.all_cons, Bool.and_eq_true] at hx
    simp only [DenL] at d ⊢
    obtain ⟨v, r, e, d1, d2⟩ := d
    exact ⟨v, r, e, d1.sc hx.1, d2.sc hx.2⟩

theorem DenL.length {P : Addr → Prop} {h : Heap} : ∀ {xs : List PV} {vs : List Value}, DenL P h xs vs → vs.length = xs.length
  | [], _, d => by simp only [DenL] at d; subst d; rfl
  | x :: xs, _, d => by
    simp only [DenL] at d
    obtain ⟨v, r, rfl, _, d2⟩ := d
    simp [d2.length]
theorem DenL.get {P : Addr → Prop} {h : Heap} : ∀ {xs : List PV} {vs : List Value}, DenL P h xs vs → ∀ {i : Nat} {x : PV}, xs[i]? = some x → ∃ v, vs[i]? = some v ∧ Den P h x v
  | [], _, _, i, x, e => by simp at e
  | y :: xs, _, d, i, x, e => by
    simp only [DenL] at d
    obtain ⟨v, r, rfl, d1, d2⟩ := d
    cases i with
    | zero => simp at e; subst e; exact ⟨v, by exact rfl, d1⟩
    | succ i => simp at e; obtain ⟨w, hw, dw⟩ := d2.get e; exact ⟨w, by simpa using hw, dw⟩
theorem DenL.append {P : Addr → Prop} {h : Heap} : ∀ {xs ys : List PV} {vs ws : List Value}, DenL P h xs vs → DenL P h ys ws → DenL P h (xs ++ ys) (vs ++ ws)
  | [], _, _, _, d, e => by simp only [DenL] at d; subst d; simpa using e
  | x :: xs, _, _, _, d, e => by
    simp only [DenL] at d
    obtain ⟨v, r, rfl, d1, d2⟩ := d
    simp only [List.cons_append, DenL]
    exact ⟨v, _, rfl, d1, d2.append e⟩
theorem DenL.one {P : Addr → Prop} {h : Heap} {x : PV} {v : Value} (d : Den P h x v) : DenL P h [x] [v] := by
  simp only [DenL]; exact ⟨v, [], rfl, d, rfl⟩
theorem DenL.take {P : Addr → Prop} {h : Heap} : ∀ {xs : List PV} {vs : List Value}, DenL P h xs vs → ∀ n, DenL P h (xs.take n) (vs.take n)
  | [], _, d, n => by simp only [DenL] at d; subst d; simp [DenL]
  | x :: xs, _, d, n => by
    simp only [DenL] at d
    obtain ⟨v, r, rfl, d1, d2⟩ := d
    cases n with
    | zero => simp [DenL]
    | succ n => simp only [List.take_succ_cons, DenL]; exact ⟨v, _, rfl, d1, d2.take n⟩
theorem DenL.drop {P : Addr → Prop} {h : Heap} : ∀ {xs : List PV} {vs : List Value}, DenL P h xs vs → ∀ n, DenL P h (xs.drop n) (vs.drop n)
  | [], _, d, n => by simp only [DenL] at d; subst d; simp [DenL]
  | x :: xs, vs, d, n => by
    cases n with
    | zero => simpa using d
    | succ n =>
      simp only [DenL] at d
      obtain ⟨v, r, rfl, d1, d2⟩ := d
      simpa using d2.drop n
theorem DenL.set {P : Addr → Prop} {h : Heap} {x : PV} {v : Value} (dx : Den P h x v) : ∀ {xs : List PV} {vs : List Value}, DenL P h xs vs → ∀ n, DenL P h (xs.set n x) (vs.set n v)
  | [], _, d, n => by simp only [DenL] at d; subst d; simp [DenL]
  | y :: xs, _, d, n => by
    simp only [DenL] at d
    obtain ⟨v', r, rfl, d1, d2⟩ := d
    cases n with
    | zero => simp only [List.set_cons_zero, DenL]; exact ⟨v, r, rfl, dx, d2⟩
    | succ n => simp only [List.set_cons_succ, DenL]; exact ⟨v', _, rfl, d1, DenL.set dx d2 n⟩
theorem DenL.reverse {P : Addr → Prop} {h : Heap} : ∀ {xs : List PV} {vs : List Value}, DenL P h xs vs → DenL P h xs.reverse vs.reverse
  | [], _, d => by simp only [DenL] at d; subst d; simp [DenL]
  | x :: xs, _, d => by
    simp only [DenL] at d
    obtain ⟨v, r, rfl, d1, d2⟩ := d
    simp only [List.reverse_cons]
    exact d2.reverse.append (.one d1)
theorem DenL.replicate {P : Addr → Prop} {h : Heap} {x : PV} {v : Value} (d : Den P h x v) : ∀ n, DenL P h (List.replicate n x) (List.replicate n v)
  | 0 => by simp [DenL]
  | n + 1 => by simp only [List.replicate_succ, DenL]; exact ⟨v, _, rfl, d, DenL.replicate d n⟩

theorem den_int {P : Addr → Prop} {i : Int} {t : Tok} {h : Heap} : Den P h (.int i) (.int i t) := by simp only [Den]; exact ⟨_, rfl⟩
theorem den_str {P : Addr → Prop} {x : Str} {t : Tok} {h : Heap} : Den P h (.str x) (.str x t) := by simp only [Den]; exact ⟨_, rfl⟩
theorem den_bool {P : Addr → Prop} {b : Bool} {h : Heap} : Den P h (.bool b) (.bool b) := by simp only [Den]
theorem den_none {P : Addr → Prop} {h : Heap} : Den P h .none .none := by simp only [Den]
theorem den_list {P : Addr → Prop} {h : Heap} {xs : List PV} {a : Addr} {vs : List Value} (p : P a) (l : h.IsList a vs.toArray) (d : DenL P h xs vs) : Den P h (.list xs) (.ref a) := by
  simp only [Den]; exact ⟨a, vs, rfl, p, l, d⟩
theorem den_tup {P : Addr → Prop} {h : Heap} {xs : List PV} {a : Addr} {vs : List Value} (p : P a) (l : IsTup h a vs.toArray) (d : DenL P h xs vs) : Den P h (.tuple xs) (.ref a) := by
  simp only [Den]; exact ⟨a, vs, rfl, p, l, d⟩

/-- an object that is no table and no code -/
noncomputable def NT (o : Obj) : Prop := ∀ vs, o.data = .fields vs → vs.size ≤ 8 ∧ o.cls ≠ .none ∧ ∀ q t, vs[1]? ≠ some (.str q t)
theorem NT.seq {o : Obj} {vs : Array Value} {n : Nat} (e : o.data = .seq vs n) : NT o := fun ws q => by rw [e] at q; cases q
theorem NT.dict {o : Obj} {vs : Array DictEntry} {n : Nat} (e : o.data = .dict vs n) : NT o := fun ws q => by rw [e] at q; cases q
theorem NT.cell {o : Obj} {v : Option Value} (e : o.data = .cell v) : NT o := fun ws q => by rw [e] at q; cases q
theorem LT.notDict {o : Obj} {es : Array DictEntry} {n : Nat} (e : o.data = .dict es n) (l : LT o) : False := by obtain ⟨_, vs, k, q⟩ := l; rw [e] at q; cases q
theorem LT.notCell {o : Obj} {v : Option Value} (e : o.data = .cell v) (l : LT o) : False := by obtain ⟨_, vs, k, q⟩ := l; rw [e] at q; cases q
theorem LT.notFields {o : Obj} {v : Array Value} (e : o.data = .fields v) (l : LT o) : False := by obtain ⟨_, vs, k, q⟩ := l; rw [e] at q; cases q
theorem LT.nt {o : Obj} (l : LT o) : NT o := by obtain ⟨_, vs, n, e⟩ := l; exact .seq e
theorem LT.list {h : Heap} {a : Addr} {vs : Array Value} (l : h.IsList a vs) : ∃ o, h.get? a = some o ∧ LT o := by obtain ⟨o, e, c, n, d⟩ := l; exact ⟨o, e, .inl c, _, n, d⟩
theorem LT.tup {h : Heap} {a : Addr} {vs : Array Value} (l : IsTup h a vs) : ∃ o, h.get? a = some o ∧ LT o := by obtain ⟨o, e, c, n, d⟩ := l; exact ⟨o, e, .inr c, _, n, d⟩

/-- the code tables: they may grow -/
structure Tb where
  P : Addr
  c : Addr
  line : Int
  col : Int
  qual : Str
noncomputable def TA (T : List Tb) (a : Addr) : Prop := ∃ t ∈ T, t.P = a
noncomputable def TabOk (T : List Tb) (h : Heap) : Prop := ∀ t ∈ T, CodeHd h t.c t.P ∧
  (h.get? t.P = some (tabObj #[]) ∨ ∃ c', h.get? t.P = some (tabObj #[rawInt t.line, rawInt t.col, .ref c']) ∧ h.CodeRec (.ref c') t.qual)
theorem TabOk.keeps {T : List Tb} {h h' : Heap} (x : TabOk T h) (k : ∀ b o, h.get? b = some o → h'.get? b = some o) : TabOk T h' :=
  fun t ht => let ⟨a, b⟩ := x t ht; ⟨a.keeps k, b.elim (fun e => .inl (k _ _ e)) fun ⟨c', e, r⟩ => .inr ⟨c', k _ _ e, r.keeps k⟩⟩
theorem TabOk.obj {T : List Tb} {h : Heap} (x : TabOk T h) {a : Addr} (m : TA T a) : ∃ ps, h.get? a = some (tabObj ps) := by
  obtain ⟨t, ht, rfl⟩ := m
  rcases (x t ht).2 with e | ⟨c', e, _⟩
  · exact ⟨_, e⟩
  · exact ⟨_, e⟩
theorem TabOk.but {T : List Tb} {h h' : Heap} {a : Addr} {oa : Obj} (x : TabOk T h) (ha : h.get? a = some oa) (hn : NT oa) (k : ∀ b o, b ≠ a → h.get? b = some o → h'.get? b = some o) : TabOk T h' := by
  have kt : ∀ t ∈ T, ∀ ps, h.get? t.P = some (tabObj ps) → h'.get? t.P = some (tabObj ps) := fun t ht ps e => k _ _ (by rintro rfl; rw [ha] at e; cases e; exact (hn _ rfl).2.1 rfl) e
  intro t ht
  obtain ⟨⟨o, vs, file, tf, flags, tg, inF, text, tt, e, e2, e3, e4, r⟩, b⟩ := x t ht
  have hc : CodeHd h' t.c t.P := ⟨o, vs, file, tf, flags, tg, inF, text, tt, k _ _ (by
    intro q; rw [q, ha] at e; cases e
    have := (hn _ e3).1
    have h11 := (Array.getElem?_eq_some_iff.mp e4).1
    omega) e, e2, e3, e4, r⟩
  refine ⟨hc, b.elim (fun e => .inl (kt t ht _ e)) fun ⟨c', e, c, oc, ws, tk, f1, f2, f3, f4⟩ => .inr ⟨c', kt t ht _ e, c, oc, ws, tk, f1, k _ _ (by
    rintro rfl; rw [ha] at f2; cases f2
    exact (hn _ f3).2.2 _ _ f4) f2, f3, f4⟩⟩
theorem TabOk.ne {T : List Tb} {h : Heap} (x : TabOk T h) {a : Addr} {o : Obj} (e : h.get? a = some o) (hc : ∀ ps, o ≠ tabObj ps) : ¬ TA T a := fun m => by
  obtain ⟨ps, e'⟩ := x.obj m
  rw [e] at e'; cases e'; exact hc _ rfl
theorem TabOk.recKeep {T : List Tb} {h h' : Heap} (x : TabOk T h) {cd : Value} {q : Str} (r : h.CodeRec cd q) (k : ∀ b o, ¬ TA T b → h.get? b = some o → h'.get? b = some o) : h'.CodeRec cd q := by
  obtain ⟨c, o, vs, t, e1, e2, e3, e4⟩ := r
  refine ⟨c, o, vs, t, e1, k _ _ (fun m => ?_) e2, e3, e4⟩
  obtain ⟨t', ht, rfl⟩ := m
  rcases (x t' ht).2 with e | ⟨c', e, _⟩
  · rw [e2] at e; cases e; cases e3; simp at e4
  · rw [e2] at e; cases e; cases e3; simp [rawInt] at e4
theorem TabOk.ltne {T : List Tb} {h : Heap} (x : TabOk T h) {a : Addr} {o : Obj} (e : h.get? a = some o) (hc : LT o) : ¬ TA T a :=
  x.ne e (by rintro ps rfl; rcases hc.1 with q | q <;> cases q)
theorem TabOk.nsne {T : List Tb} {h : Heap} (x : TabOk T h) {a : Addr} {m : Str → Option Value} (n : h.Ns a m) : ¬ TA T a := by
  obtain ⟨o, es, ep, e, hd, _⟩ := n
  exact x.ne e (by rintro ps rfl; cases hd)
theorem TabOk.cellne {T : List Tb} {h : Heap} (x : TabOk T h) {a : Addr} {v : Option Value} (n : h.IsCell a v) : ¬ TA T a := by
  obtain ⟨o, e, hd⟩ := n
  exact x.ne e (by rintro ps rfl; cases hd)

/-- from s to s' all stands but what W holds and the tables, which may grow -/
structure Gr (T : List Tb) (W : Addr → Prop) (s s' : Shared) : Prop where
  kp : ∀ b o, ¬ TA T b → ¬ W b → s.heap.get? b = some o → s'.heap.get? b = some o
  tab : TabOk T s'.heap
  os : s'.os = s.os
  gk : ∀ i, i < s.gens.size → s'.gens[i]? = s.gens[i]?
  gs : s.gens.size ≤ s'.gens.size
  gb : AllBare s.gens → AllBare s'.gens
  ex : ∀ b o, W b → s.heap.get? b = some o → ∃ o', s'.heap.get? b = some o'
/-- so too, but for some generators -/
structure GrI (T : List Tb) (W : Addr → Prop) (G : Nat → Prop) (s s' : Shared) : Prop where
  kp : ∀ b o, ¬ TA T b → ¬ W b → s.heap.get? b = some o → s'.heap.get? b = some o
  tab : TabOk T s'.heap
  os : s'.os = s.os
  gk : ∀ i, i < s.gens.size → ¬ G i → s'.gens[i]? = s.gens[i]?
  gs : s.gens.size ≤ s'.gens.size
  gb : AllBare s.gens → AllBare s'.gens
  ex : ∀ b o, W b → s.heap.get? b = some o → ∃ o', s'.heap.get? b = some o'
theorem Gr.toI {T : List Tb} {W : Addr → Prop} {G : Nat → Prop} {s s' : Shared} (x : Gr T W s s') : GrI T W G s s' := ⟨x.kp, x.tab, x.os, fun i h _ => x.gk i h, x.gs, x.gb, x.ex⟩
theorem GrI.exAll {T : List Tb} {W : Addr → Prop} {G : Nat → Prop} {s s' : Shared} (g : GrI T W G s s') (t : TabOk T s.heap) {b : Addr} {o : Obj} (e : s.heap.get? b = some o) : ∃ o', s'.heap.get? b = some o' := by
  by_cases m : TA T b
  · obtain ⟨ps, e⟩ := g.tab.obj m; exact ⟨_, e⟩
  · by_cases w : W b
    · exact g.ex b o w e
    · exact ⟨o, g.kp b o m w e⟩
theorem GrI.none {T : List Tb} {W : Addr → Prop} {G : Nat → Prop} {s s' : Shared} (g : GrI T W G s s') (t : TabOk T s.heap) {b : Addr} (e : s'.heap.get? b = none) : s.heap.get? b = none := by
  cases q : s.heap.get? b with
  | none => rfl
  | some o => obtain ⟨o', e'⟩ := g.exAll t q; rw [e] at e'; cases e'
theorem GrI.trans {T : List Tb} {W W' V : Addr → Prop} {G G' H : Nat → Prop} {s s' s'' : Shared} (x : GrI T W G s s') (y : GrI T W' G' s' s'') (t : TabOk T s.heap) (hW : ∀ b, W b → V b) (hW' : ∀ b o, s.heap.get? b = some o → W' b → V b)
    (hG : ∀ i, G i → H i) (hG' : ∀ i, i < s.gens.size → G' i → H i) : GrI T V H s s'' := by
  refine ⟨fun b o n v e => y.kp b o n (fun w => v (hW' b o e w)) (x.kp b o n (fun w => v (hW b w)) e), y.tab, y.os.trans x.os, fun i hi h => (y.gk i (Nat.lt_of_lt_of_le hi x.gs) fun q => h (hG' i hi q)).trans (x.gk i hi fun q => h (hG i q)), Nat.le_trans x.gs y.gs, fun b => y.gb (x.gb b), fun b o v e => ?_⟩
  obtain ⟨o', e'⟩ := x.exAll t e
  exact y.exAll x.tab e'
theorem GrI.toGr {T : List Tb} {W V : Addr → Prop} {G : Nat → Prop} {s s' : Shared} (x : GrI T W G s s') (t : TabOk T s.heap) (hW : ∀ b o, s.heap.get? b = some o → W b → V b) (hG : ∀ i, i < s.gens.size → ¬ G i) : Gr T V s s' :=
  ⟨fun b o n v e => x.kp b o n (fun w => v (hW b o e w)) e, x.tab, x.os, fun i hi => x.gk i hi (hG i hi), x.gs, x.gb, fun b o v e => x.exAll t e⟩
noncomputable abbrev No : Addr → Prop := fun _ => False
noncomputable abbrev Grow (T : List Tb) (s s' : Shared) : Prop := Gr T No s s'

theorem Gr.exAll {T : List Tb} {W : Addr → Prop} {s s' : Shared} (g : Gr T W s s') (t : TabOk T s.heap) {b : Addr} {o : Obj} (e : s.heap.get? b = some o) : ∃ o', s'.heap.get? b = some o' := by
  by_cases m : TA T b
  · obtain ⟨ps, e⟩ := g.tab.obj m; exact ⟨_, e⟩
  · by_cases w : W b
    · exact g.ex b o w e
    · exact ⟨o, g.kp b o m w e⟩
theorem Gr.none {T : List Tb} {W : Addr → Prop} {s s' : Shared} (g : Gr T W s s') (t : TabOk T s.heap) {b : Addr} (e : s'.heap.get? b = none) : s.heap.get? b = none := by
  cases q : s.heap.get? b with
  | none => rfl
  | some o => obtain ⟨o', e'⟩ := g.exAll t q; rw [e] at e'; cases e'
theorem Gr.trans {T : List Tb} {W W' V : Addr → Prop} {s s' s'' : Shared} (x : Gr T W s s') (y : Gr T W' s' s'') (t : TabOk T s.heap) (hW : ∀ b, W b → V b) (hW' : ∀ b o, s.heap.get? b = some o → W' b → V b) : Gr T V s s'' := by
  refine ⟨fun b o n v e => y.kp b o n (fun w => v (hW' b o e w)) (x.kp b o n (fun w => v (hW b w)) e), y.tab, y.os.trans x.os, fun i hi => (y.gk i (Nat.lt_of_lt_of_le hi x.gs)).trans (x.gk i hi), Nat.le_trans x.gs y.gs, fun b => y.gb (x.gb b), fun b o v e => ?_⟩
  obtain ⟨o', e'⟩ := x.exAll t e
  exact y.exAll x.tab e'
theorem Gr.refl {T : List Tb} {W : Addr → Prop} {s : Shared} (t : TabOk T s.heap) : Gr T W s s := ⟨fun _ _ _ _ e => e, t, rfl, fun _ _ => rfl, Nat.le_refl _, id, fun b o _ e => ⟨o, e⟩⟩
theorem Gr.up {T : List Tb} {W V : Addr → Prop} {s s' : Shared} (x : Gr T W s s') (t : TabOk T s.heap) (h : ∀ b, W b → V b) : Gr T V s s' := x.trans (W' := V) (.refl x.tab) t h fun _ _ _ v => v
theorem Gr.then {T : List Tb} {s s' s'' : Shared} (x : Grow T s s') (y : Grow T s' s'') : Grow T s s'' :=
  ⟨fun b o n v e => y.kp b o n v (x.kp b o n v e), y.tab, y.os.trans x.os, fun i hi => (y.gk i (Nat.lt_of_lt_of_le hi x.gs)).trans (x.gk i hi), Nat.le_trans x.gs y.gs, fun b => y.gb (x.gb b), fun b o v e => v.elim⟩
theorem Gr.of {T : List Tb} {s : Shared} {h' : Heap} {tk : Nat} (t : TabOk T s.heap) (k : ∀ b o, s.heap.get? b = some o → h'.get? b = some o) : Grow T s { s with heap := h', toks := tk } :=
  ⟨fun b o _ _ e => k b o e, t.keeps k, rfl, fun _ _ => rfl, Nat.le_refl _, id, fun b o w _ => w.elim⟩
theorem Gr.tok {T : List Tb} {s : Shared} {tk : Nat} (t : TabOk T s.heap) : Grow T s { s with toks := tk } := .of (h' := s.heap) t fun _ _ e => e
/-- one object is changed -/
theorem Gr.but {T : List Tb} {W : Addr → Prop} {s : Shared} {h' : Heap} {tk : Nat} {a : Addr} {oa o' : Obj} (t : TabOk T s.heap) (ha : s.heap.get? a = some oa) (ha' : h'.get? a = some o') (hn : NT oa) (w : W a) (k : ∀ b o, b ≠ a → s.heap.get? b = some o → h'.get? b = some o) :
    Gr T W s { s with heap := h', toks := tk } :=
  ⟨fun b o _ v e => k b o (fun q => v (q ▸ w)) e, t.but ha hn k, rfl, fun _ _ => rfl, Nat.le_refl _, id, fun b o _ e => by
    by_cases q : b = a
    · exact ⟨o', q ▸ ha'⟩
    · exact ⟨o, k b o q e⟩⟩
/-- new things stand besides -/
theorem Gr.butNew {T : List Tb} {s : Shared} {h' : Heap} {tk : Nat} (t : TabOk T s.heap) (k : ∀ b o, s.heap.get? b = some o → h'.get? b = some o) : Grow T s { s with heap := h', toks := tk } := .of t k

theorem Den.gr {T : List Tb} {W : Addr → Prop} {s s' : Shared} {P : Addr → Prop} {x : PV} {v : Value} (g : Gr T W s s') (t : TabOk T s.heap) (hw : ∀ a o, P a → LT o → s.heap.get? a = some o → ¬ W a) (d : Den P s.heap x v) : Den P s'.heap x v :=
  d.imp fun a o p l e => ⟨g.kp a o (t.ltne e l) (hw a o p l e) e, p⟩
theorem DenL.gr {T : List Tb} {W : Addr → Prop} {s s' : Shared} {P : Addr → Prop} {x : List PV} {v : List Value} (g : Gr T W s s') (t : TabOk T s.heap) (hw : ∀ a o, P a → LT o → s.heap.get? a = some o → ¬ W a) (d : DenL P s.heap x v) : DenL P s'.heap x v :=
  d.imp fun a o p l e => ⟨g.kp a o (t.ltne e l) (hw a o p l e) e, p⟩
theorem Den.grow {T : List Tb} {s s' : Shared} {P : Addr → Prop} {x : PV} {v : Value} (g : Grow T s s') (t : TabOk T s.heap) (d : Den P s.heap x v) : Den P s'.heap x v := d.gr g t fun _ _ _ _ _ => id
theorem DenL.grow {T : List Tb} {s s' : Shared} {P : Addr → Prop} {x : List PV} {v : List Value} (g : Grow T s s') (t : TabOk T s.heap) (d : DenL P s.heap x v) : DenL P s'.heap x v := d.gr g t fun _ _ _ _ _ => id
noncomputable abbrev All : Addr → Prop := fun _ => True
theorem Den.to {P P' : Addr → Prop} {h : Heap} {x : PV} {v : Value} (d : Den P h x v) (k : ∀ a o, P a → LT o → h.get? a = some o → P' a) : Den P' h x v := d.imp fun a o p l e => ⟨e, k a o p l e⟩
theorem DenL.to {P P' : Addr → Prop} {h : Heap} {x : List PV} {v : List Value} (d : DenL P h x v) (k : ∀ a o, P a → LT o → h.get? a = some o → P' a) : DenL P' h x v := d.imp fun a o p l e => ⟨e, k a o p l e⟩
theorem Den.raw {P : Addr → Prop} {h : Heap} {x : PV} {v : Value} (d : Den P h x v) : Den All h x v := d.to fun _ _ _ _ _ => trivial
theorem DenL.raw {P : Addr → Prop} {h : Heap} {x : List PV} {v : List Value} (d : DenL P h x v) : DenL All h x v := d.to fun _ _ _ _ _ => trivial
theorem isList_gr {T : List Tb} {W : Addr → Prop} {s s' : Shared} {a : Addr} {vs : Array Value} (g : Gr T W s s') (t : TabOk T s.heap) (hw : ¬ W a) (l : s.heap.IsList a vs) : s'.heap.IsList a vs := by
  obtain ⟨o, ho, hc, nn, r⟩ := l
  exact ⟨o, g.kp a o (t.ltne ho ⟨.inl hc, _, nn, r⟩) hw ho, hc, nn, r⟩

/-- what a variable holds: a value that nobody changes; a list that the frame owns; a list of lists that it owns -/
inductive Slot where
  | fz (x : PV)
  | ow (xs : List PV)
  | ow2 (xss : List (List PV))

noncomputable abbrev Rho := Nat → Option Slot
noncomputable def upd (ρ : Rho) (i : Nat) (sl : Slot) : Rho := fun j => if j = i then some sl else ρ j
@[simp] theorem upd_self (ρ : Rho) (i : Nat) (sl : Slot) : upd ρ i sl i = some sl := by simp [upd]
theorem upd_ne {ρ : Rho} {i j : Nat} {sl : Slot} (h : j ≠ i) : upd ρ i sl j = ρ j := by simp [upd, h]

noncomputable abbrev Own := Nat → List Addr

inductive Rows (P : Addr → Prop) (h : Heap) : List (List PV) → List Addr → Prop where
  | nil : Rows P h [] []
  | cons {xs : List PV} {xss : List (List PV)} {b : Addr} {bs : List Addr} {vs : List Value} : h.IsList b vs.toArray → DenL P h xs vs → Rows P h xss bs → Rows P h (xs :: xss) (b :: bs)

noncomputable def Clean (own : Own) (a : Addr) : Prop := ∀ i, a ∉ own i

noncomputable def SlotOk (own : Own) (h : Heap) (mine : List Addr) : Slot → Value → Prop
  | .fz x, v => Den (Clean own) h x v
  | .ow xs, v => ∃ a vs, v = .ref a ∧ mine = [a] ∧ h.PlainList a vs.toArray ∧ DenL (Clean own) h xs vs
  | .ow2 xss, v => ∃ a bs, v = .ref a ∧ mine = a :: bs ∧ h.IsList a (bs.map Value.ref).toArray ∧ Rows (Clean own) h xss bs

theorem Rows.imp {P P' : Addr → Prop} {h h' : Heap} (k : ∀ a o, P a → LT o → h.get? a = some o → h'.get? a = some o ∧ P' a) {xss : List (List PV)} {bs : List Addr}
    (kb : ∀ a ∈ bs, ∀ o, LT o → h.get? a = some o → h'.get? a = some o) (r : Rows P h xss bs) : Rows P' h' xss bs := by
  induction r with
  | nil => exact .nil
  | cons hl d _ ih =>
    obtain ⟨o, ho, q1, nn, q2⟩ := hl
    exact .cons ⟨o, kb _ (.head _) _ ⟨.inl q1, _, nn, q2⟩ ho, q1, nn, q2⟩ (d.imp k) (ih fun a ha => kb a (.tail _ ha))
theorem SlotOk.imp {own own' : Own} {h h' : Heap} {mine : List Addr} {sl : Slot} {v : Value} (k : ∀ a o, Clean own a → LT o → h.get? a = some o → h'.get? a = some o ∧ Clean own' a)
    (km : ∀ a ∈ mine, ∀ o, LT o → h.get? a = some o → h'.get? a = some o) (x : SlotOk own h mine sl v) : SlotOk own' h' mine sl v := by
  have kl : ∀ {a : Addr} {vs : Array Value}, a ∈ mine → h.IsList a vs → h'.IsList a vs := fun m ⟨o, ho, hc, nn, r⟩ => ⟨o, km _ m _ ⟨.inl hc, _, nn, r⟩ ho, hc, nn, r⟩
  cases sl with
  | fz x => exact Den.imp k x
  | ow xs =>
    obtain ⟨a, vs, e1, rfl, ⟨nn, ho⟩, d⟩ := x
    exact ⟨a, vs, e1, rfl, ⟨nn, km _ (.head _) _ ⟨.inl rfl, _, nn, rfl⟩ ho⟩, d.imp k⟩
  | ow2 xss =>
    obtain ⟨a, bs, e1, rfl, l, d⟩ := x
    exact ⟨a, bs, e1, rfl, kl (.head _) l, d.imp k fun b hb => km b (.tail _ hb)⟩

noncomputable def VarAt (env : Env) (m : Str → Option Value) (h : Heap) (x : Str) (v : Value) : Prop :=
  match env.kindOf x with
  | some .local => m x = some v
  | some .cell => ∃ c, env.cells.lookup x = some c ∧ h.IsCell c (some v)
  | some .free => ∃ c, env.cells.lookup x = some c ∧ h.IsCell c (some v)
  | _ => False
theorem VarAt.imp {env : Env} {m m' : Str → Option Value} {h h' : Heap} {x : Str} {v : Value} (y : VarAt env m h x v) (hm : env.kindOf x = some .local → m' x = m x)
    (hc : ∀ c, (env.kindOf x = some .cell ∨ env.kindOf x = some .free) → env.cells.lookup x = some c → h.IsCell c (some v) → h'.IsCell c (some v)) : VarAt env m' h' x v := by
  unfold VarAt at y ⊢
  cases q : env.kindOf x with
  | none => rw [q] at y; exact y.elim
  | some kd =>
    rw [q] at y hc hm
    cases kd with
    | «local» => exact (hm rfl).trans y
    | cell => obtain ⟨c, e1, e2⟩ := y; exact ⟨c, e1, hc c (.inl rfl) e1 e2⟩
    | free => obtain ⟨c, e1, e2⟩ := y; exact ⟨c, e1, hc c (.inr rfl) e1 e2⟩
    | _ => exact y.elim

/-- the ground: the world, what the top has left, the frame's first heap -/
structure Dt where
  prog : Program
  w : World
  T : List Tb
  h1 : Heap
  mg : Str → Option Value
  mb : Str → Option Value
  fn : Addr → Option FuncData
noncomputable def Dt.at (D : Dt) (h : Heap) : Dt := { D with h1 := h }

structure DtOk (D : Dt) : Prop where
  g : D.h1.Ns mainGlobals D.mg
  b : D.h1.Ns builtinsNs D.mb
  bi : ∀ x : Str, x ≠ "__name__" → D.mb x = bootBuiltins x
  lim : D.h1.NoLimit
  tab : TabOk D.T D.h1
  bm : ∃ bm o, D.mg "__builtins__" = some (.ref bm) ∧ bm ≠ builtinsNs ∧ bm ≠ mainGlobals ∧ D.h1.get? bm = some o ∧ o.cls = .type "module" ∧ o.dict = some builtinsNs ∧ o.data = .plain
  fns : ∀ a fd, D.fn a = some fd → ∃ o, D.h1.get? a = some o ∧ o.data = .func fd ∧ D.h1.CodeRec fd.code fd.qualname
theorem DtOk.to {D : Dt} (ok : DtOk D) {h : Heap} (t : TabOk D.T h) (k : ∀ b o, ¬ TA D.T b → D.h1.get? b = some o → h.get? b = some o) : DtOk (D.at h) := by
  have kn : ∀ {a : Addr} {m : Str → Option Value}, D.h1.Ns a m → h.Ns a m := fun n => by
    have q := ok.tab.nsne n
    obtain ⟨o, es, ep, e, r⟩ := n
    exact ⟨o, es, ep, k _ _ q e, r⟩
  refine ⟨kn ok.g, kn ok.b, ok.bi, let ⟨mc, a, b⟩ := ok.lim; ⟨mc, kn a, b⟩, t, ?_, fun a fd hf => ?_⟩
  · obtain ⟨bm, o, h1, h2, h3, h4, h5, h6, h7⟩ := ok.bm
    exact ⟨bm, o, h1, h2, h3, k _ _ (ok.tab.ne h4 (by rintro ps rfl; cases h5)) h4, h5, h6, h7⟩
  · obtain ⟨o, e, d, r⟩ := ok.fns a fd hf
    exact ⟨o, k _ _ (ok.tab.ne e (by rintro ps rfl; cases d)) e, d, ok.tab.recKeep r k⟩

noncomputable abbrev Dt.M (D : Dt) : Model := model D.prog D.w

noncomputable def OkA (n : Nat) (A : Around) : Prop := A.handled = none ∧ A.depth + n ≤ 800 ∧ A.units + 10 * n ≤ 5000
theorem OkA.mono {n m : Nat} {A : Around} (h : OkA n A) (l : m ≤ n) : OkA m A := ⟨h.1, by have := h.2.1; grind, by have := h.2.2; grind⟩
theorem OkA.in1 {n m : Nat} {A : Around} (h : OkA n A) (l : m < n) : OkA m A.in1 := ⟨h.1, by have := h.2.1; show A.depth + m ≤ 800; omega, by have := h.2.2; show A.units + 1 + 10 * m ≤ 5000; grind⟩
theorem OkA.deeper {n m : Nat} {A : Around} {env : Env} (h : OkA n A) (l : m < n) : OkA m (A.deeper env) := ⟨h.1, by have := h.2.1; show A.depth + 1 + m ≤ 800; omega, by have := h.2.2; show A.units + 3 + 10 * m ≤ 5000; grind⟩

structure EnvOk (env : Env) : Prop where
  kind : env.scope.kind = .function
  glob : env.globals = mainGlobals
  bi : env.builtins = builtinsNs
  co : env.scope.isCoroutine = false

noncomputable def goodNames (vars : List (Option Str)) (sc : Scope) : Bool :=
  vars.all (fun | some x => x != ("__debug__" : Str) && x != ("__classdict__" : Str) && (sc.names.lookup x == some .local || sc.names.lookup x == some .cell || sc.names.lookup x == some .free) | none => true)

/-- what the frame may change -/
noncomputable def Mut (env : Env) (own : Own) (a : Addr) : Prop := a = env.locals ∨ (∃ x, env.kindOf x = some .cell ∧ env.cells.lookup x = some a) ∨ ∃ i, a ∈ own i

structure StE (D : Dt) (env : Env) (vars : List (Option Str)) (own : Own) (ρ : Rho) (s : Shared) : Prop where
  ok : DtOk D
  base : ∀ b o, ¬ TA D.T b → D.h1.get? b = some o → s.heap.get? b = some o
  tab : TabOk D.T s.heap
  eo : EnvOk env
  gn : goodNames vars env.scope = true
  vd : ∀ (i j : Nat) (x : Str), vars[i]? = some (some x) → vars[j]? = some (some x) → i = j
  mn : ∀ a, Mut env own a → D.h1.get? a = none
  oe : ∀ i a, a ∈ own i → ∃ o, s.heap.get? a = some o ∧ LT o
  od : ∀ i j a, a ∈ own i → a ∈ own j → i = j
  on : ∀ i, (own i).Nodup
  ob : ∀ i, vars.length ≤ i → i ≠ 1000 → own i = []
  ce : ∀ x, env.kindOf x = some .cell → ∃ c v, env.cells.lookup x = some c ∧ s.heap.IsCell c v
  ca : ∀ x c, env.cells.lookup x = some c → ∃ o, s.heap.get? c = some o
  cd : ∀ x y c, env.cells.lookup x = some c → env.cells.lookup y = some c → x = y
  vars : ∃ m, s.heap.Ns env.locals m ∧ ∀ i x sl, vars[i]? = some (some x) → ρ i = some sl → ∃ v, VarAt env m s.heap x v ∧ SlotOk own s.heap (own i) sl v

/-- the code's sheet: its scope, its code object, its qualified name's head -/
structure Sct where
  sc : Scope
  cd : Value
  qual : Str
  /-- a nested function's cells -/
  cl : Option (List (Str × Addr))
noncomputable def InC (c : Sct) (env : Env) : Prop := env.scope = c.sc ∧ env.code = c.cd ∧ env.qual = c.qual ∧ ∀ l, c.cl = some l → env.cells = l

/-- where a value's lists may lie: anywhere; off what the frame owns; off what stood when the frame began -/
inductive Kd where
  | raw | cl | rt | nw
noncomputable def KP (D : Dt) (k : Kd) (own : Own) (a : Addr) : Prop := match k with
  | .raw => True
  | .cl => Clean own a
  | .rt => D.h1.get? a = none
  | .nw => Clean own a ∧ D.h1.get? a = none

section
variable {D : Dt} {env : Env} {vars : List (Option Str)} {own : Own} {ρ : Rho} {s s' : Shared}
theorem StE.dt (S : StE D env vars own ρ s) : DtOk (D.at s.heap) := S.ok.to S.tab S.base
theorem StE.new0 (S : StE D env vars own ρ s) {a : Addr} (e : s.heap.get? a = none) : D.h1.get? a = none := by
  cases q : D.h1.get? a with
  | none => rfl
  | some o =>
    by_cases m : TA D.T a
    · obtain ⟨ps, e'⟩ := S.tab.obj m; rw [e] at e'; cases e'
    · have := S.base a o m q; rw [e] at this; cases this
theorem StE.clean (S : StE D env vars own ρ s) {a : Addr} (e : s.heap.get? a = none) : Clean own a := fun i m => by
  obtain ⟨o, q, _⟩ := S.oe i a m; rw [e] at q; cases q
theorem KP.new (S : StE D env vars own ρ s) {k : Kd} {a : Addr} (e : s.heap.get? a = none) : KP D k own a := by
  cases k with
  | raw => trivial
  | cl => exact S.clean e
  | rt => exact S.new0 e
  | nw => exact ⟨S.clean e, S.new0 e⟩

/-- the frame's state stands where only things apart from it are changed -/
theorem StE.kpt {W : Addr → Prop} (S : StE D env vars own ρ s) (gkp : ∀ b o, ¬ TA D.T b → ¬ W b → s.heap.get? b = some o → s'.heap.get? b = some o) (gtab : TabOk D.T s'.heap) (h0 : ∀ b o, W b → D.h1.get? b = some o → False) (hl : ¬ W env.locals) (hc : ∀ x c, env.cells.lookup x = some c → ¬ W c)
    (hL : ∀ b o, W b → s.heap.get? b = some o → LT o → False) : StE D env vars own ρ s' := by
  refine ⟨S.ok, fun b o n e => gkp b o n (fun w => h0 b o w e) (S.base b o n e), gtab, S.eo, S.gn, S.vd, S.mn, fun i a m => ?_, S.od, S.on, S.ob, fun x hx => ?_, fun x c hx => ?_, S.cd, ?_⟩
  · obtain ⟨o, e, l⟩ := S.oe i a m
    exact ⟨o, gkp a o (S.tab.ltne e l) (fun w => hL a o w e l) e, l⟩
  · obtain ⟨c, v, e1, e2⟩ := S.ce x hx
    refine ⟨c, v, e1, ?_⟩
    have q := S.tab.cellne e2
    obtain ⟨o, e, r⟩ := e2
    exact ⟨o, gkp c o q (hc x c e1) e, r⟩
  · obtain ⟨o, e⟩ := S.ca x c hx
    by_cases q : TA D.T c
    · obtain ⟨ps, e'⟩ := gtab.obj q; exact ⟨_, e'⟩
    · exact ⟨o, gkp c o q (hc x c hx) e⟩
  · obtain ⟨m, n, k⟩ := S.vars
    refine ⟨m, ?_, fun i x sl hx hr => ?_⟩
    · have q := S.tab.nsne n
      obtain ⟨o, es, ep, e, r⟩ := n
      exact ⟨o, es, ep, gkp _ _ q hl e, r⟩
    · obtain ⟨v, h1, h2⟩ := k i x sl hx hr
      refine ⟨v, h1.imp (fun _ => rfl) fun c _ e1 e2 => ?_, h2.imp (fun a o p l e => ⟨gkp a o (S.tab.ltne e l) (fun w => hL a o w e l) e, p⟩) fun a _ o l e => gkp a o (S.tab.ltne e l) (fun w => hL a o w e l) e⟩
      have q := S.tab.cellne e2
      obtain ⟨o, e, r⟩ := e2
      exact ⟨o, gkp c o q (hc x c e1) e, r⟩
theorem StE.gr {W : Addr → Prop} (S : StE D env vars own ρ s) (g : Gr D.T W s s') (h0 : ∀ b o, W b → D.h1.get? b = some o → False) (hl : ¬ W env.locals) (hc : ∀ x c, env.cells.lookup x = some c → ¬ W c)
    (hL : ∀ b o, W b → s.heap.get? b = some o → LT o → False) : StE D env vars own ρ s' := S.kpt g.kp g.tab h0 hl hc hL
theorem StE.grow (S : StE D env vars own ρ s) (g : Grow D.T s s') : StE D env vars own ρ s' := S.gr g (fun _ _ w => w.elim) id (fun _ _ _ => id) fun _ _ w => w.elim
end

/-- an expression: where the pure function has a value, its evaluation gives it -/
noncomputable def Ex (D : Dt) (n : Nat) (c : Sct) (vars : List (Option Str)) (k : Kd) (e : Expr) (f : Rho → Option PV) : Prop :=
  ∀ (env : Env) (A : Around) (own : Own) (ρ : Rho) (s : Shared) (x : PV), InC c env → OkA n A → StE D env vars own ρ s → f ρ = some x →
    wpAny D.M A (eval e env) (fun v s' => Grow D.T s s' ∧ Den (KP D k own) s'.heap x v) (fun _ _ => False) s

/-- a test -/
noncomputable def Tx (D : Dt) (n : Nat) (c : Sct) (vars : List (Option Str)) (e : Expr) (f : Rho → Option Bool) : Prop :=
  ∀ (env : Env) (A : Around) (own : Own) (ρ : Rho) (s : Shared) (x : Bool), InC c env → OkA n A → StE D env vars own ρ s → f ρ = some x →
    wpAny D.M A (isTrue e env (eval e env)) (fun v s' => Grow D.T s s' ∧ v = x) (fun _ _ => False) s

/-- an expression that makes a new list -/
noncomputable def ExN (D : Dt) (n : Nat) (c : Sct) (vars : List (Option Str)) (e : Expr) (f : Rho → Option (List PV)) : Prop :=
  ∀ (env : Env) (A : Around) (own : Own) (ρ : Rho) (s : Shared) (xs : List PV), InC c env → OkA n A → StE D env vars own ρ s → f ρ = some xs →
    wpAny D.M A (eval e env) (fun v s' => Grow D.T s s' ∧ ∃ a vs, v = .ref a ∧ s.heap.get? a = none ∧ s'.heap.PlainList a vs.toArray ∧ DenL (fun b => Clean own b ∧ b ≠ a) s'.heap xs vs) (fun _ _ => False) s

section
variable {D : Dt} {n : Nat} {c : Sct} {vars : List (Option Str)} {k : Kd}

theorem KP.toRaw {k : Kd} {own : Own} {h : Heap} {x : PV} {v : Value} (d : Den (KP D k own) h x v) : Den (KP D .raw own) h x v := d.to fun _ _ _ _ _ => trivial
theorem Ex.toRaw {e : Expr} {f : Rho → Option PV} (h : Ex D n c vars k e f) : Ex D n c vars .raw e f :=
  fun env A own ρ s x he hA S hf => wpAny_mono (h env A own ρ s x he hA S hf) (fun _ _ ⟨g, d⟩ => ⟨g, KP.toRaw d⟩) fun _ _ y => y

/-- a scalar may be stored and returned, whatever it came from -/
noncomputable def scF (f : Rho → Option PV) : Rho → Option PV := fun ρ => match f ρ with
  | some x => if x.sc then some x else none
  | none => none
theorem scF_some {f : Rho → Option PV} {ρ : Rho} {x : PV} (h : scF f ρ = some x) : f ρ = some x ∧ x.sc = true := by
  unfold scF at h
  split at h
  · split at h
    · cases h; exact ⟨by assumption, by assumption⟩
    · cases h
  · cases h
theorem Ex.ofSc {e : Expr} {f : Rho → Option PV} (h : Ex D n c vars .raw e f) : Ex D n c vars k e (scF f) :=
  fun env A own ρ s x he hA S hf => wpAny_mono (h env A own ρ s x he hA S (scF_some hf).1) (fun _ _ ⟨g, d⟩ => ⟨g, d.sc (scF_some hf).2⟩) fun _ _ y => y

noncomputable def intF (i : Int) : Rho → Option PV := fun _ => some (.int i)
noncomputable def strF (x : Str) : Rho → Option PV := fun _ => some (.str x)
noncomputable def boolF (b : Bool) : Rho → Option PV := fun _ => some (.bool b)
noncomputable def noneF : Rho → Option PV := fun _ => some .none
theorem ex_int {i : Int} {m : Nat} {pos : Pos} : Ex D n c vars k (.Constant (.int i) m pos) (intF i) :=
  fun env A own ρ s x he hA S hf => by cases hf; exact wpAny_Constant_int ⟨.tok S.tab, den_int⟩
theorem ex_str {y : Str} {m : Nat} {pos : Pos} : Ex D n c vars k (.Constant (.str y) m pos) (strF y) :=
  fun env A own ρ s x he hA S hf => by cases hf; exact wpAny_Constant_str ⟨.tok S.tab, den_str⟩
theorem ex_bool {b : Bool} {m : Nat} {pos : Pos} : Ex D n c vars k (.Constant (.bool b) m pos) (boolF b) :=
  fun env A own ρ s x he hA S hf => by cases hf; exact PySem.wpAny_Constant_bool ⟨.refl S.tab, den_bool⟩
theorem ex_none {m : Nat} {pos : Pos} : Ex D n c vars k (.Constant .none m pos) noneF :=
  fun env A own ρ s x he hA S hf => by cases hf; exact PySem.wpAny_Constant_none ⟨.refl S.tab, den_none⟩

theorem goodNames_at {sc : Scope} {x : Str} {i : Nat} (h : goodNames vars sc = true) (hx : vars[i]? = some (some x)) :
    (x == ("__debug__" : Str)) = false ∧ (x == ("__classdict__" : Str)) = false ∧ (sc.names.lookup x = some .local ∨ sc.names.lookup x = some .cell ∨ sc.names.lookup x = some .free) := by
  have q := List.all_eq_true.mp h _ (List.mem_of_getElem? hx)
  simp only [Bool.and_eq_true, Bool.or_eq_true, bne_iff_ne, ne_eq, beq_iff_eq] at q
  exact ⟨by simpa using q.1.1, by simpa using q.1.2, by rcases q.2 with (a | b) | c <;> simp [*]⟩

theorem loadVar {env : Env} {A : Around} {own : Own} {ρ : Rho} {s : Shared} {x : Str} {i : Nat} {sl : Slot} {Q : Value → Shared → Prop} {E : Value → Shared → Prop} (S : StE D env vars own ρ s)
    (hx : vars[i]? = some (some x)) (hr : ρ i = some sl) (h : ∀ v, SlotOk own s.heap (own i) sl v → Q v s) : wpAny D.M A (loadName env x) Q E s := by
  obtain ⟨m, hn, kk⟩ := S.vars
  obtain ⟨v, hv, hsl⟩ := kk i x sl hx hr
  obtain ⟨_, h2, h3⟩ := goodNames_at S.gn hx
  have hkd : env.kindOf x = some .local ∨ env.kindOf x = some .cell ∨ env.kindOf x = some .free := h3
  unfold VarAt at hv
  rcases hkd with q | q | q
  · rw [q] at hv; exact wpAny_loadName_local S.eo.kind q hn hv (h v hsl)
  · rw [q] at hv; obtain ⟨c, e1, e2⟩ := hv; exact wpAny_loadName_cell S.eo.kind q e1 e2 (h v hsl)
  · rw [q] at hv; obtain ⟨c, e1, e2⟩ := hv; exact wpAny_loadName_free S.eo.kind q e1 e2 (h v hsl) h2

noncomputable def getAny (i : Nat) : Rho → Option PV := fun ρ => match ρ i with
  | some (.fz x) => some x
  | some (.ow xs) => some (.list xs)
  | some (.ow2 xss) => some (.list (xss.map .list))
  | none => none
theorem Rows.den {P : Addr → Prop} {h : Heap} {xss : List (List PV)} {bs : List Addr} (r : Rows P h xss bs) : DenL All h (xss.map .list) (bs.map Value.ref) := by
  induction r with
  | nil => exact rfl
  | cons hl d _ ih => simp only [List.map_cons, DenL]; exact ⟨_, _, rfl, den_list trivial hl d.raw, ih⟩
noncomputable def getFz (i : Nat) : Rho → Option PV := fun ρ => match ρ i with
  | some (.fz x) => some x
  | _ => none
/-- what may be handed back: a scalar, an owned list of scalars -/
noncomputable def getRt (i : Nat) : Rho → Option PV := fun ρ => match ρ i with
  | some (.fz x) => if x.sc then some x else none
  | some (.ow xs) => if xs.all PV.sc then some (.list xs) else none
  | _ => none

theorem ex_name {x : Str} {pos : Pos} (i : Nat) (hx : vars[i]? = some (some x)) : Ex D n c vars .raw (.Name x pos) (getAny i) :=
  fun env A own ρ s y he hA S hf => by
    refine wpAny_Name ?_ (goodNames_at S.gn hx).1
    unfold getAny at hf
    split at hf
    · rename_i z hr; cases hf
      exact loadVar S hx hr fun v d => ⟨.refl S.tab, Den.raw d⟩
    · rename_i z hr; cases hf
      refine loadVar S hx hr fun v d => ⟨.refl S.tab, ?_⟩
      obtain ⟨a, vs, rfl, e2, l, d⟩ := d
      exact den_list trivial l.isList d.raw
    · rename_i z hr; cases hf
      refine loadVar S hx hr fun v d => ⟨.refl S.tab, ?_⟩
      obtain ⟨a, bs, rfl, e2, l, d⟩ := d
      exact den_list trivial l d.den
    · cases hf
theorem ex_nameC {x : Str} {pos : Pos} (i : Nat) (hx : vars[i]? = some (some x)) : Ex D n c vars .cl (.Name x pos) (getFz i) :=
  fun env A own ρ s y he hA S hf => by
    refine wpAny_Name ?_ (goodNames_at S.gn hx).1
    unfold getFz at hf
    split at hf
    · rename_i z hr; cases hf
      exact loadVar S hx hr fun v d => ⟨.refl S.tab, d⟩
    · cases hf
theorem ex_nameR {x : Str} {pos : Pos} (i : Nat) (hx : vars[i]? = some (some x)) : Ex D n c vars .rt (.Name x pos) (getRt i) :=
  fun env A own ρ s y he hA S hf => by
    refine wpAny_Name ?_ (goodNames_at S.gn hx).1
    unfold getRt at hf
    split at hf
    · rename_i z hr; split at hf
      · rename_i hs; cases hf
        exact loadVar S hx hr fun v d => ⟨.refl S.tab, Den.sc hs d⟩
      · cases hf
    · rename_i z hr; split at hf
      · rename_i hs; cases hf
        refine loadVar S hx hr fun v d => ⟨.refl S.tab, ?_⟩
        obtain ⟨a, vs, rfl, e2, l, d⟩ := d
        exact den_list (S.mn a (.inr (.inr ⟨i, by rw [e2]; exact .head _⟩))) l.isList (d.sc hs)
      · cases hf
    · cases hf

theorem ExN.toEx {e : Expr} {f : Rho → Option (List PV)} (h : ExN D n c vars e f) : Ex D n c vars .cl e (fun ρ => (f ρ).map .list) := fun env A own ρ s x he hA S hf => by
  obtain ⟨xs, hx, rfl⟩ := Option.map_eq_some_iff.mp hf
  refine wpAny_mono (h env A own ρ s xs he hA S hx) (fun v s' hv => ?_) fun _ _ y => y
  obtain ⟨g, a, vs, rfl, e0, l, d⟩ := hv
  exact ⟨g, den_list (S.clean e0) l.isList (d.to fun b o p _ _ => p.1)⟩
noncomputable def listRt (f : Rho → Option (List PV)) : Rho → Option PV := fun ρ => (f ρ).bind fun xs => if xs.all PV.sc then some (.list xs) else none
theorem ExN.toRt {e : Expr} {f : Rho → Option (List PV)} (h : ExN D n c vars e f) : Ex D n c vars .rt e (listRt f) := fun env A own ρ s x he hA S hf => by
  obtain ⟨xs, hx, hf⟩ := Option.bind_eq_some_iff.mp hf
  split at hf
  · rename_i hs; cases hf
    refine wpAny_mono (h env A own ρ s xs he hA S hx) (fun v s' hv => ?_) fun _ _ y => y
    obtain ⟨g, a, vs, rfl, e0, l, d⟩ := hv
    exact ⟨g, den_list (S.new0 e0) l.isList (d.sc hs)⟩
  · cases hf
end
end Mine
end
section
namespace Mine

noncomputable abbrev bits (a : Int) : Nat := Builtin.Int.intBits a

noncomputable def intV : Operator → Int → Int → Option Int
  | .Add, a, b => some (a + b)
  | .Sub, a, b => some (a - b)
  | .Mult, a, b => if bits a + bits b ≤ 134217728 then some (a * b) else none
  | .FloorDiv, a, b => if b ≠ 0 ∧ Builtin.divisionGoesByPylong a b = false then some (a.fdiv b) else none
  | .Mod, a, b => if b ≠ 0 then some (a.fmod b) else none
  | .Pow, a, b => if 0 ≤ b ∧ (bits a : Int) * b ≤ 134217728 then some (a ^ b.toNat) else none
  | .LShift, a, b => if 0 ≤ b ∧ (bits a : Int) + b ≤ 134217728 then some (a * 2 ^ b.toNat) else none
  | .RShift, a, b => if 0 ≤ b then some (a.fdiv (2 ^ b.toNat)) else none
  | .BitAnd, a, b => some (Builtin.bitAnd a b)
  | .BitOr, a, b => some (Builtin.bitOr a b)
  | .BitXor, a, b => some (Builtin.bitXor a b)
  | _, _, _ => none

noncomputable def binV (op : Operator) : PV → PV → Option PV
  | .int a, .int b => (intV op a b).map .int
  | .str x, .str y => match op with
    | .Add => if x.length + y.length ≤ 1000000 then some (.str (x ++ y)) else none
    | _ => none
  | .str x, .int n => match op with
    | .Mult => if 1 ≤ n ∧ n ≤ 1000 ∧ x.length ≤ 1000 then some (.str (Txt.mul x n)) else none
    | _ => none
  | _, _ => none

theorem mulOk_bits {a b : Int} (h : bits a + bits b ≤ 134217728) : IntMulOk a b := by
  unfold IntMulOk
  have : Builtin.Int.intTooBig ((Builtin.Int.intBits a : Nat) + (Builtin.Int.intBits b : Nat) : Int) = false := by
    unfold Builtin.Int.intTooBig
    rw [bitsLine_eq]
    apply decide_eq_false
    have := h
    simp only [bits] at this
    omega
  simp [this]

section
variable {D : Dt} {A : Around} {s : Shared} {P P' P'' : Addr → Prop}


theorem intV_ok {op : Operator} {a b c : Int} {t u : Tok} (tb : TabOk D.T s.heap) (h : intV op a b = some c) :
    wpAny D.M A (binaryOp op (.int a t) (.int b u)) (fun r s' => Grow D.T s s' ∧ Den P s'.heap (.int c) r) (fun _ _ => False) s := by
  cases op <;> simp only [intV] at h
  · cases h; exact PyProof.Rows.add_int ⟨.tok tb, den_int⟩
  · cases h; exact PyProof.Rows.sub_int ⟨.tok tb, den_int⟩
  · obtain ⟨q, rfl⟩ := ite_some h
    exact PyProof.Rows.mul_int ⟨.tok tb, den_int⟩ (mulOk_bits q)
  · cases h
  · cases h
  · obtain ⟨q, rfl⟩ := ite_some h
    exact PyProof.Rows.mod_int q ⟨.tok tb, den_int⟩
  · obtain ⟨q, rfl⟩ := ite_some h
    exact pow_int q.1 (by have := q.2; simpa using this) ⟨.tok tb, den_int⟩
  · obtain ⟨q, rfl⟩ := ite_some h
    exact lshift_int q.1 (by have := q.2; simpa using this) ⟨.tok tb, den_int⟩
  · obtain ⟨q, rfl⟩ := ite_some h
    exact rshift_int q ⟨.tok tb, den_int⟩
  · cases h; exact or_int ⟨.tok tb, den_int⟩
  · cases h; exact xor_int ⟨.tok tb, den_int⟩
  · cases h; exact and_int ⟨.tok tb, den_int⟩
  · obtain ⟨q, rfl⟩ := ite_some h
    exact floordiv_int q.1 ⟨.tok tb, den_int⟩ (.inl q.2)

theorem iintV_ok {op : Operator} {a b c : Int} {t u : Tok} (tb : TabOk D.T s.heap) (h : intV op a b = some c) (hop : op = .Add ∨ op = .Sub ∨ op = .LShift ∨ op = .RShift) :
    wpAny D.M A (inplaceOp op (.int a t) (.int b u)) (fun r s' => Grow D.T s s' ∧ Den P s'.heap (.int c) r) (fun _ _ => False) s := by
  rcases hop with rfl | rfl | rfl | rfl <;> simp only [intV] at h
  · cases h; exact PyProof.Rows.iadd_int ⟨.tok tb, den_int⟩
  · cases h; exact isub_int ⟨.tok tb, den_int⟩
  · obtain ⟨q, rfl⟩ := ite_some h
    exact ilshift_int q.1 (by have := q.2; simpa using this) ⟨.tok tb, den_int⟩
  · obtain ⟨q, rfl⟩ := ite_some h
    exact irshift_int q ⟨.tok tb, den_int⟩

theorem binV_ok {op : Operator} {x y z : PV} {v w : Value} (tb : TabOk D.T s.heap) (dx : Den P s.heap x v) (dy : Den P' s.heap y w) (h : binV op x y = some z) :
    wpAny D.M A (binaryOp op v w) (fun r s' => Grow D.T s s' ∧ Den P'' s'.heap z r) (fun _ _ => False) s := by
  unfold binV at h
  split at h
  · simp only [Den] at dx dy
    obtain ⟨t, rfl⟩ := dx; obtain ⟨u, rfl⟩ := dy
    obtain ⟨c, h1, rfl⟩ := Option.map_eq_some_iff.mp h
    exact intV_ok tb h1
  · simp only [Den] at dx dy
    obtain ⟨t, rfl⟩ := dx; obtain ⟨u, rfl⟩ := dy
    split at h
    · obtain ⟨q, rfl⟩ := ite_some h
      exact PyProof.Rows.add_str (fun t' tk => ⟨.tok tb, den_str⟩) (by rw [sizeLine_eq]; omega)
    · cases h
  · simp only [Den] at dx dy
    obtain ⟨t, rfl⟩ := dx; obtain ⟨u, rfl⟩ := dy
    split at h
    · obtain ⟨q, rfl⟩ := ite_some h
      exact SB.mul (mulOk_of 1000 1000 q.2.2 (by omega) (by omega) (by decide) (by decide)) fun t' tk => ⟨.tok tb, den_str⟩
    · cases h
  · cases h
end

section
variable {D : Dt} {n : Nat} {c : Sct} {vars : List (Option Str)} {k : Kd}

noncomputable def binF (op : Operator) (f g : Rho → Option PV) : Rho → Option PV := fun ρ => (f ρ).bind fun x => (g ρ).bind fun y => binV op x y
theorem bind2 {f : Option PV} {g : Option PV} {h : PV → PV → Option PV} {z : PV} (e : (f.bind fun x => g.bind fun y => h x y) = some z) : ∃ x y, f = some x ∧ g = some y ∧ h x y = some z := by
  obtain ⟨x, hx, e⟩ := Option.bind_eq_some_iff.mp e
  obtain ⟨y, hy, e⟩ := Option.bind_eq_some_iff.mp e
  exact ⟨x, y, hx, hy, e⟩

theorem ex_bin {op : Operator} {e1 e2 : Expr} {pos : Pos} {f g : Rho → Option PV} (h1 : Ex D n c vars .raw e1 f) (h2 : Ex D n c vars .raw e2 g) :
    Ex D n c vars k (.BinOp e1 op e2 pos) (binF op f g) := fun env A own ρ s z he hA S hf => by
  obtain ⟨x, y, hx, hy, hz⟩ := bind2 hf
  refine wpAny_BinOp (wpAny_mono (h1 env A own ρ s x he hA S hx) (fun v s1 ⟨g1, d1⟩ => ?_) fun _ _ q => q)
  have S1 := S.grow g1
  refine wpAny_mono (h2 env A own ρ s1 y he hA S1 hy) (fun w s2 ⟨g2, d2⟩ => ?_) fun _ _ q => q
  refine wpAny_mono (binV_ok (P'' := KP D k own) g2.tab (d1.grow g2 S1.tab) d2 hz) (fun r s3 ⟨g3, d3⟩ => ⟨(g1.then g2).then g3, d3⟩) fun _ _ q => q

noncomputable def unV : UnaryOp → PV → Option PV
  | .USub, .int a => some (.int (-a))
  | .Invert, .int a => some (.int (Builtin.bitNot a))
  | _, _ => none
noncomputable def unF (op : UnaryOp) (f : Rho → Option PV) : Rho → Option PV := fun ρ => (f ρ).bind fun x => unV op x
theorem ex_un {op : UnaryOp} {e : Expr} {pos : Pos} {f : Rho → Option PV} (h : Ex D n c vars .raw e f) : Ex D n c vars k (.UnaryOp op e pos) (unF op f) := fun env A own ρ s z he hA S hf => by
  obtain ⟨x, hx, hz⟩ := Option.bind_eq_some_iff.mp hf
  refine wpAny_UnaryOp (wpAny_mono (h env A own ρ s x he hA S hx) (fun v s1 ⟨g1, d1⟩ => ?_) fun _ _ q => q)
  unfold unV at hz
  split at hz
  · cases hz; simp only [Den] at d1; obtain ⟨t, rfl⟩ := d1
    exact PyProof.Rows.neg_int ⟨g1.then (.tok g1.tab), den_int⟩
  · cases hz; simp only [Den] at d1; obtain ⟨t, rfl⟩ := d1
    exact invert_int ⟨g1.then (.tok g1.tab), den_int⟩
  · cases hz

noncomputable def truthV : PV → Option Bool
  | .none => some false
  | .bool b => some b
  | .int i => some (i != 0)
  | .str x => if x.length ≤ 1000000 then some ((x.length : Int) != 0) else none
  | .list xs => if xs.length ≤ 1000000 then some (!xs.isEmpty) else none
  | _ => none

theorem truthV_ok {A : Around} {s : Shared} {P : Addr → Prop} {x : PV} {v : Value} {b : Bool} (tb : TabOk D.T s.heap) (d : Den P s.heap x v) (h : truthV x = some b) :
    wpAny D.M A (truthy v) (fun r s' => Grow D.T s s' ∧ r = b) (fun _ _ => False) s := by
  unfold truthV at h
  split at h
  · cases h; simp only [Den] at d; subst d; exact truthy_none ⟨.refl tb, rfl⟩
  · cases h; simp only [Den] at d; subst d; exact wpAny_truthy_bool ⟨.refl tb, rfl⟩
  · cases h; simp only [Den] at d; obtain ⟨t, rfl⟩ := d; exact truthy_int ⟨.refl tb, rfl⟩
  · simp only [Den] at d; obtain ⟨t, rfl⟩ := d
    obtain ⟨_, rfl⟩ := ite_some h
    exact PySem.P.truthy_str (by omega) ⟨.tok tb, rfl⟩
  · rename_i xs
    simp only [Den] at d; obtain ⟨a, vs, rfl, _, hl, dl⟩ := d
    obtain ⟨_, rfl⟩ := ite_some h
    have hlen := dl.length
    refine wpAny_truthy_list hl (by simp; omega) ⟨.tok tb, ?_⟩
    cases xs <;> cases vs <;> simp_all
  · cases h

/-- an expression as a test -/
noncomputable def isPlain : Expr → Bool
  | .UnaryOp .Not _ _ => false
  | .BoolOp .. => false
  | .IfExp .. => false
  | .Compare .. => false
  | _ => true
noncomputable def tstF (f : Rho → Option PV) : Rho → Option Bool := fun ρ => (f ρ).bind truthV
theorem tx_plain {e : Expr} {f : Rho → Option PV} (h : Ex D n c vars .raw e f) (he : ∀ env whole, isTrue e env whole = (do let v ← whole; standAt e.pos; holding [v] (truthy v)) := by intro _ _; rfl) :
    Tx D n c vars e (tstF f) := fun env A own ρ s b hs hA S hf => by
  obtain ⟨x, hx, hb⟩ := Option.bind_eq_some_iff.mp hf
  refine wpAny_isTrue_value (wpAny_mono (h env A own ρ s x hs hA S hx) (fun v s1 ⟨g1, d1⟩ => ?_) fun _ _ q => q) (he _ _)
  exact wpAny_mono (truthV_ok g1.tab d1 hb) (fun r s2 ⟨g2, e2⟩ => ⟨g1.then g2, e2⟩) fun _ _ q => q

noncomputable def notF (f : Rho → Option Bool) : Rho → Option Bool := fun ρ => (f ρ).map (!·)
theorem tx_not {e : Expr} {pos : Pos} {f : Rho → Option Bool} (h : Tx D n c vars e f) : Tx D n c vars (.UnaryOp .Not e pos) (notF f) := fun env A own ρ s b hs hA S hf => by
  obtain ⟨x, hx, rfl⟩ := Option.map_eq_some_iff.mp hf
  exact wpAny_isTrue_Not (wpAny_mono (h env A own ρ s x hs hA S hx) (fun v s1 ⟨g1, e1⟩ => ⟨g1, by rw [e1]⟩) fun _ _ q => q)

noncomputable def andL : List (Rho → Option Bool) → Rho → Option Bool
  | [], _ => some true
  | f :: r, ρ => (f ρ).bind fun b => if b then andL r ρ else some false
noncomputable def orL : List (Rho → Option Bool) → Rho → Option Bool
  | [], _ => some false
  | f :: r, ρ => (f ρ).bind fun b => if b then some true else orL r ρ

inductive TxL (D : Dt) (n : Nat) (c : Sct) (vars : List (Option Str)) : List Expr → List (Rho → Option Bool) → Prop where
  | nil : TxL D n c vars [] []
  | cons {e : Expr} {es : List Expr} {f : Rho → Option Bool} {fs : List (Rho → Option Bool)} : Tx D n c vars e f → TxL D n c vars es fs → TxL D n c vars (e :: es) (f :: fs)

theorem allTrue_and {es : List Expr} {fs : List (Rho → Option Bool)} (h : TxL D n c vars es fs) : ∀ {env : Env} {A : Around} {own : Own} {ρ : Rho} {s : Shared} {b : Bool}, InC c env → OkA n A → StE D env vars own ρ s →
    andL fs ρ = some b → wpAny D.M A (allTrue .And es env) (fun v s' => Grow D.T s s' ∧ v = b) (fun _ _ => False) s := by
  induction h with
  | nil => intro env A own ρ s b _ _ S h; cases h; exact wpAny_allTrue_And_nil ⟨.refl S.tab, rfl⟩
  | cons h1 _ ih =>
    intro env A own ρ s b hs hA S h
    obtain ⟨x, hx, hb⟩ := Option.bind_eq_some_iff.mp h
    refine wpAny_allTrue_And_cons (wpAny_mono (h1 env A own ρ s x hs hA S hx) (fun v s1 ⟨g1, e1⟩ => ?_) fun _ _ q => q)
    subst e1
    cases v with
    | false => simp only [Bool.false_eq_true, if_false] at hb ⊢; cases hb; exact ⟨g1, rfl⟩
    | true =>
      simp only [if_true] at hb ⊢
      exact wpAny_mono (ih hs hA (S.grow g1) hb) (fun r s2 ⟨g2, e2⟩ => ⟨g1.then g2, e2⟩) fun _ _ q => q
theorem allTrue_or {es : List Expr} {fs : List (Rho → Option Bool)} (h : TxL D n c vars es fs) : ∀ {env : Env} {A : Around} {own : Own} {ρ : Rho} {s : Shared} {b : Bool}, InC c env → OkA n A → StE D env vars own ρ s →
    orL fs ρ = some b → wpAny D.M A (allTrue .Or es env) (fun v s' => Grow D.T s s' ∧ v = b) (fun _ _ => False) s := by
  induction h with
  | nil => intro env A own ρ s b _ _ S h; cases h; exact wpAny_allTrue_Or_nil ⟨.refl S.tab, rfl⟩
  | cons h1 _ ih =>
    intro env A own ρ s b hs hA S h
    obtain ⟨x, hx, hb⟩ := Option.bind_eq_some_iff.mp h
    refine wpAny_allTrue_Or_cons (wpAny_mono (h1 env A own ρ s x hs hA S hx) (fun v s1 ⟨g1, e1⟩ => ?_) fun _ _ q => q)
    subst e1
    cases v with
    | true => simp only [if_true] at hb ⊢; cases hb; exact ⟨g1, rfl⟩
    | false =>
      simp only [Bool.false_eq_true, if_false] at hb ⊢
      exact wpAny_mono (ih hs hA (S.grow g1) hb) (fun r s2 ⟨g2, e2⟩ => ⟨g1.then g2, e2⟩) fun _ _ q => q
theorem tx_and {es : List Expr} {pos : Pos} {fs : List (Rho → Option Bool)} (h : TxL D n c vars es fs) : Tx D n c vars (.BoolOp .And es pos) (andL fs) := fun env A own ρ s b hs hA S hf =>
  wpAny_isTrue_BoolOp (allTrue_and h hs hA S hf)
theorem tx_or {es : List Expr} {pos : Pos} {fs : List (Rho → Option Bool)} (h : TxL D n c vars es fs) : Tx D n c vars (.BoolOp .Or es pos) (orL fs) := fun env A own ρ s b hs hA S hf =>
  wpAny_isTrue_BoolOp (allTrue_or h hs hA S hf)

noncomputable def iteF (t : Rho → Option Bool) (f g : Rho → Option PV) : Rho → Option PV := fun ρ => (t ρ).bind fun b => if b then f ρ else g ρ
theorem ex_ite {t a b : Expr} {pos : Pos} {ft : Rho → Option Bool} {fa fb : Rho → Option PV} (ht : Tx D n c vars t ft) (ha : Ex D n c vars k a fa) (hb : Ex D n c vars k b fb) :
    Ex D n c vars k (.IfExp t a b pos) (iteF ft fa fb) := fun env A own ρ s z he hA S hf => by
  obtain ⟨x, hx, hz⟩ := Option.bind_eq_some_iff.mp hf
  refine wpAny_IfExp (wpAny_mono (ht env A own ρ s x he hA S hx) (fun v s1 ⟨g1, e1⟩ => ?_) fun _ _ q => q)
  subst e1
  cases v with
  | true =>
    simp only [if_true] at hz ⊢
    exact wpAny_mono (ha env A own ρ s1 z he hA (S.grow g1) hz) (fun r s2 ⟨g2, e2⟩ => ⟨g1.then g2, e2⟩) fun _ _ q => q
  | false =>
    simp only [Bool.false_eq_true, if_false] at hz ⊢
    exact wpAny_mono (hb env A own ρ s1 z he hA (S.grow g1) hz) (fun r s2 ⟨g2, e2⟩ => ⟨g1.then g2, e2⟩) fun _ _ q => q

/-- «x or y» as a value, scalars -/
noncomputable def orF (f g : Rho → Option PV) : Rho → Option PV := fun ρ => (f ρ).bind fun x => (truthV x).bind fun b => if b then some x else g ρ
theorem ex_or {a b : Expr} {pos : Pos} {fa fb : Rho → Option PV} (ha : Ex D n c vars k a fa) (hb : Ex D n c vars k b fb) : Ex D n c vars k (.BoolOp .Or [a, b] pos) (orF fa fb) := fun env A own ρ s z he hA S hf => by
  obtain ⟨x, hx, hz⟩ := Option.bind_eq_some_iff.mp hf
  obtain ⟨cc, hc, hz⟩ := Option.bind_eq_some_iff.mp hz
  refine wpAny_Or2 (wpAny_mono (ha env A own ρ s x he hA S hx) (fun v s1 ⟨g1, d1⟩ => ?_) fun _ _ q => q)
  refine wpAny_mono (truthV_ok g1.tab d1 hc) (fun r s2 ⟨g2, e2⟩ => ?_) fun _ _ q => q
  subst e2
  have S1 := S.grow g1
  cases r with
  | true =>
    simp only [if_true] at hz ⊢; cases hz
    exact ⟨g1.then g2, d1.grow g2 g1.tab⟩
  | false =>
    simp only [Bool.false_eq_true, if_false] at hz ⊢
    exact wpAny_mono (hb env A own ρ s2 z he hA (S1.grow g2) hz) (fun r s3 ⟨g3, e3⟩ => ⟨(g1.then g2).then g3, e3⟩) fun _ _ q => q

/-- scalars compared -/
noncomputable def cmpII (a b : Int) : CmpOp → Option Bool
  | .Eq => some (a == b)
  | .NotEq => some (a != b)
  | .Lt => some (decide (a < b))
  | .LtE => some (decide (a ≤ b))
  | .Gt => some (decide (b < a))
  | .GtE => some (decide (b ≤ a))
  | _ => none
noncomputable def cmpSS (a b : Str) : CmpOp → Option Bool
  | .Eq => some (a == b)
  | .NotEq => some (a != b)
  | .NotIn => some (!(!(Builtin.Str.occurrences b a 0 b.length 1).isEmpty))
  | _ => none
noncomputable def cmpBB (a b : Bool) : CmpOp → Option Bool
  | .Is => some (a == b)
  | .IsNot => some (a != b)
  | _ => none
noncomputable def cmpNN (x : Bool) : CmpOp → Option Bool
  | .Is => some x
  | .IsNot => some (!x)
  | _ => none
noncomputable def cmpV (op : CmpOp) : PV → PV → Option Bool
  | .int a, .int b => cmpII a b op
  | .str a, .str b => cmpSS a b op
  | .bool a, .bool b => cmpBB a b op
  | .none, .none => cmpNN true op
  | .int _, .none => cmpNN false op
  | _, _ => none

theorem cmpV_ok {A : Around} {s : Shared} {P P' : Addr → Prop} {op : CmpOp} {x y : PV} {v w : Value} {b : Bool} (tb : TabOk D.T s.heap) (dx : Den P s.heap x v) (dy : Den P' s.heap y w) (h : cmpV op x y = some b) :
    wpAny D.M A (compareOp op v w) (fun r s' => Grow D.T s s' ∧ r = .bool b) (fun _ _ => False) s := by
  unfold cmpV at h
  split at h <;> (first | (cases h; done) | skip) <;> simp only [Den] at dx dy
  · obtain ⟨t, rfl⟩ := dx; obtain ⟨u, rfl⟩ := dy
    cases op with
    | Eq => cases h; exact PyProof.Rows.eq_int ⟨.refl tb, rfl⟩
    | NotEq => cases h; exact PyProof.Rows.ne_int ⟨.refl tb, rfl⟩
    | Lt => cases h; exact PyProof.Rows.lt_int ⟨.refl tb, rfl⟩
    | LtE => cases h; exact PyProof.Rows.le_int ⟨.refl tb, rfl⟩
    | Gt => cases h; exact PyProof.Rows.gt_int ⟨.refl tb, rfl⟩
    | GtE => cases h; exact PyProof.Rows.ge_int ⟨.refl tb, rfl⟩
    | _ => cases h
  · obtain ⟨t, rfl⟩ := dx; obtain ⟨u, rfl⟩ := dy
    cases op with
    | Eq => cases h; exact PyProof.Rows.eq_str ⟨.refl tb, rfl⟩
    | NotEq => cases h; exact PyProof.Rows.ne_str ⟨.refl tb, rfl⟩
    | NotIn => cases h; exact PyProof.Rows.notIn_str ⟨.refl tb, rfl⟩
    | _ => cases h
  · subst dx dy
    cases op with
    | Is => cases h; exact is_bool ⟨.refl tb, rfl⟩
    | IsNot => cases h; exact isnot_bool ⟨.refl tb, rfl⟩
    | _ => cases h
  · subst dx dy
    cases op with
    | Is => cases h; exact is_none_none ⟨.refl tb, rfl⟩
    | IsNot => cases h; exact isnot_none_none ⟨.refl tb, rfl⟩
    | _ => cases h
  · obtain ⟨t, rfl⟩ := dx; subst dy
    cases op with
    | Is => cases h; exact is_int_none ⟨.refl tb, rfl⟩
    | IsNot => cases h; exact isnot_int_none ⟨.refl tb, rfl⟩
    | _ => cases h

noncomputable def cmpF (op : CmpOp) (f g : Rho → Option PV) : Rho → Option Bool := fun ρ => (f ρ).bind fun x => (g ρ).bind fun y => cmpV op x y
theorem bind2b {f : Option PV} {g : Option PV} {h : PV → PV → Option Bool} {z : Bool} (e : (f.bind fun x => g.bind fun y => h x y) = some z) : ∃ x y, f = some x ∧ g = some y ∧ h x y = some z := by
  obtain ⟨x, hx, e⟩ := Option.bind_eq_some_iff.mp e
  obtain ⟨y, hy, e⟩ := Option.bind_eq_some_iff.mp e
  exact ⟨x, y, hx, hy, e⟩
theorem tx_cmp {op : CmpOp} {e1 e2 : Expr} {pos : Pos} {f g : Rho → Option PV} (h1 : Ex D n c vars .raw e1 f) (h2 : Ex D n c vars .raw e2 g) (hm : behindInMarks op e2 = false := by with_unfolding_all rfl) :
    Tx D n c vars (.Compare e1 [op] [e2] pos) (cmpF op f g) := fun env A own ρ s b he hA S hf => by
  obtain ⟨x, y, hx, hy, hz⟩ := bind2b hf
  refine wpAny_isTrue_Compare1 (wpAny_mono (h1 env A own ρ s x he hA S hx) (fun v s1 ⟨g1, d1⟩ => ?_) fun _ _ q => q) hm
  have S1 := S.grow g1
  refine wpAny_mono (h2 env A own ρ s1 y he hA S1 hy) (fun w s2 ⟨g2, d2⟩ => ?_) fun _ _ q => q
  refine wpAny_mono (cmpV_ok g2.tab (d1.grow g2 S1.tab) d2 hz) (fun r s3 ⟨g3, e3⟩ => ?_) fun _ _ q => q
  subst e3
  exact wpAny_truthy_bool ⟨(g1.then g2).then g3, rfl⟩
noncomputable def cmpB (op : CmpOp) (f g : Rho → Option PV) : Rho → Option PV := fun ρ => (cmpF op f g ρ).map .bool
theorem ex_cmp {op : CmpOp} {e1 e2 : Expr} {pos : Pos} {f g : Rho → Option PV} (h1 : Ex D n c vars .raw e1 f) (h2 : Ex D n c vars .raw e2 g) (hm : behindInMarks op e2 = false := by with_unfolding_all rfl) :
    Ex D n c vars k (.Compare e1 [op] [e2] pos) (cmpB op f g) := fun env A own ρ s z he hA S hf => by
  obtain ⟨b, hb, rfl⟩ := Option.map_eq_some_iff.mp hf
  obtain ⟨x, y, hx, hy, hz⟩ := bind2b hb
  refine wpAny_Compare1 (wpAny_mono (h1 env A own ρ s x he hA S hx) (fun v s1 ⟨g1, d1⟩ => ?_) fun _ _ q => q) hm
  have S1 := S.grow g1
  refine wpAny_mono (h2 env A own ρ s1 y he hA S1 hy) (fun w s2 ⟨g2, d2⟩ => ?_) fun _ _ q => q
  refine wpAny_mono (cmpV_ok g2.tab (d1.grow g2 S1.tab) d2 hz) (fun r s3 ⟨g3, e3⟩ => ?_) fun _ _ q => q
  subst e3
  exact ⟨(g1.then g2).then g3, den_bool⟩
end
end Mine
end
section
namespace Mine

inductive Out where
  | next (ρ : Rho)
  | ret (x : PV)

structure Trk (D : Dt) (env : Env) (own : Own) (s : Shared) (own' : Own) (s' : Shared) : Prop where
  g : Gr D.T (Mut env own) s s'
  o : ∀ i a, a ∈ own' i → (∃ j, a ∈ own j) ∨ s.heap.get? a = none

noncomputable def OutOk (D : Dt) (env : Env) (vars : List (Option Str)) (own : Own) (s : Shared) (o : Out) (fl : Flow) (s' : Shared) : Prop := match o, fl with
  | .next ρ', .next => ∃ own', StE D env vars own' ρ' s' ∧ Trk D env own s own' s'
  | .ret x, .ret v => Gr D.T (Mut env own) s s' ∧ Den (fun a => D.h1.get? a = none) s'.heap x v
  | _, _ => False

/-- a suite -/
noncomputable def Sx (D : Dt) (n : Nat) (c : Sct) (vars : List (Option Str)) (st : List Stmt) (f : Rho → Option Out) : Prop :=
  ∀ (env : Env) (A : Around) (own : Own) (ρ : Rho) (s : Shared) (o : Out), InC c env → OkA n A → StE D env vars own ρ s → f ρ = some o →
    wpAny D.M A (execs st env) (fun fl s' => OutOk D env vars own s o fl s') (fun _ _ => False) s
/-- a statement -/
noncomputable def S1 (D : Dt) (n : Nat) (c : Sct) (vars : List (Option Str)) (st : Stmt) (f : Rho → Option Out) : Prop :=
  ∀ (env : Env) (A : Around) (own : Own) (ρ : Rho) (s : Shared) (o : Out), InC c env → OkA n A → StE D env vars own ρ s → f ρ = some o →
    wpAny D.M A (exec st env) (fun fl s' => OutOk D env vars own s o fl s') (fun _ _ => False) s

section
variable {D : Dt} {env : Env} {vars : List (Option Str)} {own own' own'' : Own} {ρ ρ' : Rho} {s s' s'' : Shared}
theorem Mut.old (S : StE D env vars own ρ s) {a : Addr} (m : Mut env own a) : ∃ o, s.heap.get? a = some o := by
  rcases m with rfl | ⟨x, h1, h2⟩ | ⟨i, h⟩
  · obtain ⟨m, ⟨o, _, _, e, _⟩, _⟩ := S.vars; exact ⟨o, e⟩
  · obtain ⟨c, v, e1, ⟨o, e2, _⟩⟩ := S.ce x h1
    rw [h2] at e1; cases e1; exact ⟨o, e2⟩
  · obtain ⟨o, e, _⟩ := S.oe i a h; exact ⟨o, e⟩
theorem Trk.ofGrow (g : Grow D.T s s') (t : TabOk D.T s.heap) : Trk D env own s own s' := ⟨g.up t fun _ f => f.elim, fun i a m => .inl ⟨i, m⟩⟩
theorem Trk.mut (x : Trk D env own s own' s') {b : Addr} {o : Obj} (e : s.heap.get? b = some o) (m : Mut env own' b) : Mut env own b := by
  rcases m with rfl | h | ⟨i, h⟩
  · exact .inl rfl
  · exact .inr (.inl h)
  · rcases x.o i b h with h | h
    · exact .inr (.inr h)
    · rw [e] at h; cases h
theorem Trk.trans (x : Trk D env own s own' s') (y : Trk D env own' s' own'' s'') (t : TabOk D.T s.heap) : Trk D env own s own'' s'' := by
  refine ⟨x.g.trans y.g t (fun _ m => m) fun b o e m => x.mut e m, fun i a m => ?_⟩
  rcases y.o i a m with ⟨j, h⟩ | h
  · exact x.o j a h
  · exact .inr (x.g.none t h)
theorem OutOk.trans {o : Out} {fl : Flow} (x : Trk D env own s own' s') (t : TabOk D.T s.heap) (y : OutOk D env vars own' s' o fl s'') : OutOk D env vars own s o fl s'' := by
  cases o with
  | next ρ =>
    cases fl <;> first | exact y.elim | skip
    obtain ⟨ow, S, k⟩ := y
    exact ⟨ow, S, x.trans k t⟩
  | ret z =>
    cases fl <;> first | exact y.elim | skip
    exact ⟨x.g.trans y.1 t (fun _ m => m) fun b o e m => x.mut e m, y.2⟩

noncomputable def setO (own : Own) (i : Nat) (L : List Addr) : Own := fun j => if j = i then L else own j
theorem setO_self {i : Nat} {L : List Addr} : setO own i L i = L := by simp [setO]
theorem setO_ne {i j : Nat} {L : List Addr} (h : j ≠ i) : setO own i L j = own j := by simp [setO, h]

/-- a name is bound -/
theorem StE.storeL {A : Around} {E : Value → Shared → Prop} {i : Nat} {x : Str} {sl : Slot} {v : Value} {L : List Addr} {Q : Unit → Shared → Prop} {s1 : Shared} (S : StE D env vars own ρ s) (g : Grow D.T s s1)
    (hx : vars[i]? = some (some x)) (hk : env.kindOf x = some .local ∨ env.kindOf x = some .cell)
    (hL : ∀ a ∈ L, s.heap.get? a = none ∧ ∃ o, s1.heap.get? a = some o ∧ LT o) (hN : L.Nodup) (hv : SlotOk (setO own i L) s1.heap L sl v)
    (h : ∀ s2, StE D env vars (setO own i L) (upd ρ i sl) s2 → Trk D env own s (setO own i L) s2 → (∀ b o, LT o → s1.heap.get? b = some o → s2.heap.get? b = some o) → (env.kindOf x = some .local → Gr D.T (fun b => b = env.locals) s1 s2) → Q () s2) :
    wpAny D.M A (storeName env x v) Q E s1 := by
  have S1 := S.grow g
  -- all but the storing itself
  have key : ∀ (h' : Heap) (tk : Nat) (a : Addr) (oa o' : Obj), s1.heap.get? a = some oa → h'.get? a = some o' → NT oa → (LT oa → False) → Mut env own a → (env.kindOf x = some .local → a = env.locals) → (∀ b o, b ≠ a → s1.heap.get? b = some o → h'.get? b = some o) →
      (∀ y, env.kindOf y = some .cell → ∀ c, env.cells.lookup y = some c → c = a → ∃ v, h'.IsCell c v) →
      (∃ m, h'.Ns env.locals m ∧ VarAt env m h' x v ∧ ∀ (j : Nat) (y : Str) (w : Value), y ≠ x → vars[j]? = some (some y) → (∀ m0 : Str → Option Value, s1.heap.Ns env.locals m0 → VarAt env m0 s1.heap y w → VarAt env m h' y w)) →
      Q () { s1 with heap := h', toks := tk } := by
    intro h' tk a oa o' ea ea' nt nl mu lo kb kc ⟨m, hm1, hm2, hm3⟩
    have gb : Gr D.T (Mut env own) s1 { s1 with heap := h', toks := tk } := Gr.but S1.tab ea ea' nt mu kb
    have klt : ∀ b o, LT o → s1.heap.get? b = some o → h'.get? b = some o := fun b o l e => kb b o (by rintro rfl; rw [ea] at e; cases e; exact nl l) e
    have hLm : ∀ a ∈ L, ∀ j, a ∉ own j := fun a ha j m => by
      obtain ⟨o, e, _⟩ := S.oe j a m
      rw [(hL a ha).1] at e; cases e
    refine h _ ⟨S.ok, fun b o n e => ?_, gb.tab, S.eo, S.gn, S.vd, fun b mb => ?_, fun j b mb => ?_, fun j k b hj hk' => ?_, fun j => ?_, fun j hj hj2 => ?_, fun y hy => ?_, fun y c hy => (S1.ca y c hy).elim fun o e => gb.exAll S1.tab e, S.cd, m, hm1, fun j y sj hj hr => ?_⟩ ⟨?_, fun j b mb => ?_⟩ klt fun q => Gr.but S1.tab ea ea' nt (lo q) kb
    · exact gb.kp b o n (fun w => by have := S.mn b w; rw [e] at this; cases this) (S1.base b o n e)
    · rcases mb with rfl | hc | ⟨j, hj⟩
      · exact S.mn _ (.inl rfl)
      · exact S.mn _ (.inr (.inl hc))
      · unfold setO at hj
        split at hj
        · exact S.new0 (hL b hj).1
        · exact S.mn _ (.inr (.inr ⟨j, hj⟩))
    · unfold setO at mb
      split at mb
      · obtain ⟨_, o, e, l⟩ := hL b mb; exact ⟨o, klt b o l e, l⟩
      · obtain ⟨o, e, l⟩ := S1.oe j b mb; exact ⟨o, klt b o l e, l⟩
    · unfold setO at hj hk'
      split at hj <;> split at hk'
      · grind
      · exact absurd hk' (hLm b hj k)
      · exact absurd hj (hLm b hk' j)
      · exact S.od j k b hj hk'
    · unfold setO; split
      · exact hN
      · exact S.on j
    · have : i < vars.length := (List.getElem?_eq_some_iff.mp hx).1
      rw [setO_ne (by omega)]; exact S.ob j hj hj2
    · obtain ⟨c, v0, e1, e2⟩ := S1.ce y hy
      by_cases q : c = a
      · obtain ⟨v1, e3⟩ := kc y hy c e1 q; exact ⟨c, v1, e1, e3⟩
      · obtain ⟨o, e2, e3⟩ := e2; exact ⟨c, v0, e1, o, kb c o q e2, e3⟩
    · by_cases hji : j = i
      · subst hji
        rw [hx] at hj; cases hj
        rw [upd_self] at hr; cases hr
        rw [setO_self]
        exact ⟨v, hm2, hv.imp (fun b o p l e => ⟨klt b o l e, p⟩) fun b _ o l e => klt b o l e⟩
      · rw [upd_ne hji] at hr
        rw [setO_ne hji]
        obtain ⟨m0, n0, k0⟩ := S.vars
        obtain ⟨w, w1, w2⟩ := k0 j y sj hj hr
        obtain ⟨m1, n1, k1⟩ := S1.vars
        have hyx : y ≠ x := by rintro rfl; exact hji (S.vd j i y hj hx)
        have n1' : s1.heap.Ns env.locals m0 := by
          have q := S.tab.nsne n0
          obtain ⟨o, es, ep, e, r⟩ := n0
          exact ⟨o, es, ep, g.kp _ _ q id e, r⟩
        refine ⟨w, hm3 j y w hyx hj m0 n1' (w1.imp (fun _ => rfl) fun c _ e1 e2 => ?_), w2.imp (fun b o p l e => ⟨klt b o l (g.kp b o (S.tab.ltne e l) id e), fun k hk => ?_⟩) fun b _ o l e => klt b o l (g.kp b o (S.tab.ltne e l) id e)⟩
        · have q := S.tab.cellne e2
          obtain ⟨o, e, r⟩ := e2
          exact ⟨o, g.kp c o q id e, r⟩
        · unfold setO at hk
          split at hk
          · rw [(hL b hk).1] at e; cases e
          · exact p k hk
    · exact (Trk.ofGrow (env := env) (own := own) g S.tab).g.trans gb S.tab (fun _ m => m) fun b o e m => m
    · unfold setO at mb
      split at mb
      · exact .inr (hL b mb).1
      · exact .inl ⟨j, mb⟩
  obtain ⟨m, hn, kk⟩ := S1.vars
  have uniq : ∀ m0, s1.heap.Ns env.locals m0 → m0 = m := fun m0 ⟨o1, es1, ep1, e1, d1, _, r1⟩ => by
    obtain ⟨o, es, ep, e, d, _, r⟩ := hn
    rw [e] at e1; cases e1
    rw [d] at d1; cases d1
    funext z; rw [← r1 z, ← r z]
  rcases hk with hk | hk
  · refine wpAny_storeName_local hk hn (fun h' hn' hs' => ?_) (by rw [S.eo.kind]; rfl)
    obtain ⟨o, es, ep, e, hd, hr⟩ := id hn
    obtain ⟨o', es', ep', e', hd', hr'⟩ := id hn'
    have cn : ∀ {cc : Addr} {v : Option Value}, s1.heap.IsCell cc v → cc ≠ env.locals := by
      rintro cc v ⟨oc, ec, dc⟩ rfl
      rw [e] at ec; cases ec; rw [hd] at dc; cases dc
    refine key h' _ env.locals o o' e e' (.dict hd) (fun l => l.notDict hd) (.inl rfl) (fun _ => rfl) (fun b o hb e => hs'.extBut b o hb e) ?_ ⟨_, hn', ?_, ?_⟩
    · intro y hy cc hc q
      obtain ⟨c2, v2, e2, e3⟩ := S1.ce y hy
      rw [hc] at e2; cases e2
      exact absurd q (cn e3)
    · unfold VarAt; rw [hk]; exact if_pos rfl
    · intro j y w hyx hj m0 hm0 hv0
      rw [uniq m0 hm0] at hv0
      refine hv0.imp (fun _ => by exact if_neg hyx) fun cc _ _ e2 => ?_
      have := cn e2
      exact e2.sameBut hs' this
  · obtain ⟨cc, v0, hc, hv0⟩ := S1.ce x hk
    refine wpAny_storeName_cell S.eo.kind hk hc hv0 fun h' hc' hs' => ?_
    obtain ⟨oc, ec, dc⟩ := id hv0
    obtain ⟨oc', ec', dc'⟩ := id hc'
    refine key h' s1.toks cc oc oc' ec ec' (.cell dc) (fun l => l.notCell dc) (.inr (.inl ⟨x, hk, hc⟩)) (fun q => by rw [hk] at q; cases q) (fun b o hb e => hs'.extBut b o hb e) ?_ ⟨m, ?_, ?_, ?_⟩
    · intro y hy c2 hc2 q; subst q; exact ⟨_, hc'⟩
    · refine hn.sameBut hs' ?_
      rintro rfl
      obtain ⟨o, es, ep, e, hd, hr⟩ := hn
      rw [e] at ec; cases ec; rw [hd] at dc; cases dc
    · unfold VarAt; rw [hk]; exact ⟨cc, hc, hc'⟩
    · intro j y w hyx hj m0 hm0 hv1
      rw [uniq m0 hm0] at hv1
      refine hv1.imp (fun _ => rfl) fun c2 _ e1 e2 => e2.sameBut hs' ?_
      rintro rfl; exact hyx (S.cd _ _ _ e1 hc)
theorem StE.store {A : Around} {E : Value → Shared → Prop} {i : Nat} {x : Str} {sl : Slot} {v : Value} {L : List Addr} {Q : Unit → Shared → Prop} {s1 : Shared} (S : StE D env vars own ρ s) (g : Grow D.T s s1)
    (hx : vars[i]? = some (some x)) (hk : env.kindOf x = some .local ∨ env.kindOf x = some .cell)
    (hL : ∀ a ∈ L, s.heap.get? a = none ∧ ∃ o, s1.heap.get? a = some o ∧ LT o) (hN : L.Nodup) (hv : SlotOk (setO own i L) s1.heap L sl v)
    (h : ∀ s2, StE D env vars (setO own i L) (upd ρ i sl) s2 → Trk D env own s (setO own i L) s2 → (∀ b o, LT o → s1.heap.get? b = some o → s2.heap.get? b = some o) → Q () s2) :
    wpAny D.M A (storeName env x v) Q E s1 := S.storeL g hx hk hL hN hv fun s2 S2 k l _ => h s2 S2 k l
end
end Mine
end
section
namespace Mine

section
variable {D : Dt} {env : Env} {vars : List (Option Str)} {own : Own} {ρ : Rho} {s : Shared}

/-- an owned list is changed -/
theorem StE.mutate {i : Nat} {x : Str} {a : Addr} {sl sl' : Slot} {h' : Heap} {tk : Nat} (S : StE D env vars own ρ s) (hx : vars[i]? = some (some x)) (hr : ρ i = some sl) (ha : a ∈ own i) (hs : Heap.SameBut a s.heap h')
    (hl : ∃ o, h'.get? a = some o ∧ LT o) (hv : ∀ v, SlotOk own s.heap (own i) sl v → SlotOk own h' (own i) sl' v) :
    StE D env vars own (upd ρ i sl') { s with heap := h', toks := tk } ∧ Trk D env own s own { s with heap := h', toks := tk } := by
  obtain ⟨oa, ea, la⟩ := S.oe i a ha
  obtain ⟨o', ea', la'⟩ := hl
  have kb : ∀ b o, b ≠ a → s.heap.get? b = some o → h'.get? b = some o := fun b o hb e => hs.extBut b o hb e
  have gb : Gr D.T (Mut env own) s { s with heap := h', toks := tk } := Gr.but S.tab ea ea' la.nt (.inr (.inr ⟨i, ha⟩)) kb
  refine ⟨⟨S.ok, fun b o n e => kb b o (by rintro rfl; rw [S.mn _ (.inr (.inr ⟨i, ha⟩))] at e; cases e) (S.base b o n e), gb.tab, S.eo, S.gn, S.vd, S.mn, fun j b m => ?_, S.od, S.on, S.ob, fun y hy => ?_, fun y c hy => (S.ca y c hy).elim fun o e => gb.exAll S.tab e, S.cd, ?_⟩, gb, fun j b m => .inl ⟨j, m⟩⟩
  · by_cases q : b = a
    · exact ⟨o', q ▸ ea', la'⟩
    · obtain ⟨o, e, l⟩ := S.oe j b m; exact ⟨o, kb b o q e, l⟩
  · obtain ⟨c, v, e1, o, e2, e3⟩ := S.ce y hy
    exact ⟨c, v, e1, o, kb c o (by rintro rfl; rw [ea] at e2; cases e2; exact la.notCell e3) e2, e3⟩
  · obtain ⟨m, n, k⟩ := S.vars
    have n' : h'.Ns env.locals m := by
      obtain ⟨o, es, ep, e, hd, r⟩ := n
      exact ⟨o, es, ep, kb _ _ (by rintro rfl; rw [ea] at e; cases e; exact la.notDict hd) e, hd, r⟩
    refine ⟨m, n', fun j y sj hj hrj => ?_⟩
    have vk : ∀ w, VarAt env m s.heap y w → VarAt env m h' y w := fun w q => q.imp (fun _ => rfl) fun c _ _ ⟨o, e2, e3⟩ => ⟨o, kb c o (by rintro rfl; rw [ea] at e2; cases e2; exact la.notCell e3) e2, e3⟩
    by_cases q : j = i
    · subst q
      rw [upd_self] at hrj; cases hrj
      obtain ⟨w, w1, w2⟩ := k j y sl hj hr
      exact ⟨w, vk w w1, hv w w2⟩
    · rw [upd_ne q] at hrj
      obtain ⟨w, w1, w2⟩ := k j y sj hj hrj
      exact ⟨w, vk w w1, w2.imp (fun b o p l e => ⟨kb b o (by rintro rfl; exact p i ha) e, p⟩) fun b hb o l e => kb b o (by rintro rfl; exact q (S.od j i b hb ha)) e⟩
end

noncomputable def isLC (sc : Scope) (x : Str) : Bool := sc.names.lookup x == some .local || sc.names.lookup x == some .cell
theorem isLC_kind {c : Sct} {env : Env} {x : Str} (hc : InC c env) (h : isLC c.sc x = true) : env.kindOf x = some .local ∨ env.kindOf x = some .cell := by
  unfold Env.kindOf; rw [hc.1]
  unfold isLC at h
  simp only [Bool.or_eq_true, beq_iff_eq] at h
  exact h

section
variable {D : Dt} {n : Nat} {c : Sct} {vars : List (Option Str)}

noncomputable def passF : Rho → Option Out := fun ρ => some (.next ρ)
theorem sx_nil : Sx D n c vars [] passF := fun env A own ρ s o hc hA S hf => by
  cases hf; exact wpAny_execs_nil ⟨own, S, .ofGrow (.refl S.tab) S.tab⟩
noncomputable def seqF (f g : Rho → Option Out) : Rho → Option Out := fun ρ => (f ρ).bind fun o => match o with
  | .next ρ' => g ρ'
  | .ret x => some (.ret x)
theorem sx_cons {st : Stmt} {rest : List Stmt} {f g : Rho → Option Out} (h1 : S1 D n c vars st f) (h2 : Sx D n c vars rest g) : Sx D n c vars (st :: rest) (seqF f g) := fun env A own ρ s o hc hA S hf => by
  obtain ⟨o1, e1, e2⟩ := Option.bind_eq_some_iff.mp hf
  refine wpAny_execs_cons (wpAny_mono (h1 env A own ρ s o1 hc hA S e1) (fun fl s1 hk => ?_) fun _ _ y => y)
  cases o1 with
  | next ρ1 =>
    cases fl <;> first | exact hk.elim | skip
    obtain ⟨own1, S1, k⟩ := hk
    exact wpAny_mono (h2 env A own1 ρ1 s1 o hc hA S1 e2) (fun fl2 s2 y => y.trans k S.tab) fun _ _ y => y
  | ret x =>
    cases e2
    cases fl <;> first | exact hk.elim | skip
    exact hk
theorem sx_one {st : Stmt} {f : Rho → Option Out} (h1 : S1 D n c vars st f) : Sx D n c vars [st] f := fun env A own ρ s o hc hA S hf => by
  refine wpAny_execs_cons (wpAny_mono (h1 env A own ρ s o hc hA S hf) (fun fl s1 hk => ?_) fun _ _ y => y)
  cases fl with
  | next => exact wpAny_execs_nil hk
  | _ => exact hk

noncomputable def assignF (i : Nat) (f : Rho → Option PV) : Rho → Option Out := fun ρ => (f ρ).map fun x => .next (upd ρ i (.fz x))
noncomputable def assignN (i : Nat) (f : Rho → Option (List PV)) : Rho → Option Out := fun ρ => (f ρ).map fun x => .next (upd ρ i (.ow x))
theorem den_setO {own : Own} {i : Nat} {h : Heap} {x : PV} {v : Value} (d : Den (Clean own) h x v) : Den (Clean (setO own i [])) h x v := d.to fun a o p _ _ j m => by
  unfold setO at m; split at m
  · cases m
  · exact p j m
theorem s1_assign {x : Str} {px pos : Pos} {e : Expr} {f : Rho → Option PV} (i : Nat) (hx : vars[i]? = some (some x)) (hk : isLC c.sc x = true) (h : Ex D n c vars .cl e f)
    (hs : ∀ env, InC c env → swapsWith e (some (.Name x px)) pos.line env = pure false := by intro _ _; rfl) : S1 D n c vars (.Assign [.Name x px] e pos) (assignF i f) := fun env A own ρ s o hc hA S hf => by
  obtain ⟨z, hz, rfl⟩ := Option.map_eq_some_iff.mp hf
  refine wpAny_Assign_Name (wpAny_mono (h env A own ρ s z hc hA S hz) (fun v s1 hd => ?_) fun _ _ y => y) (hs env hc)
  obtain ⟨g, d⟩ := hd
  exact S.store (L := []) (sl := .fz z) g hx (isLC_kind hc hk) (fun _ m => nomatch m) .nil (den_setO d) fun s2 S2 k _ => ⟨_, S2, k⟩
theorem s1_assignN {x : Str} {px pos : Pos} {e : Expr} {f : Rho → Option (List PV)} (i : Nat) (hx : vars[i]? = some (some x)) (hk : isLC c.sc x = true) (h : ExN D n c vars e f)
    (hs : ∀ env, InC c env → swapsWith e (some (.Name x px)) pos.line env = pure false := by intro _ _; rfl) : S1 D n c vars (.Assign [.Name x px] e pos) (assignN i f) := fun env A own ρ s o hc hA S hf => by
  obtain ⟨z, hz, rfl⟩ := Option.map_eq_some_iff.mp hf
  refine wpAny_Assign_Name (wpAny_mono (h env A own ρ s z hc hA S hz) (fun v s1 hd => ?_) fun _ _ y => y) (hs env hc)
  obtain ⟨g, a, vs, rfl, e0, l, d⟩ := hd
  refine S.store (L := [a]) (sl := .ow z) g hx (isLC_kind hc hk) (fun b m => ?_) (by simp) ⟨a, vs, rfl, rfl, l, d.to fun b o p _ _ j m => ?_⟩ fun s2 S2 k _ => ⟨_, S2, k⟩
  · rcases List.mem_singleton.mp m with rfl; exact ⟨e0, LT.list l.isList⟩
  · unfold setO at m; split at m
    · exact p.2 (List.mem_singleton.mp m)
    · exact p.1 j m

noncomputable def assign2F (i j : Nat) (f : Rho → Option PV) : Rho → Option Out := fun ρ => (f ρ).bind fun x => if x.sc then some (.next (upd (upd ρ i (.fz x)) j (.fz x))) else none
theorem s1_assign2 {x y : Str} {px py pos : Pos} {e : Expr} {f : Rho → Option PV} (i j : Nat) (hx : vars[i]? = some (some x)) (hk : isLC c.sc x = true) (hy : vars[j]? = some (some y)) (hky : isLC c.sc y = true) (h : Ex D n c vars .raw e f)
    (hw : ∀ env, swappedStores [.Name x px, .Name y py] e env = pure none := by intro _; rfl) : S1 D n c vars (.Assign [.Name x px, .Name y py] e pos) (assign2F i j f) := fun env A own ρ s o hc hA S hf => by
  obtain ⟨z, hz, hf⟩ := Option.bind_eq_some_iff.mp hf
  obtain ⟨hsc, rfl⟩ := ite_some hf
  refine wpAny_Assign_two (wpAny_mono (h env A own ρ s z hc hA S hz) (fun v s1 hd => ?_) fun _ _ y => y) rfl (hw env)
  obtain ⟨g, d⟩ := hd
  refine wpAny_assign_Name (S.store (L := []) (sl := .fz z) g hx (isLC_kind hc hk) (fun _ m => nomatch m) .nil (d.sc hsc) fun s2 S2 k _ => ?_)
  exact wpAny_assign_Name (S2.store (L := []) (sl := .fz z) (.refl S2.tab) hy (isLC_kind hc hky) (fun _ m => nomatch m) .nil (d.sc hsc) fun s3 S3 k3 _ => ⟨_, S3, k.trans k3 S.tab⟩)

noncomputable def augF (i : Nat) (op : Operator) (f : Rho → Option PV) : Rho → Option Out := fun ρ => match ρ i with
  | some (.fz (.int a)) => (f ρ).bind fun y => match y with
    | .int b => if op = .Add ∨ op = .Sub ∨ op = .LShift ∨ op = .RShift then (intV op a b).map fun r => .next (upd ρ i (.fz (.int r))) else none
    | _ => none
  | _ => none
theorem s1_aug {x : Str} {px pos : Pos} {op : Operator} {e : Expr} {f : Rho → Option PV} (i : Nat) (hx : vars[i]? = some (some x)) (hk : isLC c.sc x = true) (h : Ex D n c vars .raw e f) : S1 D n c vars (.AugAssign (.Name x px) op e pos) (augF i op f) := fun env A own ρ s o hc hA S hf => by
  unfold augF at hf
  split at hf
  · rename_i a hr
    obtain ⟨y, hy, hf⟩ := Option.bind_eq_some_iff.mp hf
    split at hf
    · rename_i b
      split at hf
      · rename_i hop
        obtain ⟨r, hr', rfl⟩ := Option.map_eq_some_iff.mp hf
        refine wpAny_AugAssign_Name (loadVar S hx hr fun v d => ?_)
        simp only [SlotOk, Den] at d
        obtain ⟨t, rfl⟩ := d
        refine wpAny_mono (h env A own ρ s _ hc hA S hy) (fun v s1 hd => ?_) fun _ _ y => y
        obtain ⟨g, d⟩ := hd
        simp only [Den] at d
        obtain ⟨u, rfl⟩ := d
        refine wpAny_mono (iintV_ok (P := All) g.tab hr' hop) (fun w s2 hd => ?_) fun _ _ y => y
        obtain ⟨g2, d2⟩ := hd
        exact S.store (L := []) (sl := .fz (.int r)) (g.then g2) hx (isLC_kind hc hk) (fun _ m => nomatch m) .nil (d2.sc rfl) fun s2 S2 k _ => ⟨_, S2, k⟩
      · cases hf
    · cases hf
  · cases hf

noncomputable def ifF (t : Rho → Option Bool) (a b : Rho → Option Out) : Rho → Option Out := fun ρ => (t ρ).bind fun x => if x then a ρ else b ρ
theorem s1_if {t : Expr} {a b : List Stmt} {pos : Pos} {ft : Rho → Option Bool} {fa fb : Rho → Option Out} (ht : Tx D n c vars t ft) (ha : Sx D n c vars a fa) (hb : Sx D n c vars b fb) : S1 D n c vars (.If t a b pos) (ifF ft fa fb) := fun env A own ρ s o hc hA S hf => by
  obtain ⟨x, hx, hf⟩ := Option.bind_eq_some_iff.mp hf
  refine wpAny_If (wpAny_mono (ht env A own ρ s x hc hA S hx) (fun v s1 hd => ?_) fun _ _ y => y)
  obtain ⟨g, rfl⟩ := hd
  have S1 := S.grow g
  cases v with
  | true => exact wpAny_mono (ha env A own ρ s1 o hc hA S1 hf) (fun fl s2 y => y.trans (.ofGrow g S.tab) S.tab) fun _ _ y => y
  | false => exact wpAny_mono (hb env A own ρ s1 o hc hA S1 hf) (fun fl s2 y => y.trans (.ofGrow g S.tab) S.tab) fun _ _ y => y

noncomputable def retF (f : Rho → Option PV) : Rho → Option Out := fun ρ => (f ρ).map .ret
theorem s1_ret {e : Expr} {pos : Pos} {f : Rho → Option PV} (h : Ex D n c vars .rt e f) : S1 D n c vars (.Return (some e) pos) (retF f) := fun env A own ρ s o hc hA S hf => by
  obtain ⟨z, hz, rfl⟩ := Option.map_eq_some_iff.mp hf
  refine wpAny_Return_some (wpAny_mono (h env A own ρ s z hc hA S hz) (fun v s1 hd => ?_) fun _ _ y => y)
  exact ⟨hd.1.up S.tab fun _ f => f.elim, hd.2⟩
theorem s1_ret0 {pos : Pos} : S1 D n c vars (.Return none pos) (retF noneF) := fun env A own ρ s o hc hA S hf => by
  cases hf; exact wpAny_Return_none ⟨.refl S.tab, den_none⟩

theorem wpAny_no {α : Type} {M : Model} {A : Around} {t : Sem α} {Q : α → Shared → Prop} {E : Value → Shared → Prop} {s : Shared} (h : wpAny M A t Q (fun _ _ => False) s) : wpAny M A t Q E s := wpAny_mono h (fun _ _ q => q) fun _ _ f => f.elim

/-- while, with fuel -/
noncomputable def whileF (t : Rho → Option Bool) (b : Rho → Option Out) : Nat → Rho → Option Out
  | 0, _ => none
  | k + 1, ρ => (t ρ).bind fun x => if x then (b ρ).bind fun o => match o with
      | .next ρ' => whileF t b k ρ'
      | .ret x => some (.ret x)
    else some (.next ρ)
theorem s1_while {t : Expr} {b : List Stmt} {pos : Pos} {ft : Rho → Option Bool} {fb : Rho → Option Out} (k : Nat) (ht : Tx D n c vars t ft) (hb : Sx D n c vars b fb) : S1 D n c vars (.While t b [] pos) (whileF ft fb k) := fun env A own ρ s o hc hA S hf => by
  refine wpAny_While (codeAny_whileLoop (fun m s' => ∃ own' ρ', StE D env vars own' ρ' s' ∧ Trk D env own s own' s' ∧ whileF ft fb m ρ' = some o) ?_ k ⟨own, ρ, S, .ofGrow (.refl S.tab) S.tab, hf⟩)
  rintro m s' ⟨own', ρ', S', k', hf'⟩
  cases m with
  | zero => cases hf'
  | succ m =>
    obtain ⟨x, hx, hf'⟩ := Option.bind_eq_some_iff.mp hf'
    refine wpAny_no (wpAny_mono (ht env A own' ρ' s' x hc hA S' hx) (fun v s1 hd => ?_) fun _ _ y => y)
    obtain ⟨g, rfl⟩ := hd
    have S1 := S'.grow g
    have k1 := k'.trans (.ofGrow g S'.tab) S.tab
    cases v with
    | true =>
      obtain ⟨o1, ho1, ho2⟩ := Option.bind_eq_some_iff.mp hf'
      refine wpAny_no (wpAny_mono (hb env A own' ρ' s1 o1 hc hA S1 ho1) (fun fl s2 hd => ?_) fun _ _ y => y)
      cases o1 with
      | next ρ2 =>
        cases fl <;> first | exact hd.elim | skip
        obtain ⟨own2, S2, k2⟩ := hd
        exact ⟨m, Nat.lt_succ_self _, own2, ρ2, S2, k1.trans k2 S.tab, ho2⟩
      | ret z =>
        cases ho2
        cases fl <;> first | exact hd.elim | skip
        exact OutOk.trans (o := .ret z) (fl := .ret _) k1 S.tab hd
    | false =>
      cases hf'
      exact wpAny_no (wpAny_execs_nil ⟨own', S1, k1⟩)

/-- a raise that is never reached -/
theorem s1_no {st : Stmt} : S1 D n c vars st (fun _ => none) := fun env A own ρ s o hc hA S hf => by cases hf
end
end Mine
end
section
namespace Mine

/-- a thing that may be called -/
noncomputable def Cn (D : Dt) (n : Nat) (v : Value) (F : List PV → Option PV) : Prop :=
  ∀ (A : Around) (s : Shared) (xs : List PV) (vs : List Value) (x : PV), OkA n A → DtOk (D.at s.heap) → DenL All s.heap xs vs → F xs = some x →
    wpAny D.M A (call v vs []) (fun r s' => Grow D.T s s' ∧ Den (fun a => s.heap.get? a = none) s'.heap x r) (fun _ _ => False) s
/-- a thing that makes a new list -/
noncomputable def CnN (D : Dt) (n : Nat) (v : Value) (F : List PV → Option (List PV)) : Prop :=
  ∀ (A : Around) (s : Shared) (xs : List PV) (vs : List Value) (x : List PV), OkA n A → DtOk (D.at s.heap) → DenL All s.heap xs vs → F xs = some x →
    wpAny D.M A (call v vs []) (fun r s' => Grow D.T s s' ∧ ∃ a ws, r = .ref a ∧ s.heap.get? a = none ∧ s'.heap.PlainList a ws.toArray ∧ DenL (fun b => s.heap.get? b = none ∧ b ≠ a) s'.heap x ws) (fun _ _ => False) s

section
variable {D : Dt} {n : Nat} {c : Sct} {vars : List (Option Str)} {k : Kd}

inductive ArgsX (D : Dt) (n : Nat) (c : Sct) (vars : List (Option Str)) : List Expr → List (Rho → Option PV) → Prop where
  | nil : ArgsX D n c vars [] []
  | cons {e : Expr} {es : List Expr} {f : Rho → Option PV} {fs : List (Rho → Option PV)} : Ex D n c vars .raw e f → (∀ env, starEach (e :: es) env = (false, eval e env) :: starEach es env) → ArgsX D n c vars es fs → ArgsX D n c vars (e :: es) (f :: fs)
theorem argsX_cons {e : Expr} {es : List Expr} {f : Rho → Option PV} {fs : List (Rho → Option PV)} (h : Ex D n c vars .raw e f) (t : ArgsX D n c vars es fs) (hs : ∀ env, starEach (e :: es) env = (false, eval e env) :: starEach es env := by intro _; rfl) : ArgsX D n c vars (e :: es) (f :: fs) := .cons h hs t
noncomputable def argsF : List (Rho → Option PV) → Rho → Option (List PV)
  | [], _ => some []
  | f :: fs, ρ => (f ρ).bind fun x => (argsF fs ρ).map (x :: ·)

theorem args_ok {es : List Expr} {fs : List (Rho → Option PV)} (h : ArgsX D n c vars es fs) : ∀ {env : Env} {A : Around} {own : Own} {ρ : Rho} {s : Shared} {xs : List PV} {pos : Pos}, InC c env → OkA n A → StE D env vars own ρ s → argsF fs ρ = some xs →
    wpAny D.M A (spliced (backTo pos (starEach es env))) (fun vs s' => Grow D.T s s' ∧ DenL All s'.heap xs vs) (fun _ _ => False) s := by
  induction h with
  | nil => intro env A own ρ s xs pos hc hA S hf; cases hf; exact Calls.spliced_nil ⟨.refl S.tab, by simp [DenL]⟩
  | @cons e es f fs h1 hs _ ih =>
    intro env A own ρ s xs pos hc hA S hf
    obtain ⟨x, hx, hf⟩ := Option.bind_eq_some_iff.mp hf
    obtain ⟨ys, hy, rfl⟩ := Option.map_eq_some_iff.mp hf
    rw [hs env]
    show wpAny _ _ (spliced ((false, eval e env) :: backTo pos (starEach es env))) _ _ _
    refine Calls.spliced_cons (wpAny_mono (h1 env A own ρ s x hc hA S hx) (fun v s1 hd => ?_) fun _ _ y => y)
    refine wpAny_mono (ih hc hA (S.grow hd.1) hy) (fun vs s2 hd2 => ?_) fun _ _ y => y
    exact ⟨hd.1.then hd2.1, by simp only [DenL]; exact ⟨v, vs, rfl, (Den.raw hd.2).grow hd2.1 hd.1.tab, hd2.2⟩⟩
theorem evalArgs_ok {es : List Expr} {fs : List (Rho → Option PV)} (h : ArgsX D n c vars es fs) {env : Env} {A : Around} {own : Own} {ρ : Rho} {s : Shared} {xs : List PV} {pos : Pos} {f : Value} (hc : InC c env) (hA : OkA n A) (S : StE D env vars own ρ s) (hf : argsF fs ρ = some xs) :
    wpAny D.M A (evalArgs f true (backTo pos (starEach es env)) []) (fun a s' => a.kw = [] ∧ Grow D.T s s' ∧ DenL All s'.heap xs a.pos) (fun _ _ => False) s := by
  cases h with
  | nil => cases hf; exact PySem.evalArgs_none ⟨rfl, .refl S.tab, by simp [DenL]⟩
  | @cons e es g gs h1 hs h2 =>
    have q := args_ok (.cons h1 hs h2) (pos := pos) hc hA S hf
    rw [hs env] at q ⊢
    exact Calls.evalArgs_plain (wpAny_mono q (fun vs s1 hd => ⟨rfl, hd⟩) fun _ _ y => y)
theorem args_nostar {es : List Expr} {fs : List (Rho → Option PV)} (h : ArgsX D n c vars es fs) (env : Env) (pos : Pos) : (backTo pos (starEach es env)).any (·.1) = false := by
  induction h with
  | nil => rfl
  | cons h1 hs _ ih => rw [hs env]; show (false || _) = false; rw [Bool.false_or]; exact ih

theorem callWith_type {M : Model} {A : Around} {E : Value → Shared → Prop} {s : Shared} {pos : Pos} {T : String} {first : List Value} {args : List (Bool × Sem Value)} {Q : Value → Shared → Prop} (hplain : args.any (·.1) = false)
    (h : wpAny M A (evalArgs (.type T) true args []) (fun a s₁ => wpAny M A (call (.type T) (first ++ a.pos) a.kw) Q E s₁) E s) :
    wpAny M A (callWith pos (.type T) first args []) Q E s := by
  unfold callWith
  refine wpAny_bind (wpAny_holding (wpAny_mono h (fun a s₁ h₁ => wpAny_bind (wpAny_standAt ?_)) fun _ _ x => x))
  simp only [hplain, List.any_nil, Bool.or_false]
  refine wpAny_bind (wpAny_pure ?_)
  exact wpAny_bind (wpAny_mono h₁ (fun r s₂ hr => wpAny_bind (wpAny_holding (wpAny_point (wpAny_pure hr)))) fun _ _ x => x)

/-- what a name of the module's or of the built-ins' holds -/
noncomputable def Gv (D : Dt) (id : Str) (v : Value) : Prop := D.mg id = some v ∨ (D.mg id = none ∧ id ≠ "__name__" ∧ bootBuiltins id = some v)
theorem glob_ok {env : Env} {A : Around} {own : Own} {ρ : Rho} {s : Shared} {id : Str} {v : Value} {pos : Pos} {Q E : Value → Shared → Prop} (hc : InC c env) (S : StE D env vars own ρ s) (hk : c.sc.names.lookup id = some .globalImplicit) (hv : Gv D id v) (h : Q v s) (hd : (id == ("__debug__" : Str)) = false) :
    wpAny D.M A (eval (.Name id pos) env) Q E s := by
  have ok := S.dt
  have hg : s.heap.Ns env.globals D.mg := by rw [S.eo.glob]; exact ok.g
  refine Calls.Name_function_global S.eo.kind (by unfold Env.kindOf; rw [hc.1]; exact hk) ?_ hd
  rcases hv with hv | ⟨h1, h2, h3⟩
  · exact Calls.loadGlobal_global hg hv h
  · exact Calls.loadGlobal_builtin hg h1 (by rw [S.eo.bi]; exact ok.b) ((ok.bi id h2).trans h3) h
/-- a constant of the module's -/
theorem ex_glob {id : Str} {pos : Pos} {i : Int} {t : Tok} (hv : Gv D id (.int i t)) (hk : c.sc.names.lookup id = some .globalImplicit) (hd : (id == ("__debug__" : Str)) = false := by rfl) : Ex D n c vars k (.Name id pos) (intF i) := fun env A own ρ s x hc hA S hf => by
  cases hf; exact glob_ok hc S hk hv ⟨.refl S.tab, den_int⟩ hd

/-- which things may stand ahead of a call's bracket -/
noncomputable def Callee (D : Dt) (v : Value) : Prop := (∃ id, v = .builtin id) ∨ (∃ T, v = .type T) ∨ ∃ a fd, v = .ref a ∧ D.fn a = some fd
theorem callee_ok {env : Env} {A : Around} {own : Own} {ρ : Rho} {s : Shared} {es : List Expr} {fs : List (Rho → Option PV)} {xs : List PV} {v : Value} {pos : Pos} {first : List Value} {Q : Value → Shared → Prop} (hv : Callee D v) (h : ArgsX D n c vars es fs) (hc : InC c env) (hA : OkA n A) (S : StE D env vars own ρ s) (hf : argsF fs ρ = some xs)
    (hq : ∀ vs s1, Grow D.T s s1 → DenL All s1.heap xs vs → wpAny D.M A (call v (first ++ vs) []) Q (fun _ _ => False) s1) : wpAny D.M A (callWith pos v first (backTo pos (starEach es env)) []) Q (fun _ _ => False) s := by
  have key : wpAny D.M A (evalArgs v true (backTo pos (starEach es env)) []) (fun a s₁ => wpAny D.M A (call v (first ++ a.pos) a.kw) Q (fun _ _ => False) s₁) (fun _ _ => False) s :=
    wpAny_mono (evalArgs_ok h hc hA S hf) (fun a s1 hd => by rw [hd.1]; exact hq _ _ hd.2.1 hd.2.2) fun _ _ y => y
  rcases hv with ⟨id, rfl⟩ | ⟨T, rfl⟩ | ⟨a, fd, rfl, hfd⟩
  · exact Calls.callWith_builtin (args_nostar h env pos) key
  · exact callWith_type (args_nostar h env pos) key
  · obtain ⟨o, e, d, _⟩ := S.dt.fns a fd hfd
    refine Calls.callWith_function (o := o) (fd := fd) ?_
    refine wpAny_mono (evalArgs_ok h hc hA S hf) (fun x s1 hd => ?_) fun _ _ y => y
    have S1 := S.grow hd.2.1
    obtain ⟨o1, e1, d1, _⟩ := S1.dt.fns a fd hfd
    have : o1 = o := by
      have q := hd.2.1.kp a o (S.tab.ne e (by rintro ps rfl; cases d)) id e
      have e1' : s1.heap.get? a = some o1 := e1
      rw [q] at e1'; exact (Option.some.inj e1').symm
    subst this
    exact ⟨⟨e1, d1⟩, by rw [hd.1]; exact hq _ _ hd.2.1 hd.2.2⟩

noncomputable def callF (F : List PV → Option PV) (fs : List (Rho → Option PV)) : Rho → Option PV := fun ρ => (argsF fs ρ).bind F
theorem ex_call {id : Str} {p pos : Pos} {es : List Expr} {fs : List (Rho → Option PV)} {v : Value} {F : List PV → Option PV} {m : Nat} (hC : Cn D m v F) (hv : Gv D id v) (hcl : Callee D v) (hn : m ≤ n) (ha : ArgsX D n c vars es fs) (hk : c.sc.names.lookup id = some .globalImplicit)
    (hd : (id == ("__debug__" : Str)) = false := by rfl) : Ex D n c vars k (.Call (.Name id p) es [] pos) (callF F fs) := fun env A own ρ s x hc hA S hf => by
  obtain ⟨xs, hx, hF⟩ := Option.bind_eq_some_iff.mp hf
  refine wpAny_Call_NameR (glob_ok hc S hk hv (callee_ok hcl ha hc hA S hx fun vs s1 g1 d1 => ?_) hd)
  have S1 := S.grow g1
  refine wpAny_mono (hC A s1 xs vs x (hA.mono hn) S1.dt d1 hF) (fun r s2 hd2 => ?_) fun _ _ y => y
  exact ⟨g1.then hd2.1, hd2.2.to fun a o p _ _ => KP.new S1 p⟩
noncomputable def callN (F : List PV → Option (List PV)) (fs : List (Rho → Option PV)) : Rho → Option (List PV) := fun ρ => (argsF fs ρ).bind F
theorem exn_call {id : Str} {p pos : Pos} {es : List Expr} {fs : List (Rho → Option PV)} {v : Value} {F : List PV → Option (List PV)} {m : Nat} (hC : CnN D m v F) (hv : Gv D id v) (hcl : Callee D v) (hn : m ≤ n) (ha : ArgsX D n c vars es fs) (hk : c.sc.names.lookup id = some .globalImplicit)
    (hd : (id == ("__debug__" : Str)) = false := by rfl) : ExN D n c vars (.Call (.Name id p) es [] pos) (callN F fs) := fun env A own ρ s x hc hA S hf => by
  obtain ⟨xs, hx, hF⟩ := Option.bind_eq_some_iff.mp hf
  refine wpAny_Call_NameR (glob_ok hc S hk hv (callee_ok hcl ha hc hA S hx fun vs s1 g1 d1 => ?_) hd)
  have S1 := S.grow g1
  refine wpAny_mono (hC A s1 xs vs x (hA.mono hn) S1.dt d1 hF) (fun r s2 hd2 => ?_) fun _ _ y => y
  obtain ⟨g2, a, ws, rfl, e0, l, d⟩ := hd2
  exact ⟨g1.then g2, a, ws, rfl, g1.none S.tab e0, l, d.to fun b o p _ _ => ⟨S1.clean p.1, p.2⟩⟩

/-- a method of a text's or an int's -/
theorem ex_meth {o : Expr} {name : Str} {apos pos : Pos} {es : List Expr} {fo : Rho → Option PV} {fs : List (Rho → Option PV)} {T id : String} {F : List PV → Option PV} {m : Nat} (hC : Cn D m (.builtin id) F) (ho : Ex D n c vars .raw o fo)
    (hT : ∀ x xs y, F (x :: xs) = some y → x.sc = true ∧ ∀ (s : Shared) v, Den All s.heap x v → s.TypeIs v T)
    (pa : PlainAttrs T) (slot : PySem.Slot T name id) (hty : typeOf (.builtin id) = pure (.type "method_descriptor")) (hn : m ≤ n) (ha : ArgsX D n c vars es fs)
    (hbase : ∀ env, attributeBase o name env (eval o env) = eval o env := by intro _; rfl)
    (hfew : ∀ env, ((backTo pos (starEach es env)).all (fun x => !x.1) && (backToKw pos (keywordEach [] env)).all (fun x => x.1.isSome)
      && decide (es.length + ([] : List Keyword).length + (if ([] : List Keyword).isEmpty then 0 else 1) < 30)) = true := by intro _; rfl)
    (hline : (apos.endLine == pos.line) = true := by rfl) : Ex D n c vars k (.Call (.Attribute o name apos) es [] pos) (callF F (fo :: fs)) := fun env A own ρ s x hc hA S hf => by
  obtain ⟨xs, hx, hF⟩ := Option.bind_eq_some_iff.mp hf
  obtain ⟨y, hy, hx⟩ := Option.bind_eq_some_iff.mp hx
  obtain ⟨ys, hys, rfl⟩ := Option.map_eq_some_iff.mp hx
  obtain ⟨hsc, hT⟩ := hT _ _ _ hF
  refine wpAny_Call_method (hbase env) (hfew env) hline pa slot hty (wpAny_mono (ho env A own ρ s y hc hA S hy) (fun ov s1 hd => ?_) fun _ _ y => y)
  have d0 := Den.raw hd.2
  refine ⟨hT s1 ov d0, fun a e => ?_, callee_ok (.inl ⟨id, rfl⟩) ha hc hA (S.grow hd.1) hys fun vs s2 g2 d2 => ?_⟩
  · subst e; cases y <;> simp only [Den, PV.sc] at d0 hsc <;> first | (cases hsc; done) | (obtain ⟨_, e⟩ := d0; cases e) | cases d0
  · have S2 := (S.grow hd.1).grow g2
    refine wpAny_mono (hC A s2 (y :: ys) (ov :: vs) x (hA.mono hn) S2.dt (by simp only [DenL]; exact ⟨ov, vs, rfl, d0.sc hsc, d2⟩) hF) (fun r s3 hd3 => ?_) fun _ _ y => y
    exact ⟨(hd.1.then g2).then hd3.1, hd3.2.to fun a o p _ _ => KP.new S2 p⟩

/-- a tuple's display -/
noncomputable def tupF (fs : List (Rho → Option PV)) : Rho → Option PV := fun ρ => (argsF fs ρ).bind fun xs => if xs.length ≤ 1000 ∧ xs.all PV.sc then some (.tuple xs) else none
theorem ex_tup {es : List Expr} {m : Nat} {pos : Pos} {fs : List (Rho → Option PV)} (ha : ArgsX D n c vars es fs) : Ex D n c vars k (.Tuple es m pos) (tupF fs) := fun env A own ρ s x hc hA S hf => by
  obtain ⟨xs, hx, hf⟩ := Option.bind_eq_some_iff.mp hf
  obtain ⟨hq, rfl⟩ := ite_some hf
  refine wpAny_Tuple (wpAny_mono (args_ok ha hc hA S hx) (fun vs s1 hd => ?_) fun _ _ y => y)
  have S1 := S.grow hd.1
  have e0 : s1.heap.get? s1.heap.objs.size = none := by
    cases q : s1.heap.get? s1.heap.objs.size with
    | none => rfl
    | some o => exact absurd (Heap.lt_size q) (Nat.lt_irrefl _)
  refine ⟨by rw [hd.2.length, sizeLine_eq]; grind, hd.1.then (.of hd.1.tab fun b o e => Heap.get?_push_of_some _ e), den_tup (KP.new S1 e0) ⟨_, Heap.get?_push_size _ rfl, rfl, _, rfl⟩ (hd.2.sc hq.2)⟩

theorem fresh_at (h : Heap) : h.get? h.objs.size = none := by
  cases q : h.get? h.objs.size with
  | none => rfl
  | some o => exact absurd (Heap.lt_size q) (Nat.lt_irrefl _)

inductive ArgsC (D : Dt) (n : Nat) (c : Sct) (vars : List (Option Str)) : List Expr → List (Rho → Option PV) → Prop where
  | nil : ArgsC D n c vars [] []
  | cons {e : Expr} {es : List Expr} {f : Rho → Option PV} {fs : List (Rho → Option PV)} : Ex D n c vars .cl e f → (∀ env, starEach (e :: es) env = (false, eval e env) :: starEach es env) → ArgsC D n c vars es fs → ArgsC D n c vars (e :: es) (f :: fs)
theorem argsC_cons {e : Expr} {es : List Expr} {f : Rho → Option PV} {fs : List (Rho → Option PV)} (h : Ex D n c vars .cl e f) (t : ArgsC D n c vars es fs) (hs : ∀ env, starEach (e :: es) env = (false, eval e env) :: starEach es env := by intro _; rfl) : ArgsC D n c vars (e :: es) (f :: fs) := .cons h hs t
theorem argsC_ok {es : List Expr} {fs : List (Rho → Option PV)} (h : ArgsC D n c vars es fs) : ∀ {env : Env} {A : Around} {own : Own} {ρ : Rho} {s : Shared} {xs : List PV} {pos : Pos}, InC c env → OkA n A → StE D env vars own ρ s → argsF fs ρ = some xs →
    wpAny D.M A (spliced (backTo pos (starEach es env))) (fun vs s' => Grow D.T s s' ∧ DenL (fun a => Clean own a) s'.heap xs vs) (fun _ _ => False) s := by
  induction h with
  | nil => intro env A own ρ s xs pos hc hA S hf; cases hf; exact Calls.spliced_nil ⟨.refl S.tab, by simp [DenL]⟩
  | @cons e es f fs h1 hs _ ih =>
    intro env A own ρ s xs pos hc hA S hf
    obtain ⟨x, hx, hf⟩ := Option.bind_eq_some_iff.mp hf
    obtain ⟨ys, hy, rfl⟩ := Option.map_eq_some_iff.mp hf
    rw [hs env]
    show wpAny _ _ (spliced ((false, eval e env) :: backTo pos (starEach es env))) _ _ _
    refine Calls.spliced_cons (wpAny_mono (h1 env A own ρ s x hc hA S hx) (fun v s1 hd => ?_) fun _ _ y => y)
    refine wpAny_mono (ih hc hA (S.grow hd.1) hy) (fun vs s2 hd2 => ?_) fun _ _ y => y
    exact ⟨hd.1.then hd2.1, by simp only [DenL]; exact ⟨v, vs, rfl, Den.grow hd2.1 hd.1.tab hd.2, hd2.2⟩⟩
/-- a list's display -/
noncomputable def listF (fs : List (Rho → Option PV)) : Rho → Option (List PV) := fun ρ => (argsF fs ρ).bind fun xs => if xs.length ≤ 1000 then some xs else none
theorem exn_list {es : List Expr} {pos : Pos} {fs : List (Rho → Option PV)} (ha : ArgsC D n c vars es fs) : ExN D n c vars (.List es pos) (listF fs) := fun env A own ρ s x hc hA S hf => by
  obtain ⟨xs, hx, hf⟩ := Option.bind_eq_some_iff.mp hf
  obtain ⟨hq, rfl⟩ := ite_some hf
  refine wpAny_List (wpAny_mono (argsC_ok ha hc hA S hx) (fun vs s1 hd => ?_) fun _ _ y => y)
  refine ⟨by rw [hd.2.length, sizeLine_eq]; omega, hd.1.then (.of hd.1.tab fun b o e => Heap.get?_push_of_some _ e), _, vs, rfl, hd.1.none S.tab (fresh_at _), ⟨0, Heap.get?_push_size _ rfl⟩,
    hd.2.imp fun b o p l e => ⟨Heap.get?_push_of_some _ e, p, fun q => by rw [q, fresh_at] at e; cases e⟩⟩
end
end Mine
end
section
namespace Mine

/-- slices of a list -/
noncomputable def pick {α : Type} (lo hi : Option Int) (l : List α) : List α := (l.drop (kms_lo lo l.length)).take (kms_hi hi l.length - kms_lo lo l.length)
noncomputable def pickS (lo hi : Option Int) (x : Str) : Str := ⟨(pick lo hi x.cps.toList).toArray⟩
theorem pick_list (vs : List Value) (lo hi : Option Int) : slicePick vs.toArray lo hi none = (pick lo hi vs).toArray := kms_pick_eq vs.toArray lo hi
theorem slicePicked_eq (x : Str) (l u : Option (Int × Tok)) : (slicePicked x l u none).filterMap (x.cps[·]?) = pick (l.map (·.1)) (u.map (·.1)) x.cps.toList := by
  have e : slicePicked x l u none = sliceRange (sliceBounds (l.map (·.1)) (u.map (·.1)) none x.length).1 (sliceBounds (l.map (·.1)) (u.map (·.1)) none x.length).2.1 (sliceBounds (l.map (·.1)) (u.map (·.1)) none x.length).2.2 := rfl
  rw [e, kms_bounds, sliceRange_one, pick_run]
  unfold pick
  rw [Array.length_toList]; rfl
theorem kms_hi_le (u : Option Int) (n : Nat) : kms_hi u n ≤ n := by
  unfold kms_hi; split
  · exact Nat.le_refl n
  · split <;> omega
theorem pick_all {α : Type} (lo hi : Option Int) (l : List α) (h : (pick lo hi l).length = l.length) : pick lo hi l = l := by
  unfold pick at h ⊢
  rw [List.length_take, List.length_drop] at h
  have := kms_hi_le hi l.length
  by_cases hl : l.length = 0
  · rw [List.eq_nil_of_length_eq_zero hl]; simp
  · have : kms_lo lo l.length = 0 := by omega
    rw [this] at h ⊢
    rw [List.drop_zero, List.take_of_length_le (by grind)]
theorem DenL.pick {P : Addr → Prop} {h : Heap} {xs : List PV} {vs : List Value} (lo hi : Option Int) (d : DenL P h xs vs) : DenL P h (Mine.pick lo hi xs) (Mine.pick lo hi vs) := by
  unfold Mine.pick
  rw [d.length]
  exact (d.drop _).take _

/-- one item -/
noncomputable def subV : PV → PV → Option PV
  | .str x, .int i => if -1000000 ≤ i ∧ i ≤ 1000000 then ((seqIndex? i x.length).bind (x.cps[·]?)).map fun c => .str ⟨#[c]⟩ else none
  | .list xs, .int i => if -1000000 ≤ i ∧ i ≤ 1000000 then (seqIndex? i xs.length).bind (xs[·]?) else none
  | .tuple xs, .int i => if -1000000 ≤ i ∧ i ≤ 1000000 then (seqIndex? i xs.length).bind (xs[·]?) else none
  | _, _ => none

section
variable {D : Dt} {n : Nat} {c : Sct} {vars : List (Option Str)} {k : Kd}

theorem list_item {prog : Program} {w : World} {A : Around} {E Q : Value → Shared → Prop} {s : Shared} {l : Addr} {vs : List Value} {i : Int} {t : Tok} {j : Nat} {x : Value} (hl : s.heap.IsList l vs.toArray) (h1 : -1000000 ≤ i) (h2 : i ≤ 1000000)
    (hj : seqIndex? i vs.length = some j) (hx : vs[j]? = some x) (h : Q x s) : wpAny (model prog w) A (getItem (.ref l) (.int i t)) Q E s := by
  unfold seqIndex? at hj
  by_cases hi : i < 0
  · simp only [if_pos hi] at hj
    obtain ⟨q, rfl⟩ := ite_some hj
    simp only [Bool.and_eq_true, decide_eq_true_eq] at q
    exact wpAny_getItem_list_neg hl hi (by simp; omega) (by grind) (by simpa using hx) h
  · simp only [if_neg hi] at hj
    obtain ⟨q, rfl⟩ := ite_some hj
    simp only [Bool.and_eq_true, decide_eq_true_eq] at q
    exact wpAny_getItem_list hl (by exact (fun {a b} => Iff.mp Int.not_lt) hi) (by omega) (by simpa using hx) h

noncomputable def subF (f g : Rho → Option PV) : Rho → Option PV := fun ρ => (f ρ).bind fun x => (g ρ).bind fun y => subV x y
theorem ex_sub {e1 e2 : Expr} {pos : Pos} {f g : Rho → Option PV} (h1 : Ex D n c vars k e1 f) (h2 : Ex D n c vars .raw e2 g)
    (hs : ∀ o i, subscripted e2 false o i = operate [o, i] (getItem o i) := by intro _ _; rfl) : Ex D n c vars k (.Subscript e1 e2 pos) (subF f g) := fun env A own ρ s z hc hA S hf => by
  obtain ⟨x, y, hx, hy, hz⟩ := bind2 hf
  refine Subscript_ (wpAny_mono (h1 env A own ρ s x hc hA S hx) (fun v s1 ⟨g1, d1⟩ => ?_) fun _ _ q => q)
  have S1 := S.grow g1
  refine wpAny_mono (h2 env A own ρ s1 y hc hA S1 hy) (fun w s2 ⟨g2, d2⟩ => ?_) fun _ _ q => q
  have d1 := d1.grow g2 S1.tab
  unfold subV at hz
  split at hz
  · split at hz
    · rename_i q
      obtain ⟨cc, hcc, rfl⟩ := Option.map_eq_some_iff.mp hz
      simp only [Den] at d1 d2
      obtain ⟨t, rfl⟩ := d1; obtain ⟨u, rfl⟩ := d2
      refine tail_any (typeIs_str s2 _ _) F.slot_str_getitem.lookup (P.getItem_str ?_ hcc ⟨(g1.then g2).then (.tok g2.tab), den_str⟩) (hs _ _)
      simp only [Bool.or_eq_false_iff, decide_eq_false_iff_not]; omega
    · cases hz
  · split at hz
    · rename_i q
      obtain ⟨j, hj, hjx⟩ := Option.bind_eq_some_iff.mp hz
      simp only [Den] at d1 d2
      obtain ⟨a, vs, rfl, _, hl, dl⟩ := d1; obtain ⟨u, rfl⟩ := d2
      obtain ⟨v, hv, dv⟩ := dl.get hjx
      exact tail_any hl.typeIs slot_list_getitem.lookup (list_item hl q.1 q.2 (by rw [dl.length]; exact hj) hv ⟨g1.then g2, dv⟩) (hs _ _)
    · cases hz
  · split at hz
    · rename_i q
      obtain ⟨j, hj, hjx⟩ := Option.bind_eq_some_iff.mp hz
      simp only [Den] at d1 d2
      obtain ⟨a, vs, rfl, _, hl, dl⟩ := d1; obtain ⟨u, rfl⟩ := d2
      obtain ⟨v, hv, dv⟩ := dl.get hjx
      exact tail_any hl.typeIs PyProof.Rows.slot_tuple_getitem.lookup (getItem_tuple hl (by omega) (by omega) (j := j) (by simp [dl.length, hj]) (by simpa using hv) ⟨g1.then g2, dv⟩) (hs _ _)
    · cases hz
  · cases hz

/-- a slice's part -/
inductive PartX (D : Dt) (n : Nat) (c : Sct) (vars : List (Option Str)) : Option Expr → Option (Rho → Option PV) → Prop where
  | none : PartX D n c vars none none
  | some {e : Expr} {f : Rho → Option PV} : Ex D n c vars .raw e f → PartX D n c vars (some e) (some f)
noncomputable def partF : Option (Rho → Option PV) → Rho → Option (Option Int)
  | none, _ => some none
  | some f, ρ => (f ρ).bind fun x => match x with
    | .int i => some (some i)
    | .none => some none
    | _ => none
theorem part_ok {e : Option Expr} {f : Option (Rho → Option PV)} (h : PartX D n c vars e f) {env : Env} {A : Around} {own : Own} {ρ : Rho} {s : Shared} {x : Option Int} (hc : InC c env) (hA : OkA n A) (S : StE D env vars own ρ s) (hf : partF f ρ = some x) :
    wpAny D.M A (evalPart e env) (fun v s' => Grow D.T s s' ∧ ∃ p : Option (Int × Tok), v = partValue p ∧ p.map (·.1) = x ∧ IsPart v x) (fun _ _ => False) s := by
  cases h with
  | none => cases hf; exact wpAny_evalPart_none ⟨.refl S.tab, none, rfl, rfl, .none⟩
  | some h =>
    obtain ⟨y, hy, hf⟩ := Option.bind_eq_some_iff.mp hf
    refine wpAny_evalPart_some (wpAny_mono (h env A own ρ s y hc hA S hy) (fun v s1 ⟨g, d⟩ => ?_) fun _ _ q => q)
    split at hf
    · cases hf; simp only [Den] at d; obtain ⟨t, rfl⟩ := d; exact ⟨g, some (_, t), rfl, rfl, .int _ _⟩
    · cases hf; simp only [Den] at d; subst d; exact ⟨g, none, rfl, rfl, .none⟩
    · cases hf
noncomputable def sliceSF (f : Rho → Option PV) (l u : Option (Rho → Option PV)) : Rho → Option PV := fun ρ => (f ρ).bind fun x => match x with
  | .str x => (partF l ρ).bind fun a => (partF u ρ).bind fun b => if x.length ≤ 1000000 then some (.str (pickS a b x)) else none
  | _ => none
theorem ex_sliceS {e : Expr} {lo hi : Option Expr} {p pos : Pos} {f : Rho → Option PV} {fl fu : Option (Rho → Option PV)} (h : Ex D n c vars .raw e f) (hl : PartX D n c vars lo fl) (hu : PartX D n c vars hi fu)
    (ht : ∀ o r, letTemporaryGo e o r = pure () := by intro _ _; rfl) : Ex D n c vars k (.Subscript e (.Slice lo hi none p) pos) (sliceSF f fl fu) := fun env A own ρ s z hc hA S hf => by
  obtain ⟨x, hx, hf⟩ := Option.bind_eq_some_iff.mp hf
  split at hf
  · rename_i x
    obtain ⟨a, ha, hf⟩ := Option.bind_eq_some_iff.mp hf
    obtain ⟨b, hb, hf⟩ := Option.bind_eq_some_iff.mp hf
    obtain ⟨hsz, rfl⟩ := ite_some hf
    refine wpAny_Subscript_str_slice (wpAny_mono (h env A own ρ s _ hc hA S hx) (fun v s1 ⟨g1, d1⟩ => ?_) fun _ _ q => q) ht
    have S1 := S.grow g1
    refine wpAny_mono (part_ok hl hc hA S1 ha) (fun vl s2 ⟨g2, pl, e1, e2, _⟩ => ?_) fun _ _ q => q
    have S2 := S1.grow g2
    refine wpAny_mono (part_ok hu hc hA S2 hb) (fun vu s3 ⟨g3, pu, e3, e4, _⟩ => ?_) fun _ _ q => q
    simp only [Den] at d1
    obtain ⟨t, rfl⟩ := d1
    refine ⟨x, t, pl, pu, rfl, e1, e3, ?_⟩
    have G : ∀ (s' : Shared) (o : Obj) (tk : Nat), s' = { s3 with heap := s3.heap.push o, toks := tk } → Grow D.T s s' := fun s' o tk e => by
      subst e; exact ((g1.then g2).then g3).then (.of g3.tab fun b o e => Heap.get?_push_of_some _ e)
    have hp : pick a b x.cps.toList = (slicePicked x pl pu none).filterMap (x.cps[·]?) := by rw [slicePicked_eq, e2, e4]
    unfold sliceMade
    split
    · rename_i hq
      simp only [Bool.and_eq_true, beq_iff_eq] at hq
      have : pick a b x.cps.toList = x.cps.toList := by
        refine pick_all _ _ _ ?_
        have q2 : (slicePicked x pl pu none).length = x.length := hq.2
        have e : slicePicked x pl pu none = sliceRange (sliceBounds (pl.map (·.1)) (pu.map (·.1)) none x.length).1 (sliceBounds (pl.map (·.1)) (pu.map (·.1)) none x.length).2.1 (sliceBounds (pl.map (·.1)) (pu.map (·.1)) none x.length).2.2 := rfl
        rw [e, kms_bounds, sliceRange_one, List.length_map, List.length_range, e2, e4] at q2
        unfold pick
        rw [List.length_take, List.length_drop, Array.length_toList]
        have : x.cps.size = x.length := rfl
        have := kms_hi_le b x.length
        rw [show x.cps.size = x.length from rfl]
        omega
      refine ⟨G _ _ _ rfl, ?_⟩
      unfold pickS
      rw [this]
      exact den_str
    · refine ⟨?_, G _ _ _ rfl, ?_⟩
      · show (List.toArray _).size ≤ sizeLine
        rw [List.size_toArray, ← hp, sizeLine_eq]
        unfold pick
        rw [List.length_take, List.length_drop, Array.length_toList]
        have : x.cps.size = x.length := rfl
        omega
      · rw [← hp]; exact den_str
  · cases hf
noncomputable def sliceLF (f : Rho → Option PV) (l u : Option (Rho → Option PV)) : Rho → Option (List PV) := fun ρ => (f ρ).bind fun x => match x with
  | .list x => (partF l ρ).bind fun a => (partF u ρ).bind fun b => if x.length ≤ 1000000 ∧ x.all PV.sc then some (pick a b x) else none
  | _ => none
theorem sc_pick {xs : List PV} (lo hi : Option Int) (h : xs.all PV.sc = true) : (pick lo hi xs).all PV.sc = true :=
  List.all_eq_true.mpr fun x hx => List.all_eq_true.mp h x (List.mem_of_mem_drop (List.mem_of_mem_take hx))
theorem exn_sliceL {e : Expr} {lo hi : Option Expr} {p pos : Pos} {f : Rho → Option PV} {fl fu : Option (Rho → Option PV)} (h : Ex D n c vars .raw e f) (hl : PartX D n c vars lo fl) (hu : PartX D n c vars hi fu)
    (ht : ∀ o r, letTemporaryGo e o r = pure () := by intro _ _; rfl) : ExN D n c vars (.Subscript e (.Slice lo hi none p) pos) (sliceLF f fl fu) := fun env A own ρ s z hc hA S hf => by
  obtain ⟨x, hx, hf⟩ := Option.bind_eq_some_iff.mp hf
  split at hf
  · rename_i x
    obtain ⟨a, ha, hf⟩ := Option.bind_eq_some_iff.mp hf
    obtain ⟨b, hb, hf⟩ := Option.bind_eq_some_iff.mp hf
    obtain ⟨hsz, rfl⟩ := ite_some hf
    refine wpAny_Subscript_list_slice (wpAny_mono (h env A own ρ s _ hc hA S hx) (fun v s1 ⟨g1, d1⟩ => ?_) fun _ _ q => q) ht
    have S1 := S.grow g1
    refine wpAny_mono (part_ok hl hc hA S1 ha) (fun vl s2 ⟨g2, pl, e1, e2, i2⟩ => ?_) fun _ _ q => q
    have S2 := S1.grow g2
    refine wpAny_mono (part_ok hu hc hA S2 hb) (fun vu s3 ⟨g3, pu, e3, e4, i3⟩ => ?_) fun _ _ q => q
    have d1 := (d1.grow g2 S1.tab).grow g3 S2.tab
    simp only [Den] at d1
    obtain ⟨l, vs, rfl, _, il, dl⟩ := d1
    have hlen := dl.length
    refine ⟨l, vs.toArray, a, b, rfl, il, by rw [List.size_toArray, sizeLine_eq]; omega, i2, i3, ?_⟩
    have hsl := Heap.size_push s3.heap { cls := .type "slice", data := .fields #[vl, vu, .none] }
    refine ⟨((g1.then g2).then g3).then (.of g3.tab fun b o e => Heap.get?_push_of_some _ (Heap.get?_push_of_some _ e)), s3.heap.objs.size + 1, pick a b vs, rfl, ?_, ⟨0, ?_⟩, (dl.pick a b).sc (sc_pick a b hsz.2)⟩
    · refine ((g1.then g2).then g3).none S.tab ?_
      cases q : s3.heap.get? (s3.heap.objs.size + 1) with
      | none => rfl
      | some o => exact absurd (Nat.lt_of_succ_lt (Heap.lt_size q)) (Nat.lt_irrefl _)
    · rw [← hsl, pick_list]
      exact Heap.get?_push_size _ rfl
  · cases hf
end
end Mine
end
section
namespace Mine

section
variable {D : Dt} {n : Nat} {c : Sct} {vars : List (Option Str)} {k : Kd}

noncomputable def lenV : List PV → Option PV
  | [.str x] => if x.length ≤ 1000000 then some (.int x.length) else none
  | [.list xs] => if xs.length ≤ 1000000 then some (.int xs.length) else none
  | _ => none
theorem cn_len : Cn D 0 (.builtin "len") lenV := fun A s xs vs x hA ok d hF => by
  unfold lenV at hF
  split at hF
  · obtain ⟨_, rfl⟩ := ite_some hF
    simp only [DenL, Den] at d
    obtain ⟨v, r, rfl, ⟨t, rfl⟩, rfl⟩ := d
    exact P.len_str (by omega) ⟨.tok ok.tab, den_int⟩
  · obtain ⟨_, rfl⟩ := ite_some hF
    rename_i ys hl
    simp only [DenL, Den] at d
    obtain ⟨v, r, rfl, ⟨a, ws, rfl, _, l, dl⟩, rfl⟩ := d
    refine Calls.call_len_list l (by rw [List.size_toArray, dl.length]; omega) ⟨.tok ok.tab, ?_⟩
    rw [List.size_toArray, dl.length]; exact den_int
  · cases hF
noncomputable def absV : List PV → Option PV
  | [.int a] => some (.int (if a < 0 then -a else a))
  | _ => none
theorem cn_abs : Cn D 0 (.builtin "abs") absV := fun A s xs vs x hA ok d hF => by
  unfold absV at hF
  split at hF
  · cases hF
    simp only [DenL, Den] at d
    obtain ⟨v, r, rfl, ⟨t, rfl⟩, rfl⟩ := d
    exact call_abs_int fun u tk => ⟨.tok ok.tab, den_int⟩
  · cases hF

noncomputable def intsOf : List PV → Option (List Int)
  | [] => some []
  | .int a :: r => (intsOf r).map (a :: ·)
  | _ :: _ => none
theorem intsOf_den {P : Addr → Prop} {h : Heap} : ∀ {xs : List PV} {ns : List Int} {vs : List Value}, intsOf xs = some ns → DenL P h xs vs → IntsAre vs ns
  | [], ns, vs, e, d => by cases e; simp only [DenL] at d; subst d; exact .nil
  | x :: xs, ns, vs, e, d => by
    cases x <;> simp only [intsOf] at e <;> first | cases e; done | skip
    obtain ⟨ms, hm, rfl⟩ := Option.map_eq_some_iff.mp e
    simp only [DenL, Den] at d
    obtain ⟨v, r, rfl, ⟨t, rfl⟩, d⟩ := d
    exact .cons _ t (intsOf_den hm d)
noncomputable def minI : List Int → Int
  | [] => 0
  | x :: xs => xs.foldl min x
theorem minI_spec : ∀ (xs : List Int) (x : Int), xs.foldl min x ∈ x :: xs ∧ ∀ y ∈ x :: xs, xs.foldl min x ≤ y
  | [], x => by simp
  | z :: xs, x => by
    obtain ⟨h1, h2⟩ := minI_spec xs (min x z)
    refine ⟨?_, fun y hy => ?_⟩
    · show xs.foldl min (min x z) ∈ _
      rcases List.mem_cons.mp h1 with h | h
      · rw [h]; rcases Int.le_total x z with q | q
        · rw [Int.min_eq_left q]; exact List.mem_cons_self
        · rw [Int.min_eq_right q]; simp
      · exact List.min?_mem rfl
    · have h3 := h2 (min x z) (by exact List.mem_cons_self)
      show xs.foldl min (min x z) ≤ y
      simp only [List.mem_cons] at hy
      rcases hy with rfl | rfl | hy
      · omega
      · omega
      · exact h2 y (by exact List.mem_cons_of_mem (min x z) hy)
noncomputable def minV : List PV → Option PV
  | [.int a, .int b] => some (.int (if b < a then b else a))
  | [.list xs] => (intsOf xs).bind fun ns => if ns = [] then none else some (.int (minI ns))
  | _ => none
theorem cn_min : Cn D 0 (.builtin "min") minV := fun A s xs vs x hA ok d hF => by
  unfold minV at hF
  split at hF
  · rename_i a b; cases hF
    simp only [DenL, Den] at d
    obtain ⟨v, r, rfl, ⟨t, rfl⟩, v2, r2, rfl, ⟨u, rfl⟩, rfl⟩ := d
    refine min_two_ints hA.1 fun h' tk hk => ⟨.of ok.tab hk, ?_⟩
    split <;> exact den_int
  · obtain ⟨ns, hn, hF⟩ := Option.bind_eq_some_iff.mp hF
    split at hF
    · cases hF
    · rename_i hne; cases hF
      simp only [DenL, Den] at d
      obtain ⟨v, r, rfl, ⟨a, ws, rfl, _, l, dl⟩, rfl⟩ := d
      have hi := intsOf_den hn dl
      obtain ⟨ys, e⟩ := hi.allInts.items
      have hns : ns = ys.toList.map (·.1) := by rw [← hi.numsOf, ← nums_intItems, ← e]
      have hsz : 0 < ys.size := by
        have h3 := List.length_pos_iff.mpr hne; rw [hns, List.length_map, Array.length_toList] at h3; exact h3
      rw [e] at l
      refine min_intList hA.1 l hsz fun v h' tk hv hk => ⟨.of ok.tab hk, ?_⟩
      obtain ⟨t, rfl⟩ := intItems_at hv
      obtain ⟨h1, h2⟩ := argBest_lt (numAt ys) (ys.size - 1)
      have m1 : numAt ys (argBest (fun i j => decide (numAt ys i < numAt ys j)) (ys.size - 1)) ∈ ns := by
        rw [hns, numAt_eq]; exact getD_mem (by rw [List.length_map, Array.length_toList]; exact Nat.lt_of_le_pred hsz h1)
      have m2 : ∀ a ∈ ns, numAt ys (argBest (fun i j => decide (numAt ys i < numAt ys j)) (ys.size - 1)) ≤ a := fun a ha => by
        rw [hns] at ha
        obtain ⟨j, hj, rfl⟩ := mem_getD ha
        rw [List.length_map, Array.length_toList] at hj
        rw [← numAt_eq]; exact h2 j (by exact (fun {m n} h => Iff.mpr (Nat.le_sub_one_iff_lt h)) hsz hj)
      have : minI ns = numAt ys (argBest (fun i j => decide (numAt ys i < numAt ys j)) (ys.size - 1)) := by
        cases ns with
        | nil => exact absurd rfl hne
        | cons z zs =>
          obtain ⟨q1, q2⟩ := minI_spec zs z
          have e1 := q2 _ m1
          have e2 := m2 _ q1
          show zs.foldl min z = _
          exact Int.le_antisymm (q2 (numAt ys (argBest (fun i j => decide (numAt ys i < numAt ys j)) (Array.size ys - 1))) m1) (m2 (List.foldl min z zs) q1)
      rw [this]; exact den_int
  · cases hF
noncomputable def maxV : List PV → Option PV
  | [.int a, .int b] => some (.int (if b > a then b else a))
  | _ => none
theorem cn_max : Cn D 0 (.builtin "max") maxV := fun A s xs vs x hA ok d hF => by
  unfold maxV at hF
  split at hF
  · rename_i a b; cases hF
    simp only [DenL, Den] at d
    obtain ⟨v, r, rfl, ⟨t, rfl⟩, v2, r2, rfl, ⟨u, rfl⟩, rfl⟩ := d
    refine max_two_ints hA.1 fun h' tk hk => ⟨.of ok.tab hk, ?_⟩
    split <;> exact den_int
  · cases hF
noncomputable def sumV : List PV → Option PV
  | [.list xs] => (intsOf xs).map fun ns => .int ns.sum
  | _ => none
theorem cn_sum : Cn D 0 (.builtin "sum") sumV := fun A s xs vs x hA ok d hF => by
  unfold sumV at hF
  split at hF
  · obtain ⟨ns, hn, rfl⟩ := Option.map_eq_some_iff.mp hF
    simp only [DenL, Den] at d
    obtain ⟨v, r, rfl, ⟨a, ws, rfl, _, l, dl⟩, rfl⟩ := d
    have hi := intsOf_den hn dl
    obtain ⟨ys, e⟩ := hi.allInts.items
    have hns : ns = ys.toList.map (·.1) := by rw [← hi.numsOf, ← nums_intItems, ← e]
    rw [e] at l
    refine sum_intListG hA.1 l fun h' tk t' hk => ⟨.of ok.tab hk, ?_⟩
    rw [preSum_eq, List.take_of_length_le (by simp), ← hns]
    exact den_int
  · cases hF
noncomputable def isBoolV : List PV → Option PV
  | [.int a, .none] => some (.bool false)
  | _ => none
/-- isinstance(e, bool) of an int -/
theorem ex_isbool {p p2 pos : Pos} {e : Expr} {f : Rho → Option PV} (h : Ex D n c vars .raw e f) (hv : Gv D "isinstance" (.builtin "isinstance")) (hb : Gv D "bool" (.type "bool")) (hk : c.sc.names.lookup ("isinstance" : Str) = some .globalImplicit) (hkb : c.sc.names.lookup ("bool" : Str) = some .globalImplicit)
    (hs : ∀ env, starEach [e, .Name "bool" p2] env = [(false, eval e env), (false, eval (.Name "bool" p2) env)] := by intro _; rfl) :
    Ex D n c vars k (.Call (.Name "isinstance" p) [e, .Name "bool" p2] [] pos) (fun ρ => (f ρ).bind fun x => match x with | .int _ => some (.bool false) | _ => none) := fun env A own ρ s x hc hA S hf => by
  obtain ⟨y, hy, hf⟩ := Option.bind_eq_some_iff.mp hf
  split at hf
  · cases hf
    refine wpAny_Call_NameR (glob_ok hc S hk hv ?_ (by rfl))
    rw [hs env]
    refine Calls.callWith_builtin rfl (Calls.evalArgs_plain (Calls.spliced_cons (wpAny_mono (h env A own ρ s _ hc hA S hy) (fun v s1 ⟨g1, d1⟩ => ?_) fun _ _ q => q)))
    refine Calls.spliced_cons (glob_ok hc (S.grow g1) hkb hb (Calls.spliced_nil ?_) (by rfl))
    simp only [Den] at d1
    obtain ⟨t, rfl⟩ := d1
    exact call_isinstance (isinstance_false_int (by decide +kernel) F.isi_meta_bool F.sub_int_bool) ⟨g1.then (.tok g1.tab), den_bool⟩
  · cases hf
noncomputable def divmodV : List PV → Option PV
  | [.int a, .int b] => if b ≠ 0 ∧ Builtin.divisionGoesByPylong a b = false then some (.tuple [.int (a.fdiv b), .int (a.fmod b)]) else none
  | _ => none
theorem cn_divmod : Cn D 0 (.builtin "divmod") divmodV := fun A s xs vs x hA ok d hF => by
  unfold divmodV at hF
  split at hF
  · rename_i a b
    obtain ⟨q, rfl⟩ := ite_some hF
    simp only [DenL, Den] at d
    obtain ⟨v, r, rfl, ⟨t, rfl⟩, v2, r2, rfl, ⟨u, rfl⟩, rfl⟩ := d
    refine divmod_int q.1 ⟨.of ok.tab fun b o e => Heap.get?_push_of_some _ e, den_tup (vs := [_, _]) (fresh_at _) ⟨_, Heap.get?_push_size _ rfl, rfl, _, rfl⟩ ?_⟩ (.inl q.2)
    simp only [DenL]
    exact ⟨_, _, rfl, den_int, _, _, rfl, den_int, rfl⟩
  · cases hF
noncomputable def strsOf : List PV → Option (List Str)
  | [] => some []
  | .str a :: r => (strsOf r).map (a :: ·)
  | _ :: _ => none
theorem strsOf_den {P : Addr → Prop} {h : Heap} : ∀ {xs : List PV} {ns : List Str} {vs : List Value}, strsOf xs = some ns → DenL P h xs vs → ∃ l, vs = strValues l ∧ l.map (·.1) = ns
  | [], ns, vs, e, d => by cases e; simp only [DenL] at d; subst d; exact ⟨[], rfl, rfl⟩
  | x :: xs, ns, vs, e, d => by
    cases x <;> simp only [strsOf] at e <;> first | cases e; done | skip
    obtain ⟨ms, hm, rfl⟩ := Option.map_eq_some_iff.mp e
    simp only [DenL, Den] at d
    obtain ⟨v, r, rfl, ⟨t, rfl⟩, d⟩ := d
    obtain ⟨l, rfl, rfl⟩ := strsOf_den hm d
    exact ⟨(_, t) :: l, rfl, rfl⟩
noncomputable def joinV : List PV → Option PV
  | [.str x, .list xs] => (strsOf xs).bind fun ys => if JoinOk x ys = true then some (.str (Txt.join x ys)) else none
  | _ => none
theorem cn_join : Cn D 0 (.builtin "str.join") joinV := fun A s xs vs x hA ok d hF => by
  unfold joinV at hF
  split at hF
  · obtain ⟨ys, hy, hF⟩ := Option.bind_eq_some_iff.mp hF
    obtain ⟨q, rfl⟩ := ite_some hF
    simp only [DenL, Den] at d
    obtain ⟨v, r, rfl, ⟨t, rfl⟩, v2, r2, rfl, ⟨a, ws, rfl, _, l, dl⟩, rfl⟩ := d
    obtain ⟨l', rfl, hl'⟩ := strsOf_den hy dl
    exact SC.join l hl' q fun t' k => ⟨.tok ok.tab, den_str⟩
  · cases hF
noncomputable def lowerV : List PV → Option PV
  | [.str x] => if x.length ≤ 1000000 then some (.str (Txt.lower x)) else none
  | _ => none
theorem cn_lower : Cn D 0 (.builtin "str.lower") lowerV := fun A s xs vs x hA ok d hF => by
  unfold lowerV at hF
  split at hF
  · obtain ⟨q, rfl⟩ := ite_some hF
    simp only [DenL, Den] at d
    obtain ⟨v, r, rfl, ⟨t, rfl⟩, rfl⟩ := d
    exact SCL.lower (by omega) fun _ => ⟨.tok ok.tab, den_str⟩
  · cases hF
noncomputable def bitLenV : List PV → Option PV
  | [.int a] => some (.int (bits a))
  | _ => none
theorem cn_bitLen : Cn D 0 (.builtin "int.bit_length") bitLenV := fun A s xs vs x hA ok d hF => by
  unfold bitLenV at hF
  split at hF
  · cases hF
    simp only [DenL, Den] at d
    obtain ⟨v, r, rfl, ⟨t, rfl⟩, rfl⟩ := d
    exact call_int_bit_length ⟨.tok ok.tab, den_int⟩
  · cases hF

theorem ex_join {o : Expr} {apos pos : Pos} {e : Expr} {fo f : Rho → Option PV} (ho : Ex D n c vars .raw o fo) (h : Ex D n c vars .raw e f) (hs : ∀ env, starEach [e] env = [(false, eval e env)] := by intro _; rfl)
    (hbase : ∀ env, attributeBase o "join" env (eval o env) = eval o env := by intro _; rfl) (hline : (apos.endLine == pos.line) = true := by rfl) :
    Ex D n c vars k (.Call (.Attribute o "join" apos) [e] [] pos) (callF joinV [fo, f]) :=
  ex_meth cn_join ho (fun x xs y hy => by unfold joinV at hy; split at hy <;> first | cases hy; done | (rename_i e; cases e; exact ⟨rfl, fun s v d => by simp only [Den] at d; obtain ⟨t, rfl⟩ := d; exact typeIs_str _ _ _⟩))
    F.plainAttrs_str F.slot_str_join F.type_str_join (Nat.zero_le _) (.cons h (fun env => by rw [hs]; rfl) .nil) hbase (fun env => by rw [hs]; rfl) hline
theorem ex_lower {o : Expr} {apos pos : Pos} {fo : Rho → Option PV} (ho : Ex D n c vars .raw o fo)
    (hbase : ∀ env, attributeBase o "lower" env (eval o env) = eval o env := by intro _; rfl) (hline : (apos.endLine == pos.line) = true := by rfl) :
    Ex D n c vars k (.Call (.Attribute o "lower" apos) [] [] pos) (callF lowerV [fo]) :=
  ex_meth cn_lower ho (fun x xs y hy => by unfold lowerV at hy; split at hy <;> first | cases hy; done | (rename_i e; cases e; exact ⟨rfl, fun s v d => by simp only [Den] at d; obtain ⟨t, rfl⟩ := d; exact typeIs_str _ _ _⟩))
    F.plainAttrs_str F.slot_str_lower F.type_str_lower (Nat.zero_le _) .nil hbase (fun env => rfl) hline
theorem ex_bitLen {o : Expr} {apos pos : Pos} {fo : Rho → Option PV} (ho : Ex D n c vars .raw o fo)
    (hbase : ∀ env, attributeBase o "bit_length" env (eval o env) = eval o env := by intro _; rfl) (hline : (apos.endLine == pos.line) = true := by rfl) :
    Ex D n c vars k (.Call (.Attribute o "bit_length" apos) [] [] pos) (callF bitLenV [fo]) :=
  ex_meth cn_bitLen ho (fun x xs y hy => by unfold bitLenV at hy; split at hy <;> first | cases hy; done | (rename_i e; cases e; exact ⟨rfl, fun s v d => by simp only [Den] at d; obtain ⟨t, rfl⟩ := d; exact typeIs_int _ _ _⟩))
    F.plainAttrs_int F.slot_int_bit_length F.type_int_bit_length (Nat.zero_le _) .nil hbase (fun env => rfl) hline

/-- two lists added -/
noncomputable def addLV : PV → PV → Option (List PV)
  | .list xs, .list ys => if xs.length + ys.length ≤ 1000000 then some (xs ++ ys) else none
  | _, _ => none
noncomputable def addLF (f g : Rho → Option PV) : Rho → Option (List PV) := fun ρ => (f ρ).bind fun x => (g ρ).bind fun y => addLV x y
theorem exn_add {e1 e2 : Expr} {pos : Pos} {f g : Rho → Option PV} (h1 : Ex D n c vars .cl e1 f) (h2 : Ex D n c vars .cl e2 g) : ExN D n c vars (.BinOp e1 .Add e2 pos) (addLF f g) := fun env A own ρ s z hc hA S hf => by
  obtain ⟨x, hx, hf⟩ := Option.bind_eq_some_iff.mp hf
  obtain ⟨y, hy, hz⟩ := Option.bind_eq_some_iff.mp hf
  refine wpAny_BinOp (wpAny_mono (h1 env A own ρ s x hc hA S hx) (fun v s1 ⟨g1, d1⟩ => ?_) fun _ _ q => q)
  have S1 := S.grow g1
  refine wpAny_mono (h2 env A own ρ s1 y hc hA S1 hy) (fun w s2 ⟨g2, d2⟩ => ?_) fun _ _ q => q
  have d1 := d1.grow g2 S1.tab
  unfold addLV at hz
  split at hz
  · obtain ⟨hl, rfl⟩ := ite_some hz
    simp only [Den] at d1 d2
    obtain ⟨a, vs, rfl, _, l1, dl1⟩ := d1
    obtain ⟨b, ws, rfl, _, l2, dl2⟩ := d2
    have q1 := dl1.length
    have q2 := dl2.length
    obtain ⟨⟨cls, dd, data, sl⟩, ho, hc1, n1, hd1⟩ := id l1
    obtain ⟨⟨cls2, dd2, data2, sl2⟩, ho2, hc2, n2, hd2⟩ := id l2
    simp only at hc1 hd1 hc2 hd2
    subst hc1 hd1 hc2 hd2
    refine concat_meets ⟨_, ho, rfl⟩ ⟨_, ho2, rfl⟩ noFill_list_add seq_list_add PySem.F.slot_list_add PySem.F.entry_list_add (PySem.F.args_list_add_2 _ _) (list_addW a b vs.toArray ws.toArray n1 n2 dd dd2 sl sl2 (by rw [List.size_toArray, List.size_toArray, sizeLine_eq]; grind)) ⟨ho, ho2, ?_⟩
    have S2 := S1.grow g2
    refine ⟨(g1.then g2).then (.of g2.tab fun b o e => Heap.get?_push_of_some _ e), _, vs ++ ws, rfl, (g1.then g2).none S.tab (fresh_at _), ⟨0, ?_⟩, ?_⟩
    · rw [show (vs ++ ws).toArray = vs.toArray ++ ws.toArray by simp]
      exact Heap.get?_push_size _ rfl
    · refine DenL.append ?_ ?_
      · exact dl1.imp fun b o p l e => ⟨Heap.get?_push_of_some _ e, p, fun q => by rw [q, fresh_at] at e; cases e⟩
      · exact dl2.imp fun b o p l e => ⟨Heap.get?_push_of_some _ e, p, fun q => by rw [q, fresh_at] at e; cases e⟩
  · cases hz
/-- one item, many times -/
noncomputable def mulLV : List PV → PV → Option (List PV)
  | [x], .int m => if m ≤ 1000000 ∧ -1000000 ≤ m ∧ x.sc = true then some (List.replicate m.toNat x) else none
  | _, _ => none
theorem mulLV_some {x : List PV} {y : PV} {z : List PV} (h : mulLV x y = some z) : ∃ v m, x = [v] ∧ y = .int m ∧ (m ≤ 1000000 ∧ -1000000 ≤ m ∧ v.sc = true) ∧ z = List.replicate m.toNat v := by
  unfold mulLV at h
  split at h
  · obtain ⟨q, rfl⟩ := ite_some h
    exact ⟨_, _, rfl, rfl, q, rfl⟩
  · cases h
noncomputable def mulLF (f : Rho → Option (List PV)) (g : Rho → Option PV) : Rho → Option (List PV) := fun ρ => (f ρ).bind fun x => (g ρ).bind fun y => mulLV x y
theorem foldl_one {α : Type} (x : α) : ∀ (m : Nat) (acc : Array α), List.foldl (fun x1 x2 => x1 ++ x2) acc (List.replicate m #[x]) = acc ++ (List.replicate m x).toArray
  | 0, acc => by exact rfl
  | m + 1, acc => by
    rw [List.replicate_succ, List.foldl_cons, foldl_one x m, List.replicate_succ]
    apply Array.toList_inj.mp
    simp
theorem exn_mul {e1 e2 : Expr} {pos : Pos} {f : Rho → Option (List PV)} {g : Rho → Option PV} (h1 : ExN D n c vars e1 f) (h2 : Ex D n c vars .raw e2 g) : ExN D n c vars (.BinOp e1 .Mult e2 pos) (mulLF f g) := fun env A own ρ s z hc hA S hf => by
  obtain ⟨x, hx, hf⟩ := Option.bind_eq_some_iff.mp hf
  obtain ⟨y, hy, hz⟩ := Option.bind_eq_some_iff.mp hf
  refine wpAny_BinOp (wpAny_mono (h1 env A own ρ s x hc hA S hx) (fun v s1 hd1 => ?_) fun _ _ q => q)
  obtain ⟨g1, a, vs, rfl, e0, l, d1⟩ := hd1
  have S1 := S.grow g1
  refine wpAny_mono (h2 env A own ρ s1 y hc hA S1 hy) (fun w s2 ⟨g2, d2⟩ => ?_) fun _ _ q => q
  obtain ⟨x, m, rfl, rfl, hq, rfl⟩ := mulLV_some hz
  simp only [DenL, Den] at d1 d2
  obtain ⟨v, r, rfl, dv, rfl⟩ := d1
  obtain ⟨t, rfl⟩ := d2
  obtain ⟨kk, ho⟩ := l
  have ho2 := g2.kp _ _ (S1.tab.ltne ho ⟨.inl rfl, _, _, rfl⟩) id ho
  refine wpAny_binaryOp_repeat_ref (T := "list") (U := "int") (by decide) ⟨_, ho2, rfl⟩ (fun s' => typeIs_int s' m t) noFill_list_mul F.fills_int_mul F.slot_int_rmul repeat_list F.slot_int_index.lookup
    (call_meets F.slot_int_rmul (typeIs_int s2 m t) F.entry_int_rmul (F.args_int_rmul_2 _ _) (int___rmul___int_list m t a _ kk)
    ⟨ho2, rfl, ⟨_, ho2, rfl⟩, call_meets F.slot_list_mul ⟨_, ho2, rfl⟩ F.entry_list_mul (F.args_list_mul_2 _ _)
    (AutoListH.list___mul___list_int_3 a _ kk m t (by simp [Builtin.List.listFitsIndex]; omega) (by simp; omega) (by simp [Builtin.List.listTooLong, sizeLine]; omega))
    ⟨ho2, ?_⟩⟩)
  refine ⟨(g1.then g2).then (.of g2.tab fun b o e => Heap.get?_push_of_some _ e), _, List.replicate m.toNat v, rfl, (g1.then g2).none S.tab (fresh_at _), ⟨0, ?_⟩, DenL.replicate (dv.sc hq.2.2) _⟩
  have : (List.replicate m.toNat v).toArray = List.foldl (fun x1 x2 => x1 ++ x2) #[] (List.replicate (if ([v].toArray).isEmpty = true then 0 else m.toNat) [v].toArray) := by
    rw [if_neg (by exact ne_true_of_eq_false rfl)]; rw [foldl_one v m.toNat #[]]; simp
  rw [this]
  exact Heap.get?_push_size _ rfl

-- lists, tuples told apart
mutual
noncomputable def toPy : PV → PyData
  | .none => .none
  | .bool b => .bool b
  | .int i => .int i
  | .str x => .str x
  | .list xs => .list (toPyL xs)
  | .tuple xs => .tuple (toPyL xs)
noncomputable def toPyL : List PV → List PyData
  | [] => []
  | x :: xs => toPy x :: toPyL xs
end
mutual
theorem den_reads {P : Addr → Prop} {h : Heap} : ∀ {x : PV} {v : Value}, Den P h x v → ∃ as, Reads h v (toPy x) as
  | .none, v, d => by simp only [Den] at d; subst d; exact ⟨_, .none⟩
  | .bool b, v, d => by simp only [Den] at d; subst d; exact ⟨_, .bool _⟩
  | .int i, v, d => by simp only [Den] at d; obtain ⟨t, rfl⟩ := d; exact ⟨_, .int _ _⟩
  | .str x, v, d => by simp only [Den] at d; obtain ⟨t, rfl⟩ := d; exact ⟨_, .str _ _⟩
  | .list xs, v, d => by
    simp only [Den] at d; obtain ⟨a, vs, rfl, _, ⟨o, e, hc, nn, hd⟩, dl⟩ := d
    obtain ⟨as, r⟩ := denL_reads dl
    exact ⟨_, reads_list_at e hc hd r⟩
  | .tuple xs, v, d => by
    simp only [Den] at d; obtain ⟨a, vs, rfl, _, ⟨o, e, hc, nn, hd⟩, dl⟩ := d
    obtain ⟨as, r⟩ := denL_reads dl
    exact ⟨_, reads_tuple_at e hc hd r⟩
theorem denL_reads {P : Addr → Prop} {h : Heap} : ∀ {xs : List PV} {vs : List Value}, DenL P h xs vs → ∃ as, ReadsAll h vs (toPyL xs) as
  | [], vs, d => by simp only [DenL] at d; subst d; exact ⟨_, .nil⟩
  | x :: xs, vs, d => by
    simp only [DenL] at d; obtain ⟨v, r, rfl, d1, d2⟩ := d
    obtain ⟨as, r1⟩ := den_reads d1
    obtain ⟨bs, r2⟩ := denL_reads d2
    exact ⟨_, .cons r1 r2⟩
end
noncomputable def neDF (f g : Rho → Option PV) : Rho → Option Bool := fun ρ => (f ρ).bind fun x => (g ρ).bind fun y => if SeqAt.shaped (toPy x) = true ∧ SeqAt.shaped (toPy y) = true then some (!(toPy x).eqv (toPy y)) else none
theorem tx_neD {e1 e2 : Expr} {pos : Pos} {f g : Rho → Option PV} (h1 : Ex D n c vars .raw e1 f) (h2 : Ex D n c vars .raw e2 g) (hm : behindInMarks .NotEq e2 = false := by with_unfolding_all rfl) :
    Tx D n c vars (.Compare e1 [.NotEq] [e2] pos) (neDF f g) := fun env A own ρ s b he hA S hf => by
  obtain ⟨x, y, hx, hy, hz⟩ := bind2b hf
  obtain ⟨hq, rfl⟩ := ite_some hz
  refine wpAny_isTrue_Compare1 (wpAny_mono (h1 env A own ρ s x he hA S hx) (fun v s1 ⟨g1, d1⟩ => ?_) fun _ _ q => q) hm
  have S1 := S.grow g1
  refine wpAny_mono (h2 env A own ρ s1 y he hA S1 hy) (fun w s2 ⟨g2, d2⟩ => ?_) fun _ _ q => q
  obtain ⟨as, r1⟩ := den_reads (d1.grow g2 S1.tab)
  obtain ⟨bs, r2⟩ := den_reads d2
  refine ne_dataH r1 r2 hq.1 hq.2 ?_ ?_
  · have := hA.2.2; have e : cLine = 9900 := rfl; grind
  · exact wpAny_truthy_bool ⟨g1.then g2, rfl⟩

/-- list(range(a, b, c)) -/
noncomputable def rangeL (a b cc : Int) : List Int := (List.range (Builtin.Range.rangeSize a b cc).toNat).map fun (i : Nat) => a + (i : Int) * cc
noncomputable def listRangeV : PV → PV → PV → Option (List PV)
  | .int a, .int b, .int cc => if cc ≠ 0 ∧ Builtin.Range.small a b cc = true ∧ 0 ≤ Builtin.Range.rangeSize a b cc ∧ Builtin.Range.rangeSize a b cc ≤ 1000000 ∧ Builtin.divisionGoesByPylong (b - a) cc = false then some ((rangeL a b cc).map .int) else none
  | _, _, _ => none
theorem listRangeV_some {x y w : PV} {z : List PV} (h : listRangeV x y w = some z) : ∃ a b cc, x = .int a ∧ y = .int b ∧ w = .int cc ∧
    (cc ≠ 0 ∧ Builtin.Range.small a b cc = true ∧ 0 ≤ Builtin.Range.rangeSize a b cc ∧ Builtin.Range.rangeSize a b cc ≤ 1000000 ∧ Builtin.divisionGoesByPylong (b - a) cc = false) ∧ z = (rangeL a b cc).map .int := by
  unfold listRangeV at h
  split at h
  · obtain ⟨q, rfl⟩ := ite_some h
    exact ⟨_, _, _, rfl, rfl, rfl, q, rfl⟩
  · cases h
noncomputable def listRangeF (fa fb fc : Rho → Option PV) : Rho → Option (List PV) := fun ρ => (fa ρ).bind fun a => (fb ρ).bind fun b => (fc ρ).bind fun cc => listRangeV a b cc
theorem denL_ints {P : Addr → Prop} {h : Heap} : ∀ {ns : List Int} {vs : List Value}, vs.length = ns.length → (∀ (j : Nat) (v : Value), vs[j]? = some v → ∃ (i : Int) (t : Tok), ns[j]? = some i ∧ v = Value.int i t) → DenL P h (ns.map PV.int) vs
  | [], [], _, _ => by exact rfl
  | [], _ :: _, e, _ => by simp at e
  | _ :: _, [], e, _ => by simp at e
  | n :: ns, v :: vs, e, k => by
    obtain ⟨i, t, e1, rfl⟩ := k 0 v rfl
    simp at e1; subst e1
    simp only [List.map_cons, DenL]
    exact ⟨_, vs, rfl, den_int, denL_ints (by simpa using e) fun j v hv => by simpa using k (j + 1) v (by simpa using hv)⟩
theorem exn_listRange {p pos p2 pos2 : Pos} {e1 e2 e3 : Expr} {fa fb fc : Rho → Option PV} (ha : Ex D n c vars .raw e1 fa) (hb : Ex D n c vars .raw e2 fb) (hcc : Ex D n c vars .raw e3 fc) (hl : Gv D "list" (.type "list")) (hr : Gv D "range" (.type "range"))
    (hkl : c.sc.names.lookup ("list" : Str) = some .globalImplicit) (hkr : c.sc.names.lookup ("range" : Str) = some .globalImplicit)
    (hs : ∀ env, starEach [.Call (.Name "range" p2) [e1, e2, e3] [] pos2] env = [(false, eval (.Call (.Name "range" p2) [e1, e2, e3] [] pos2) env)] := by intro _; rfl)
    (hs2 : ∀ env, starEach [e1, e2, e3] env = [(false, eval e1 env), (false, eval e2 env), (false, eval e3 env)] := by intro _; rfl) :
    ExN D n c vars (.Call (.Name "list" p) [.Call (.Name "range" p2) [e1, e2, e3] [] pos2] [] pos) (listRangeF fa fb fc) := fun env A own ρ s z hc hA S hf => by
  obtain ⟨a, ea, hf⟩ := Option.bind_eq_some_iff.mp hf
  obtain ⟨b, eb, hf⟩ := Option.bind_eq_some_iff.mp hf
  obtain ⟨cc, ec, hf⟩ := Option.bind_eq_some_iff.mp hf
  obtain ⟨a, b, cc, rfl, rfl, rfl, hq, rfl⟩ := listRangeV_some hf
  obtain ⟨q0, q1, q2, q3, q4⟩ := hq
  refine wpAny_Call_NameR (glob_ok hc S hkl hl ?_ (by rfl))
  rw [hs env]
  refine callWith_type rfl (Calls.evalArgs_plain (Calls.spliced_cons ?_))
  refine wpAny_Call_NameR (glob_ok hc S hkr hr ?_ (by rfl))
  rw [hs2 env]
  refine callWith_type rfl (Calls.evalArgs_plain (Calls.spliced_cons (wpAny_mono (ha env A own ρ s _ hc hA S ea) (fun v1 s1 ⟨g1, d1⟩ => ?_) fun _ _ q => q)))
  have S1 := S.grow g1
  refine Calls.spliced_cons (wpAny_mono (hb env A own ρ s1 _ hc hA S1 eb) (fun v2 s2 ⟨g2, d2⟩ => ?_) fun _ _ q => q)
  have S2 := S1.grow g2
  refine Calls.spliced_cons (wpAny_mono (hcc env A own ρ s2 _ hc hA S2 ec) (fun v3 s3 ⟨g3, d3⟩ => ?_) fun _ _ q => q)
  simp only [Den] at d1 d2 d3
  obtain ⟨t1, rfl⟩ := d1
  obtain ⟨t2, rfl⟩ := d2
  obtain ⟨t3, rfl⟩ := d3
  refine Calls.spliced_nil (call_range_3 q0 (Calls.spliced_nil ?_) (.inl q4))
  have G3 := (g1.then g2).then g3
  obtain ⟨N, hN⟩ := Int.eq_ofNat_of_zero_le q2
  refine call_list_range hA.1 (IsRange.new ..) q1 hN (by omega) fun h' tk acc' c' hk hl' hi => ?_
  have G4 : Grow D.T s3 { s3 with heap := h', toks := tk } := .of G3.tab fun b o e => hk b o (Heap.get?_push_of_some _ e)
  refine ⟨G3.then G4, _, acc'.toList, rfl, ?_, ⟨c', ?_⟩, denL_ints ?_ fun j v hv => ?_⟩
  · refine G3.none S.tab ?_
    show s3.heap.get? (s3.heap.push _).objs.size = none
    rw [Heap.size_push]
    cases q : s3.heap.get? (s3.heap.objs.size + 1) with
    | none => rfl
    | some o => exact absurd (Nat.lt_of_succ_lt (Heap.lt_size q)) (Nat.lt_irrefl _)
  · rw [Array.toArray_toList]; exact hl'
  · simp only [Array.length_toList, hi.1, rangeL, List.length_map, List.length_range, hN]; simp
  · obtain ⟨t, rfl⟩ := hi.2 j v (by simpa using hv)
    have hj : j < N := by
      have h1 : j < acc'.toList.length := (List.getElem?_eq_some_iff.mp hv).1
      rw [Array.length_toList, hi.1] at h1; exact h1
    exact ⟨_, t, by simp [rangeL, hN, hj], rfl⟩
end
end Mine
end
section
namespace Mine

theorem plain_update {h : Heap} {l : Addr} {items : Array Value} (x : h.PlainList l items) (f : Array Value → Array Value) : (h.update l (Obj.mapSeq f)).PlainList l (f items) := by
  obtain ⟨n, e⟩ := x
  exact ⟨_, IsL.update (n := n) e f⟩
theorem setItem_plain {prog : Program} {w : World} {A : Around} {E : Value → Shared → Prop} {s : Shared} {l : Addr} {items : Array Value} {k : Int} {t : Tok} {v : Value} {Q : Unit → Shared → Prop} (hp : s.heap.PlainList l items)
    (h0 : 0 ≤ k) (hfit : k < 2 ^ 63) (hn : k < items.size)
    (hQ : ∀ h', h'.PlainList l (items.setIfInBounds k.toNat v) → Heap.SameBut l s.heap h' → Q () { s with heap := h' }) :
    wpAny (model prog w) A (setItem (.ref l) (.int k t) v) Q E s := by
  have hl := hp.isList
  obtain ⟨o, ho, hc, ne, hd⟩ := id hl
  unfold setItem
  try with_reducible refine wpAny_holding ?_
  first | refine wpAny_bind (wpAny_pure ?_) | skip
  refine wpAny_bind (wpAny_sequenceKey hl.typeIs (by decide) ?_)
  refine wpAny_bind (wpAny_callSpecial?_slot (name := Str.ofString "__setitem__") hl.typeIs slot_list_setitem
    (wpAny_call_entry slot_list_setitem hl.typeIs entry_list_setitem ?_ (args_list_setitem _ _ _)))
  show wpAny _ _ (Builtin.List.listSubscript? (.int k t) >>= _) _ _ s
  refine wpAny_bind (wpAny_listSubscript_int (fitsIndex_of h0 hfit) ?_)
  clear hfit
  obtain ⟨j, rfl⟩ := Int.eq_ofNat_of_zero_le h0
  have hj : j < items.size := by exact (fun {n m} => Iff.mp Int.ofNat_lt) hn
  have hx' : items[j]? = some items[j] := Array.getElem?_eq_getElem hj
  show wpAny _ _ ((seqItemAt l j >>= fun r => pure (r.map (j, ·))) >>= _) _ _ s
  refine wpAny_bind (wpAny_bind (wpAny_seqItemAt ho hd (wpAny_pure ?_)))
  rw [hx']
  show wpAny _ _ (setSeqItemAt l j v >>= _) _ _ s
  have hfin := plain_update hp (·.setIfInBounds j v)
  refine wpAny_bind (wpAny_setSeqItemAt ho hd ?_)
  first
    | exact wpAny_bind (wpAny_pure (wpAny_pure ⟨.none, rfl, wpAny_pure (hQ _ hfin (Heap.SameBut.update ..))⟩))
    | exact wpAny_pure ⟨.none, rfl, wpAny_pure (hQ _ hfin (Heap.SameBut.update ..))⟩

section
variable {D : Dt} {n : Nat} {c : Sct} {vars : List (Option Str)} {k : Kd}

theorem LT.plain {h : Heap} {a : Addr} {vs : Array Value} (l : h.PlainList a vs) : ∃ o, h.get? a = some o ∧ LT o := LT.list l.isList
theorem slot_ow_set {own : Own} {s : Shared} {a : Addr} {h' : Heap} {i : Nat} {vs : List Value} {xs : List PV} {v : Value} (hm : own i = [a]) (hs : Heap.SameBut a s.heap h') (hv : v = .ref a) (l : h'.PlainList a vs.toArray) (d : DenL (Clean own) s.heap xs vs) :
    SlotOk own h' (own i) (.ow xs) v :=
  ⟨a, vs, hv, hm, l, d.imp fun b o p _ e => ⟨hs.extBut b o (fun q => p i (by rw [hm, q]; exact .head _)) e, p⟩⟩

noncomputable def appendV (i : Nat) (ρ : Rho) (x : PV) : Option Out := match ρ i with
  | some (.ow xs) => if x.sc = true ∧ xs.length ≤ 1000000 then some (.next (upd ρ i (.ow (xs ++ [x])))) else none
  | _ => none
theorem appendV_some {i : Nat} {ρ : Rho} {x : PV} {o : Out} (h : appendV i ρ x = some o) : ∃ xs, ρ i = some (.ow xs) ∧ x.sc = true ∧ xs.length ≤ 1000000 ∧ o = .next (upd ρ i (.ow (xs ++ [x]))) := by
  unfold appendV at h
  split at h
  · split at h
    · rename_i xs hr q; cases h; exact ⟨xs, hr, q.1, q.2, rfl⟩
    · cases h
  · cases h
noncomputable def appendF (i : Nat) (f : Rho → Option PV) : Rho → Option Out := fun ρ => (f ρ).bind fun x => appendV i ρ x
theorem s1_append {x : Str} {px apos pos epos : Pos} {e : Expr} {f : Rho → Option PV} (i : Nat) (hx : vars[i]? = some (some x)) (h : Ex D n c vars .raw e f) (hs : ∀ env, starEach [e] env = [(false, eval e env)] := by intro _; rfl)
    (hi : ∀ env, InC c env → interactive env = false) (hline : (apos.endLine == pos.line) = true := by rfl) : S1 D n c vars (.Expr (.Call (.Attribute (.Name x px) "append" apos) [e] [] pos) epos) (appendF i f) := fun env A own ρ s o hc hA S hf => by
  obtain ⟨y, hy, hf⟩ := Option.bind_eq_some_iff.mp hf
  obtain ⟨xs, hr, hsc, hlen, rfl⟩ := appendV_some hf
  refine wpAny_Expr ?_ (hi env hc) rfl
  refine wpAny_Call_method rfl (by rw [hs]; rfl) hline F.plainAttrs_list slot_list_append type_list_append (wpAny_Name (loadVar S hx hr fun v sl => ?_) (goodNames_at S.gn hx).1)
  obtain ⟨a, vs, rfl, hm, l, d⟩ := sl
  refine ⟨l.isList.typeIs, fun b e => by cases e; obtain ⟨nn, e⟩ := l; exact ⟨_, e, rfl⟩, ?_⟩
  rw [hs]
  refine Calls.callWith_builtin rfl (Calls.evalArgs_plain (Calls.spliced_cons (wpAny_mono (h env A own ρ s _ hc hA S hy) (fun v s1 ⟨g1, d1⟩ => ?_) fun _ _ q => q)))
  have S1 := S.grow g1
  have l1 : s1.heap.PlainList a vs.toArray := by obtain ⟨nn, e⟩ := l; exact ⟨nn, g1.kp _ _ (S.tab.ltne e ⟨.inl rfl, _, _, rfl⟩) id e⟩
  refine Calls.spliced_nil (wpAny_list_append_plain l1 (fun h' hl' hs' => ?_) (by rw [List.size_toArray, d.length, sizeLine_eq]; omega))
  have ⟨S2, k2⟩ := S1.mutate (sl' := .ow (xs ++ [y])) (tk := s1.toks) hx hr (by rw [hm]; exact .head _) hs' (LT.plain hl') fun w q => by
    obtain ⟨a', vs', rfl, hm', l', d'⟩ := q
    rw [hm] at hm'; cases hm'
    have : vs'.toArray = vs.toArray := by
      obtain ⟨n1, e1⟩ := l'; obtain ⟨n2, e2⟩ := l1
      rw [e1] at e2; injection e2 with e2; injection e2 with _ _ e2; injection e2
    have : vs' = vs := by simpa using this
    subst this
    refine slot_ow_set (vs := vs' ++ [v]) hm hs' rfl ?_ (d'.append (.one (d1.sc hsc)))
    have e : (vs' ++ [v]).toArray = vs'.toArray.push v := by exact Eq.symm (List.push_toArray vs' v)
    rw [e]; exact hl'
  exact ⟨own, S2, (Trk.ofGrow g1 S.tab).trans k2 S.tab⟩

noncomputable def popV (i j : Nat) (ρ : Rho) : Option Out := match ρ i with
  | some (.ow xs) => if xs.length ≤ 1000000 then (xs.getLast?).bind fun y => if y.sc = true then some (.next (upd (upd ρ i (.ow xs.dropLast)) j (.fz y))) else none else none
  | _ => none
theorem popV_some {i j : Nat} {ρ : Rho} {o : Out} (h : popV i j ρ = some o) : ∃ xs y, ρ i = some (.ow (xs ++ [y])) ∧ y.sc = true ∧ xs.length + 1 ≤ 1000000 ∧ o = .next (upd (upd ρ i (.ow xs)) j (.fz y)) := by
  unfold popV at h
  split at h
  · rename_i xs hr
    split at h
    · rename_i hl
      obtain ⟨y, hy, h⟩ := Option.bind_eq_some_iff.mp h
      obtain ⟨q, rfl⟩ := ite_some h
      obtain ⟨ys, rfl⟩ := List.getLast?_eq_some_iff.mp hy
      exact ⟨ys, y, hr, q, by simpa using hl, by simp⟩
    · cases h
  · cases h
theorem s1_pop {x y : Str} {px py apos pos spos : Pos} (i j : Nat) (hx : vars[i]? = some (some x)) (hy : vars[j]? = some (some y)) (hky : isLC c.sc y = true) (hline : (apos.endLine == pos.line) = true := by rfl) :
    S1 D n c vars (.Assign [.Name y py] (.Call (.Attribute (.Name x px) "pop" apos) [] [] pos) spos) (popV i j) := fun env A own ρ s o hc hA S hf => by
  obtain ⟨xs, z, hr, hsc, hlen, rfl⟩ := popV_some hf
  refine wpAny_Assign_Name ?_ rfl
  refine wpAny_Call_method rfl rfl hline F.plainAttrs_list F.slot_list_pop F.type_list_pop (wpAny_Name (loadVar S hx hr fun v sl => ?_) (goodNames_at S.gn hx).1)
  obtain ⟨a, vs, rfl, hm, l, d⟩ := sl
  refine ⟨l.isList.typeIs, fun b e => by cases e; obtain ⟨nn, e⟩ := l; exact ⟨_, e, rfl⟩, ?_⟩
  refine Calls.callWith_builtin rfl (PySem.evalArgs_none ?_)
  have hlv := d.length
  rw [List.length_append, List.length_singleton] at hlv
  obtain ⟨v, hv, dv⟩ := d.get (i := xs.length) (x := z) (by exact List.getElem?_concat_length)
  obtain ⟨nn, e⟩ := id l
  refine call_meets F.slot_list_pop l.isList.typeIs F.entry_list_pop (F.args_list_pop_1 _) (MeetsSeq.list_pop_last a vs.toArray nn v (by rw [List.size_toArray, hlv, Nat.add_sub_cancel, List.getElem?_toArray]; exact hv) (by rw [List.size_toArray, hlv, sizeLine_eq]; grind)) ⟨e, ?_⟩
  have hl' := plain_update l (fun xs => xs.eraseIdxIfInBounds (vs.toArray.size - 1))
  have et : vs.toArray.eraseIdxIfInBounds (vs.toArray.size - 1) = (vs.take xs.length).toArray := by
    have hk : vs.toArray.size - 1 = xs.length := by rw [List.size_toArray, hlv]; rfl
    have hlt : xs.length < vs.toArray.size := by rw [List.size_toArray, hlv]; exact Nat.lt_add_one (List.length xs)
    rw [hk]
    unfold Array.eraseIdxIfInBounds
    rw [dif_pos hlt]
    apply Array.toList_inj.mp
    rw [Array.toList_eraseIdx]
    show vs.eraseIdx xs.length = vs.take xs.length
    rw [List.eraseIdx_eq_take_drop_succ, List.drop_of_length_le (by exact Nat.le_of_eq hlv), List.append_nil]
  rw [et] at hl'
  have ⟨S2, k2⟩ := S.mutate (sl' := .ow xs) (tk := s.toks) hx hr (by rw [hm]; exact .head _) (Heap.SameBut.update ..) (LT.plain hl') fun w q => by
    obtain ⟨a', vs', rfl, hm', l', d'⟩ := q
    rw [hm] at hm'; cases hm'
    have : vs'.toArray = vs.toArray := by
      obtain ⟨n1, e1⟩ := l'
      rw [e1] at e; injection e with e; injection e with _ _ e; injection e
    have : vs' = vs := by simpa using this
    subst this
    have dd := d'.take xs.length
    rw [List.take_left] at dd
    exact slot_ow_set hm (Heap.SameBut.update ..) rfl hl' dd
  exact S2.store (L := []) (sl := .fz z) (.refl S2.tab) hy (isLC_kind hc hky) (fun _ m => nomatch m) .nil (dv.sc hsc) fun s3 S3 k3 _ => ⟨_, S3, k2.trans k3 S.tab⟩

noncomputable def revV (i : Nat) (ρ : Rho) : Option Out := match ρ i with
  | some (.ow xs) => if xs.length ≤ 1000000 then some (.next (upd ρ i (.ow xs.reverse))) else none
  | _ => none
theorem s1_reverse {x : Str} {px apos pos epos : Pos} (i : Nat) (hx : vars[i]? = some (some x)) (hi : ∀ env, InC c env → interactive env = false) (hline : (apos.endLine == pos.line) = true := by rfl) :
    S1 D n c vars (.Expr (.Call (.Attribute (.Name x px) "reverse" apos) [] [] pos) epos) (revV i) := fun env A own ρ s o hc hA S hf => by
  unfold revV at hf
  split at hf
  · rename_i xs hr
    obtain ⟨hlen, rfl⟩ := ite_some hf
    refine wpAny_Expr ?_ (hi env hc) rfl
    refine wpAny_Call_method rfl rfl hline F.plainAttrs_list F.slot_list_reverse F.type_list_reverse (wpAny_Name (loadVar S hx hr fun v sl => ?_) (goodNames_at S.gn hx).1)
    obtain ⟨a, vs, rfl, hm, l, d⟩ := sl
    refine ⟨l.isList.typeIs, fun b e => by cases e; obtain ⟨nn, e⟩ := l; exact ⟨_, e, rfl⟩, ?_⟩
    refine Calls.callWith_builtin rfl (PySem.evalArgs_none ?_)
    obtain ⟨nn, e⟩ := id l
    refine call_meets F.slot_list_reverse l.isList.typeIs F.entry_list_reverse (F.args_list_reverse_1 _) (AutoListH.list_reverse_list_0 a vs.toArray nn (by rw [List.size_toArray, d.length, sizeLine_eq]; omega)) ⟨e, ?_⟩
    have hl' := plain_update l (fun x => x.reverse)
    rw [show vs.toArray.reverse = vs.reverse.toArray by simp] at hl'
    have ⟨S2, k2⟩ := S.mutate (sl' := .ow xs.reverse) (tk := s.toks) hx hr (by rw [hm]; exact .head _) (Heap.SameBut.update ..) (LT.plain hl') fun w q => by
      obtain ⟨a', vs', rfl, hm', l', d'⟩ := q
      rw [hm] at hm'; cases hm'
      have : vs'.toArray = vs.toArray := by
        obtain ⟨n1, e1⟩ := l'
        rw [e1] at e; injection e with e; injection e with _ _ e; injection e
      have : vs' = vs := by simpa using this
      subst this
      exact slot_ow_set hm (Heap.SameBut.update ..) rfl hl' d'.reverse
    exact ⟨own, S2, k2⟩
  · cases hf

noncomputable def setV (i : Nat) (ρ : Rho) (y x : PV) : Option Out := match ρ i, y with
  | some (.ow xs), .int k => if x.sc = true ∧ 0 ≤ k ∧ k < xs.length ∧ xs.length ≤ 1000000 then some (.next (upd ρ i (.ow (xs.set k.toNat x)))) else none
  | _, _ => none
theorem setV_some {i : Nat} {ρ : Rho} {y x : PV} {o : Out} (h : setV i ρ y x = some o) : ∃ xs k, ρ i = some (.ow xs) ∧ y = .int k ∧ (x.sc = true ∧ 0 ≤ k ∧ k < xs.length ∧ xs.length ≤ 1000000) ∧ o = .next (upd ρ i (.ow (xs.set k.toNat x))) := by
  unfold setV at h
  split at h
  · split at h
    · rename_i xs k hr q; cases h; exact ⟨xs, k, hr, rfl, q, rfl⟩
    · cases h
  · cases h
noncomputable def setF (i : Nat) (fi fe : Rho → Option PV) : Rho → Option Out := fun ρ => (fe ρ).bind fun x => (fi ρ).bind fun y => setV i ρ y x
theorem s1_setitem {x : Str} {px sp pos : Pos} {e1 e2 : Expr} {fi fe : Rho → Option PV} (i : Nat) (hx : vars[i]? = some (some x)) (hi : Ex D n c vars .raw e1 fi) (he : Ex D n c vars .raw e2 fe)
    (hs : ∀ env, swapsWith e2 (some (.Subscript (.Name x px) e1 sp)) pos.line env = pure false := by intro _; rfl) : S1 D n c vars (.Assign [.Subscript (.Name x px) e1 sp] e2 pos) (setF i fi fe) := fun env A own ρ s o hc hA S hf => by
  obtain ⟨z, hz, hf⟩ := Option.bind_eq_some_iff.mp hf
  obtain ⟨y, hy, hf⟩ := Option.bind_eq_some_iff.mp hf
  obtain ⟨xs, kk, hr, rfl, ⟨hsc, h0, h1, h2⟩, rfl⟩ := setV_some hf
  refine wpAny_Assign_Subscript (wpAny_mono (he env A own ρ s z hc hA S hz) (fun v s1 ⟨g1, d1⟩ => ?_) fun _ _ q => q) (hs env)
  have S1 := S.grow g1
  refine wpAny_Name (loadVar S1 hx hr fun ov sl => ?_) (goodNames_at S.gn hx).1
  refine wpAny_mono (hi env A own ρ s1 _ hc hA S1 hy) (fun iv s2 ⟨g2, d2⟩ => ?_) fun _ _ q => q
  have S2 := S1.grow g2
  obtain ⟨a, vs, rfl, hm, l, d⟩ := sl
  simp only [Den] at d2
  obtain ⟨t, rfl⟩ := d2
  have l2 : s2.heap.PlainList a vs.toArray := by obtain ⟨nn, e⟩ := l; exact ⟨nn, g2.kp _ _ (S1.tab.ltne e ⟨.inl rfl, _, _, rfl⟩) id e⟩
  have hlen := d.length
  refine setItem_plain l2 h0 (by omega) (by rw [List.size_toArray, hlen]; exact h1) fun h' hl' hs' => ?_
  have e : vs.toArray.setIfInBounds kk.toNat v = (vs.set kk.toNat v).toArray := by exact List.setIfInBounds_toArray vs (Int.toNat kk) v
  rw [e] at hl'
  have ⟨S3, k3⟩ := S2.mutate (sl' := .ow (xs.set kk.toNat z)) (tk := s2.toks) hx hr (by rw [hm]; exact .head _) hs' (LT.plain hl') fun w q => by
    obtain ⟨a', vs', rfl, hm', l', d'⟩ := q
    rw [hm] at hm'; cases hm'
    have : vs'.toArray = vs.toArray := by
      obtain ⟨n1, e1⟩ := l'; obtain ⟨n2, e2⟩ := l2
      rw [e1] at e2; injection e2 with e2; injection e2 with _ _ e2; injection e2
    have : vs' = vs := by simpa using this
    subst this
    exact slot_ow_set hm hs' rfl hl' (DenL.set (d1.sc hsc) d' _)
  exact ⟨own, S3, ((Trk.ofGrow g1 S.tab).trans (.ofGrow g2 S1.tab) S.tab).trans k3 S.tab⟩

/-- a row's item -/
noncomputable def set2V (i : Nat) (ρ : Rho) (r y x : PV) : Option Out := match ρ i, r, y with
  | some (.ow2 xss), .int a, .int b => if x.sc = true ∧ 0 ≤ a ∧ a ≤ 1000000 ∧ 0 ≤ b ∧ b ≤ 1000000 then (xss[a.toNat]?).bind fun xs => if b < xs.length then some (.next (upd ρ i (.ow2 (xss.set a.toNat (xs.set b.toNat x))))) else none else none
  | _, _, _ => none
theorem set2V_some {i : Nat} {ρ : Rho} {r y x : PV} {o : Out} (h : set2V i ρ r y x = some o) : ∃ xss a b xs, ρ i = some (.ow2 xss) ∧ r = .int a ∧ y = .int b ∧ (x.sc = true ∧ 0 ≤ a ∧ a ≤ 1000000 ∧ 0 ≤ b ∧ b ≤ 1000000) ∧ xss[a.toNat]? = some xs ∧ b < xs.length ∧
    o = .next (upd ρ i (.ow2 (xss.set a.toNat (xs.set b.toNat x)))) := by
  unfold set2V at h
  split at h
  · rename_i xss a b hr
    split at h
    · rename_i q
      obtain ⟨xs, hxs, h⟩ := Option.bind_eq_some_iff.mp h
      obtain ⟨q2, rfl⟩ := ite_some h
      exact ⟨xss, a, b, xs, hr, rfl, rfl, q, hxs, q2, rfl⟩
    · cases h
  · cases h
theorem Rows.at {P : Addr → Prop} {h : Heap} {xss : List (List PV)} {bs : List Addr} (r : Rows P h xss bs) : ∀ {i : Nat} {xs : List PV}, xss[i]? = some xs → ∃ b vs, bs[i]? = some b ∧ h.IsList b vs.toArray ∧ DenL P h xs vs := by
  induction r with
  | nil => intro i xs e; simp at e
  | cons hl d _ ih =>
    intro i xs e
    cases i with
    | zero => simp at e; subst e; exact ⟨_, _, rfl, hl, d⟩
    | succ i => simp at e; obtain ⟨b, vs, e1, e2⟩ := ih e; exact ⟨b, vs, by simpa using e1, e2⟩
theorem Rows.set {P : Addr → Prop} {h h' : Heap} {xss : List (List PV)} {bs : List Addr} (r : Rows P h xss bs) (hb : bs.Nodup) (hp : ∀ b ∈ bs, ¬ P b) : ∀ {i : Nat} {b : Addr} {ys : List PV} {ws : List Value}, bs[i]? = some b → Heap.SameBut b h h' → h'.IsList b ws.toArray → DenL P h ys ws →
    Rows P h' (xss.set i ys) bs := by
  induction r with
  | nil => intro i b ys ws e; simp at e
  | @cons xs xss b0 bs vs hl d r ih =>
    intro i b ys ws e hs hl' dy
    obtain ⟨nb, hb⟩ := List.nodup_cons.mp hb
    cases i with
    | zero =>
      simp at e; subst e
      simp only [List.set_cons_zero]
      refine .cons hl' (dy.imp fun a o p _ e => ⟨hs.extBut a o (fun q => hp _ (.head _) (q ▸ p)) e, p⟩) ?_
      exact r.imp (fun a o p _ e => ⟨hs.extBut a o (fun q => hp _ (.head _) (q ▸ p)) e, p⟩) fun a ha o _ e => hs.extBut a o (fun q => nb (q ▸ ha)) e
    | succ i =>
      simp at e
      simp only [List.set_cons_succ]
      have hbm : b ∈ bs := List.mem_of_getElem? e
      obtain ⟨o, e1, q1, nn, q2⟩ := hl
      exact .cons ⟨o, hs.extBut _ _ (fun q => nb (q ▸ hbm)) e1, q1, nn, q2⟩ (d.imp fun a o p _ e => ⟨hs.extBut a o (fun q => hp _ (.tail _ hbm) (q ▸ p)) e, p⟩) (ih hb (fun b m => hp b (.tail _ m)) e hs hl' dy)

noncomputable def set2F (i : Nat) (fr fi fe : Rho → Option PV) : Rho → Option Out := fun ρ => (fe ρ).bind fun x => (fr ρ).bind fun r => (fi ρ).bind fun y => set2V i ρ r y x
theorem s1_setitem2 {x : Str} {px sp1 sp pos : Pos} {e0 e1 e2 : Expr} {fr fi fe : Rho → Option PV} (i : Nat) (hx : vars[i]? = some (some x)) (h0 : Ex D n c vars .raw e0 fr) (hi : Ex D n c vars .raw e1 fi) (he : Ex D n c vars .raw e2 fe)
    (hs : ∀ env, swapsWith e2 (some (.Subscript (.Subscript (.Name x px) e0 sp1) e1 sp)) pos.line env = pure false := by intro _; rfl)
    (hs2 : ∀ o i, subscripted e0 false o i = operate [o, i] (getItem o i) := by intro _ _; rfl) :
    S1 D n c vars (.Assign [.Subscript (.Subscript (.Name x px) e0 sp1) e1 sp] e2 pos) (set2F i fr fi fe) := fun env A own ρ s o hc hA S hf => by
  obtain ⟨z, hz, hf⟩ := Option.bind_eq_some_iff.mp hf
  obtain ⟨r, hr0, hf⟩ := Option.bind_eq_some_iff.mp hf
  obtain ⟨y, hy, hf⟩ := Option.bind_eq_some_iff.mp hf
  obtain ⟨xss, a, b, xs, hr, rfl, rfl, ⟨hsc, q1, q2, q3, q4⟩, hxs, hbl, rfl⟩ := set2V_some hf
  refine wpAny_Assign_Subscript (wpAny_mono (he env A own ρ s z hc hA S hz) (fun v s1 ⟨g1, d1⟩ => ?_) fun _ _ q => q) (hs env)
  have S1 := S.grow g1
  refine Subscript_ (wpAny_Name (loadVar S1 hx hr fun ov sl => ?_) (goodNames_at S.gn hx).1)
  refine wpAny_mono (h0 env A own ρ s1 _ hc hA S1 hr0) (fun rv s2 ⟨g2, d2⟩ => ?_) fun _ _ q => q
  have S2 := S1.grow g2
  simp only [Den] at d2
  obtain ⟨t, rfl⟩ := d2
  have sl2 : SlotOk own s2.heap (own i) (.ow2 xss) ov := sl.imp (fun a o p l e => ⟨g2.kp a o (S1.tab.ltne e l) id e, p⟩) fun a _ o l e => g2.kp a o (S1.tab.ltne e l) id e
  obtain ⟨tb, bs, rfl, hm, il, rw'⟩ := sl2
  obtain ⟨rb, rvs, hrb, ilr, dr⟩ := rw'.at hxs
  refine tail_any il.typeIs slot_list_getitem.lookup (list_item (vs := bs.map Value.ref) (j := a.toNat) il (by omega) q2 ?_ (by rw [List.getElem?_map, hrb]; rfl) ?_) (hs2 _ _)
  · have : a.toNat < bs.length := (List.getElem?_eq_some_iff.mp hrb).1
    unfold seqIndex?
    rw [List.length_map]
    simp only [if_neg (show ¬ a < 0 by exact Int.not_lt_of_ge q1)]
    rw [if_pos (by simp; omega)]
  refine wpAny_mono (hi env A own ρ s2 _ hc hA S2 hy) (fun iv s3 ⟨g3, d3⟩ => ?_) fun _ _ q => q
  have S3 := S2.grow g3
  simp only [Den] at d3
  obtain ⟨t3, rfl⟩ := d3
  have ilr3 := isList_gr g3 S2.tab id ilr
  have hrl := dr.length
  refine wpAny_setItem_list ilr3 q3 (by omega) (by rw [List.size_toArray, hrl]; exact hbl) fun h' hl' hs' => ?_
  have e : rvs.toArray.setIfInBounds b.toNat v = (rvs.set b.toNat v).toArray := by simp
  rw [e] at hl'
  have hmem : rb ∈ bs := List.mem_of_getElem? hrb
  have hown : rb ∈ own i := by rw [hm]; exact .tail _ hmem
  have ⟨S4, k4⟩ := S3.mutate (sl' := .ow2 (xss.set a.toNat (xs.set b.toNat z))) (tk := s3.toks) hx hr hown hs' (LT.list hl') fun w q => by
    obtain ⟨tb', bs', rfl, hm', il', rw''⟩ := q
    rw [hm] at hm'; cases hm'
    have nd := S3.on i
    rw [hm] at nd
    obtain ⟨ntb, nd⟩ := List.nodup_cons.mp nd
    refine ⟨tb, bs, rfl, hm, ?_, rw''.set nd (fun b hb p => p i (by rw [hm]; exact .tail _ hb)) hrb hs' hl' ?_⟩
    · obtain ⟨o, e1, c1, nn, c2⟩ := il'
      exact ⟨o, hs'.extBut _ _ (fun q => ntb (q ▸ hmem)) e1, c1, nn, c2⟩
    · obtain ⟨rb', rvs', hrb', ilr', dr'⟩ := rw''.at hxs
      rw [hrb] at hrb'; cases hrb'
      have : rvs' = rvs := by
        obtain ⟨o1, e1, _, n1, c1⟩ := ilr'; obtain ⟨o2, e2, _, n2, c2⟩ := ilr3
        rw [e1] at e2; cases e2
        rw [c1] at c2; injection c2 with c2
        simpa using c2
      subst this
      exact DenL.set (d1.sc hsc) dr' _
  exact ⟨own, S4, (((Trk.ofGrow g1 S.tab).trans (.ofGrow g2 S1.tab) S.tab).trans (.ofGrow g3 S2.tab) S.tab).trans k4 S.tab⟩
end
end Mine
end
section
namespace Mine

section
variable {D : Dt} {n : Nat} {c : Sct} {vars : List (Option Str)} {k : Kd}

/-- a row of names is bound -/
inductive StL (c : Sct) (vars : List (Option Str)) (env : Env) : List (Value → Sem Unit) → List Nat → Prop where
  | nil : StL c vars env [] []
  | cons {f : Value → Sem Unit} {fs : List (Value → Sem Unit)} {i : Nat} {is : List Nat} {x : Str} : vars[i]? = some (some x) → isLC c.sc x = true →
      (∀ (M : Model) (A : Around) (Q : Unit → Shared → Prop) (E : Value → Shared → Prop) (s : Shared) (v : Value), wpAny M A (storeName env x v) Q E s → wpAny M A (f v) Q E s) → StL c vars env fs is → StL c vars env (f :: fs) (i :: is)
noncomputable def updL : List Nat → List PV → Rho → Option Rho
  | [], [], ρ => some ρ
  | i :: is, x :: xs, ρ => updL is xs (upd ρ i (.fz x))
  | _, _, _ => none
/-- what no name holds stands -/
structure Kept (vars : List (Option Str)) (own : Own) (s : Shared) (own' : Own) (s' : Shared) : Prop where
  o : ∀ j, (∀ x, vars[j]? ≠ some (some x)) → own' j = own j
  sub : ∀ j a, a ∈ own' j → a ∈ own j
  l : ∀ b o, LT o → s.heap.get? b = some o → s'.heap.get? b = some o
theorem Kept.refl {own : Own} {s : Shared} : Kept vars own s own s := ⟨fun _ _ => rfl, fun _ _ m => m, fun _ _ _ e => e⟩
theorem Kept.trans {own own' own'' : Own} {s s' s'' : Shared} (x : Kept vars own s own' s') (y : Kept vars own' s' own'' s'') : Kept vars own s own'' s'' :=
  ⟨fun j h => (y.o j h).trans (x.o j h), fun j a m => x.sub j a (y.sub j a m), fun b o l e => y.l b o l (x.l b o l e)⟩
theorem Kept.set {own : Own} {s s' : Shared} {i : Nat} {x : Str} (hx : vars[i]? = some (some x)) (h : ∀ b o, LT o → s.heap.get? b = some o → s'.heap.get? b = some o) : Kept vars own s (setO own i []) s' :=
  ⟨fun j hj => setO_ne (by rintro rfl; exact hj x hx), fun j a m => by unfold setO at m; split at m; cases m; exact m, h⟩
theorem Kept.grow {T : List Tb} {own : Own} {s s' : Shared} (g : Grow T s s') (t : TabOk T s.heap) : Kept vars own s own s' := ⟨fun _ _ => rfl, fun _ _ m => m, fun b o l e => g.kp b o (t.ltne e l) id e⟩
theorem stL_ok {env : Env} {fs : List (Value → Sem Unit)} {is : List Nat} (h : StL c vars env fs is) : ∀ {A : Around} {own : Own} {ρ ρ' : Rho} {s : Shared} {xs : List PV} {vs : List Value} {Q : Unit → Shared → Prop} {E : Value → Shared → Prop}, InC c env → StE D env vars own ρ s → DenL (Clean own) s.heap xs vs → updL is xs ρ = some ρ' →
    (∀ own' s', StE D env vars own' ρ' s' → Trk D env own s own' s' → Kept vars own s own' s' → Q () s') → wpAny D.M A (assignInOrder fs vs) Q E s := by
  induction h with
  | nil =>
    intro A own ρ ρ' s xs vs Q E hc S d hu hQ
    cases xs with
    | nil => cases hu; simp only [DenL] at d; subst d; exact wpAny_pure (hQ own s S (.ofGrow (.refl S.tab) S.tab) .refl)
    | cons x xs => cases hu
  | @cons f fs i is x hx hk hf _ ih =>
    intro A own ρ ρ' s xs vs Q E hc S d hu hQ
    cases xs with
    | nil => cases hu
    | cons y ys =>
      simp only [DenL] at d
      obtain ⟨v, r, rfl, d1, d2⟩ := d
      show wpAny _ _ (do holding r (f v); assignInOrder fs r) _ _ _
      refine wpAny_bind (wpAny_holding (hf _ _ _ _ _ _ (S.store (L := []) (sl := .fz y) (.refl S.tab) hx (isLC_kind hc hk) (fun _ m => nomatch m) .nil (den_setO d1) fun s2 S2 k2 klt => ?_)))
      refine ih hc S2 (d2.imp fun a o p l e => ⟨klt a o l e, fun j m => ?_⟩) hu fun own' s' S' k' kk => hQ own' s' S' (k2.trans k' S.tab) ((Kept.set hx klt).trans kk)
      unfold setO at m; split at m
      · cases m
      · exact p j m

/-- a target -/
noncomputable def TgtX (D : Dt) (c : Sct) (vars : List (Option Str)) (t : Expr) (u : PV → Rho → Option Rho) : Prop :=
  ∀ (env : Env) (A : Around) (own : Own) (ρ ρ' : Rho) (s : Shared) (x : PV) (v : Value), InC c env → OkA 0 A → StE D env vars own ρ s → Den (Clean own) s.heap x v → u x ρ = some ρ' →
    wpAny D.M A (assign t env v) (fun _ s' => ∃ own', StE D env vars own' ρ' s' ∧ Trk D env own s own' s' ∧ Kept vars own s own' s') (fun _ _ => False) s
noncomputable def nameU (i : Nat) : PV → Rho → Option Rho := fun x ρ => some (upd ρ i (.fz x))
theorem tg_name {x : Str} {px : Pos} (i : Nat) (hx : vars[i]? = some (some x)) (hk : isLC c.sc x = true) : TgtX D c vars (.Name x px) (nameU i) := fun env A own ρ ρ' s y v hc hA S d hu => by
  cases hu
  exact wpAny_assign_Name (S.store (L := []) (sl := .fz y) (.refl S.tab) hx (isLC_kind hc hk) (fun _ m => nomatch m) .nil (den_setO d) fun s2 S2 k2 klt => ⟨_, S2, k2, .set hx klt⟩)
noncomputable def tupU (is : List Nat) : PV → Rho → Option Rho := fun x ρ => match x with
  | .tuple xs => updL is xs ρ
  | _ => none
theorem updL_len : ∀ {is : List Nat} {xs : List PV} {ρ ρ' : Rho}, updL is xs ρ = some ρ' → xs.length = is.length
  | [], [], _, _, _ => rfl
  | [], _ :: _, _, _, h => by cases h
  | _ :: _, [], _, _, h => by cases h
  | i :: is, x :: xs, ρ, ρ', h => by simp [updL_len (is := is) (xs := xs) h]
theorem stL_len {env : Env} {fs : List (Value → Sem Unit)} {is : List Nat} (h : StL c vars env fs is) : fs.length = is.length := by
  induction h with
  | nil => rfl
  | cons _ _ _ _ ih => exact (fun {a b} => Iff.mpr Nat.succ_inj) ih
inductive TgN (c : Sct) (vars : List (Option Str)) : List Expr → List Nat → Prop where
  | nil : TgN c vars [] []
  | cons {x : Str} {p : Pos} {ts : List Expr} {i : Nat} {is : List Nat} : vars[i]? = some (some x) → isLC c.sc x = true → TgN c vars ts is → TgN c vars (.Name x p :: ts) (i :: is)
theorem TgN.stL {env : Env} {ts : List Expr} {is : List Nat} (h : TgN c vars ts is) : StL c vars env ((assignEach ts env).map (·.2)) is ∧ (assignEach ts env).findIdx? (·.1) = none ∧ (assignEach ts env).length = is.length := by
  induction h with
  | nil => exact ⟨.nil, rfl, rfl⟩
  | @cons x p ts i is hx hk _ ih =>
    refine ⟨.cons hx hk (fun M A Q E s v q => wpAny_assign_Name q) ih.1, ?_, ?_⟩
    · show ((false, assign (.Name x p) env) :: assignEach ts env).findIdx? (·.1) = none
      rw [List.findIdx?_cons, ih.2.1]; rfl
    · show ((false, assign (.Name x p) env) :: assignEach ts env).length = _
      simp [ih.2.2]
theorem tg_tup {ts : List Expr} {is : List Nat} {m : Nat} {pos : Pos} (h : TgN c vars ts is) : TgtX D c vars (.Tuple ts m pos) (tupU is) := fun env A own ρ ρ' s y v hc hA S d hu => by
  unfold tupU at hu
  split at hu
  · rename_i xs
    simp only [Den] at d
    obtain ⟨a, vs, rfl, _, l, dl⟩ := d
    obtain ⟨h1, h2, h3⟩ := h.stL (env := env)
    refine wpAny_assign_Tuple hA.1 l (by rw [h3, List.size_toArray, dl.length, updL_len hu]) h2 fun h' he => ?_
    have g : Grow D.T s { s with heap := h' } := .of S.tab fun b o e => he b o (fun q => by rw [q, fresh_at] at e; cases e) e
    have S1 := S.grow g
    exact stL_ok h1 hc S1 (dl.grow g S.tab) hu fun own' s' S' k' kk => ⟨own', S', (Trk.ofGrow g S.tab).trans k' S.tab, (Kept.grow g S.tab).trans kk⟩
  · cases hu
noncomputable def assignTF (u : PV → Rho → Option Rho) (f : Rho → Option PV) : Rho → Option Out := fun ρ => (f ρ).bind fun x => (u x ρ).map .next
theorem s1_assignT {ts : List Expr} {is : List Nat} {m : Nat} {tp pos : Pos} {e : Expr} {f : Rho → Option PV} (ht : TgN c vars ts is) (h : Ex D n c vars .cl e f)
    (hs : ∀ env, swapsWithSole [.Tuple ts m tp] e pos.line env = pure false := by intro _; rfl) (hw : ∀ env, swappedStores [.Tuple ts m tp] e env = pure none := by intro _; rfl) :
    S1 D n c vars (.Assign [.Tuple ts m tp] e pos) (assignTF (tupU is) f) := fun env A own ρ s o hc hA S hf => by
  obtain ⟨x, hx, hf⟩ := Option.bind_eq_some_iff.mp hf
  obtain ⟨ρ', hu, rfl⟩ := Option.map_eq_some_iff.mp hf
  refine PyProof.Rows.Assign_Tuple (wpAny_mono (h env A own ρ s x hc hA S hx) (fun v s1 ⟨g, d⟩ => ?_) fun _ _ q => q) (hs env) (hw env)
  refine wpAny_mono (tg_tup ht env A own ρ ρ' s1 x v hc (hA.mono (Nat.zero_le _)) (S.grow g) d hu) (fun _ s2 ⟨own', S', k', _⟩ => ⟨own', S', (Trk.ofGrow g S.tab).trans k' S.tab⟩) fun _ _ q => q
noncomputable def swapF (is : List Nat) (f : Rho → Option PV) : Rho → Option Out := fun ρ => (f ρ).bind fun x => match x with
  | .tuple xs => (updL is.reverse xs.reverse ρ).map .next
  | _ => none
inductive NmN (c : Sct) (vars : List (Option Str)) : List Str → List Nat → Prop where
  | nil : NmN c vars [] []
  | cons {x : Str} {ns : List Str} {i : Nat} {is : List Nat} : vars[i]? = some (some x) → isLC c.sc x = true → NmN c vars ns is → NmN c vars (x :: ns) (i :: is)
theorem NmN.snoc {x : Str} {i : Nat} {ns : List Str} {is : List Nat} (h : NmN c vars ns is) (hx : vars[i]? = some (some x)) (hk : isLC c.sc x = true) : NmN c vars (ns ++ [x]) (is ++ [i]) := by
  induction h with
  | nil => exact .cons hx hk .nil
  | cons a b _ ih => exact .cons a b ih
theorem NmN.rev {ns : List Str} {is : List Nat} (h : NmN c vars ns is) : NmN c vars ns.reverse is.reverse := by
  induction h with
  | nil => exact .nil
  | cons a b _ ih => rw [List.reverse_cons, List.reverse_cons]; exact ih.snoc a b
theorem NmN.stL {env : Env} {ns : List Str} {is : List Nat} (h : NmN c vars ns is) : StL c vars env (ns.map fun n => bindName env n) is := by
  induction h with
  | nil => exact .nil
  | cons a b _ ih => exact .cons a b (fun M A Q E s v q => wpAny_bindName q) ih
theorem NmN.len {ns : List Str} {is : List Nat} (h : NmN c vars ns is) : ns.length = is.length := by
  induction h with
  | nil => rfl
  | cons _ _ _ ih => exact (fun {a b} => Iff.mpr Nat.succ_inj) ih
theorem s1_swap {ts : List Expr} {ns : List Str} {is : List Nat} {m : Nat} {tp pos : Pos} {e : Expr} {f : Rho → Option PV} (hn : NmN c vars ns is) (h : Ex D n c vars .cl e f)
    (hw : ∀ env, InC c env → swappedStores [.Tuple ts m tp] e env = pure (some ns)) (hs : ∀ env, swapsWithSole [.Tuple ts m tp] e pos.line env = pure false := by intro _; rfl) :
    S1 D n c vars (.Assign [.Tuple ts m tp] e pos) (swapF is f) := fun env A own ρ s o hc hA S hf => by
  obtain ⟨x, hx, hf⟩ := Option.bind_eq_some_iff.mp hf
  split at hf
  · rename_i xs
    obtain ⟨ρ', hu, rfl⟩ := Option.map_eq_some_iff.mp hf
    refine PyProof.Rows.Assign_Tuple_swapped (wpAny_mono (h env A own ρ s _ hc hA S hx) (fun v s1 ⟨g, d⟩ => ?_) fun _ _ q => q) (hs env) (hw env hc)
    simp only [Den] at d
    obtain ⟨a, vs, rfl, _, l, dl⟩ := d
    have hlen := updL_len hu
    rw [List.length_reverse, List.length_reverse] at hlen
    have e : ns.length = vs.toArray.size := by rw [hn.len, List.size_toArray, dl.length, hlen]
    rw [e]
    refine unpackItems_tuple hA.1 l fun h' he => ?_
    have g2 : Grow D.T s1 { s1 with heap := h' } := .of g.tab fun b o e => he b o (fun q => by rw [q, fresh_at] at e; cases e) e
    exact stL_ok hn.rev.stL hc ((S.grow g).grow g2) (dl.grow g2 g.tab).reverse hu fun own' s' S' k' _ => ⟨own', S', (Trk.ofGrow (g.then g2) S.tab).trans k' S.tab⟩
  · cases hf

/-- the end of a walk: what it wrote may be gone -/
structure GrD (T : List Tb) (W : Addr → Prop) (G : Nat → Prop) (s s' : Shared) : Prop where
  kp : ∀ b o, ¬ TA T b → ¬ W b → s.heap.get? b = some o → s'.heap.get? b = some o
  tab : TabOk T s'.heap
  os : s'.os = s.os
  gk : ∀ i, i < s.gens.size → ¬ G i → s'.gens[i]? = s.gens[i]?
  gs : s.gens.size ≤ s'.gens.size
  gb : AllBare s.gens → AllBare s'.gens
/-- a walk over a list -/
structure Wk (D : Dt) (n : Nat) (it : Value) (Q : Addr → Prop) (xs : List PV) (fp W : Addr → Prop) (G : Nat → Prop) (St : Nat → Shared → Prop) : Prop where
  item : ∀ (A : Around) (i : Nat) (s : Shared) (x : PV), OkA n A → DtOk (D.at s.heap) → St i s → xs[i]? = some x →
    wpAny D.M A (pyNext it) (fun r s' => ∃ v, r = some v ∧ GrI D.T W G s s' ∧ Den (fun a => Q a ∨ s.heap.get? a = none) s'.heap x v ∧ St (i + 1) s') (fun _ _ => False) s
  done : ∀ (A : Around) (s : Shared), OkA n A → DtOk (D.at s.heap) → St xs.length s → wpAny D.M A (pyNext it) (fun r s' => r = none ∧ GrD D.T W G s s') (fun _ _ => False) s
  frame : ∀ (i : Nat) (s s' : Shared), St i s → (∀ b o, fp b → s.heap.get? b = some o → s'.heap.get? b = some o) → (∀ b o, Q b → LT o → s.heap.get? b = some o → s'.heap.get? b = some o) → (∀ j, j < s.gens.size → s'.gens[j]? = s.gens[j]?) → St i s'
  live : ∀ (i : Nat) (s : Shared) (b : Addr), St i s → fp b → ∃ o, s.heap.get? b = some o ∧ NT o ∧ (W b → ¬ LT o)
  sub : ∀ b, W b → fp b
  go : ∀ (A : Around) (i : Nat) (s : Shared) (t : Expr) (v : Value) (R : Unit → Shared → Prop) (E : Value → Shared → Prop), St i s → R () s → wpAny D.M A (letOwnedTupleGo t it v) R E s
  self : ∀ (A : Around) (i : Nat) (s : Shared) (R E : Value → Shared → Prop), OkA n A → St i s → R it s → wpAny D.M A (pyIter it) R E s

/-- what the frame's ground gives a walk -/
structure DtB (D : Dt) (s : Shared) : Prop where
  ok : DtOk D
  dt : DtOk (D.at s.heap)
  base : ∀ b o, ¬ TA D.T b → D.h1.get? b = some o → s.heap.get? b = some o
  tab : TabOk D.T s.heap
theorem StE.b {D : Dt} {env : Env} {vars : List (Option Str)} {own : Own} {ρ : Rho} {s : Shared} (S : StE D env vars own ρ s) : DtB D s := ⟨S.ok, S.dt, S.base, S.tab⟩
/-- a walk over a list; what it stands on may grow -/
inductive Got (T : List Tb) (Q fp W N0 : Addr → Prop) (G : Nat → Prop) (St : (Addr → Prop) → (Addr → Prop) → Nat → Shared → Prop) (i : Nat) (s : Shared) (x : PV) (s' : Shared) : Option Value → Prop where
  | mk (v : Value) (fp' W' : Addr → Prop) : GrD T W G s s' → (∀ b o, N0 b → W b → s.heap.get? b = some o → ∃ o', s'.heap.get? b = some o') → Den (fun a => Q a ∨ s.heap.get? a = none) s'.heap x v → St fp' W' i s' → (∀ b, fp' b → fp b ∨ s.heap.get? b = none) → (∀ b, W' b → W b ∨ s.heap.get? b = none) → Got T Q fp W N0 G St i s x s' (some v)
structure Wd (D : Dt) (A : Around) (it : Value) (Q : Addr → Prop) (xs : List PV) (V N0 : Addr → Prop) (G : Nat → Prop) (St : (Addr → Prop) → (Addr → Prop) → Nat → Shared → Prop) : Prop where
  item : ∀ (fp W : Addr → Prop) (i : Nat) (s : Shared) (x : PV), DtB D s → (∀ b, s.heap.get? b = none → V b) → St fp W i s → xs[i]? = some x →
    wpAny D.M A (pyNext it) (fun r s' => Got D.T Q fp W N0 G St (i + 1) s x s' r) (fun _ _ => False) s
  done : ∀ (fp W : Addr → Prop) (s : Shared), DtB D s → St fp W xs.length s → wpAny D.M A (pyNext it) (fun r s' => r = none ∧ GrD D.T W G s s') (fun _ _ => False) s
  frame : ∀ (fp W : Addr → Prop) (i : Nat) (s s' : Shared), St fp W i s → (∀ b o, fp b → s.heap.get? b = some o → s'.heap.get? b = some o) → (∀ b o, Q b → LT o → s.heap.get? b = some o → s'.heap.get? b = some o) → (∀ j, j < s.gens.size → s'.gens[j]? = s.gens[j]?) → St fp W i s'
  live : ∀ (fp W : Addr → Prop) (i : Nat) (s : Shared) (b : Addr), St fp W i s → fp b → ∃ o, s.heap.get? b = some o ∧ (∀ ps, o ≠ tabObj ps) ∧ (W b → ¬ LT o)
  sub : ∀ (fp W : Addr → Prop) (i : Nat) (s : Shared) b, St fp W i s → W b → fp b
  v : ∀ (fp W : Addr → Prop) (i : Nat) (s : Shared) b, St fp W i s → W b → V b
  go : ∀ (fp W : Addr → Prop) (i : Nat) (s : Shared) (t : Expr) (v : Value) (R : Unit → Shared → Prop) (E : Value → Shared → Prop), St fp W i s → R () s → wpAny D.M A (letOwnedTupleGo t it v) R E s
  self : ∀ (fp W : Addr → Prop) (i : Nat) (s : Shared) (R E : Value → Shared → Prop), St fp W i s → R it s → wpAny D.M A (pyIter it) R E s
theorem Wk.d {D : Dt} {n : Nat} {it : Value} {Q : Addr → Prop} {xs : List PV} {fp W : Addr → Prop} {G : Nat → Prop} {St : Nat → Shared → Prop} {A : Around} {V : Addr → Prop} (w : Wk D n it Q xs fp W G St) (hA : OkA n A) (hV : ∀ b, W b → V b) : Wd D A it Q xs V W G (fun f v i s => f = fp ∧ v = W ∧ St i s) where
  item := fun f v i s x ok _ st hx => by
    obtain ⟨rfl, rfl, st⟩ := st
    exact wpAny_mono (w.item A i s x hA ok.dt st hx) (fun r s' ⟨v, e, g, d, st'⟩ => e ▸ ⟨v, f, _, ⟨g.kp, g.tab, g.os, g.gk, g.gs, g.gb⟩, fun b o _ w e => g.ex b o w e, d, ⟨rfl, rfl, st'⟩, fun _ h => .inl h, fun _ h => .inl h⟩) fun _ _ q => q
  done := fun f v s ok st => by obtain ⟨rfl, rfl, st⟩ := st; exact w.done A s hA ok.dt st
  frame := fun f v i s s' st h1 h2 h3 => by obtain ⟨rfl, rfl, st⟩ := st; exact ⟨rfl, rfl, w.frame i s s' st h1 h2 h3⟩
  live := fun f v i s b st hb => by obtain ⟨rfl, rfl, st⟩ := st; obtain ⟨o, e, nt, q⟩ := w.live i s b st hb; exact ⟨o, e, (by rintro ps rfl; exact (nt _ rfl).2.1 rfl), q⟩
  sub := fun f v i s b st hb => by obtain ⟨rfl, rfl, st⟩ := st; exact w.sub b hb
  v := fun f v i s b st hb => by obtain ⟨rfl, rfl, st⟩ := st; exact hV b hb
  go := fun f v i s t x R E st h => by obtain ⟨rfl, rfl, st⟩ := st; exact w.go A i s t x R E st h
  self := fun f v i s R E st h => by obtain ⟨rfl, rfl, st⟩ := st; exact w.self A i s R E hA st h

/-- an iterator stands -/
inductive WkAt (D : Dt) (A : Around) (own : Own) (s : Shared) (xs : List PV) (it : Value) (s2 : Shared) : Prop where
  | mk (g : Grow D.T s s2) (Q fp W : Addr → Prop) (G : Nat → Prop) (St : (Addr → Prop) → (Addr → Prop) → Nat → Shared → Prop) : Wd D A it Q xs (fun b => s.heap.get? b = none) W G St → St fp W 0 s2 → (∀ b, fp b → s.heap.get? b = none ∨ (Clean own b ∧ ∃ o, s.heap.get? b = some o ∧ LT o)) →
      (∀ g, G g → s.gens.size ≤ g) → (∀ b, Q b → Clean own b ∧ ∃ o, s2.heap.get? b = some o) → WkAt D A own s xs it s2
theorem WkAt.ofS {D : Dt} {n : Nat} {A : Around} {own : Own} {s : Shared} {xs : List PV} {it : Value} {s2 : Shared} (hA : OkA n A) (h : Grow D.T s s2 ∧ ∃ Q fp W G St, Wk D n it Q xs fp W G St ∧ St 0 s2 ∧ (∀ b, W b → s.heap.get? b = none) ∧ (∀ b, fp b → s.heap.get? b = none ∨ (Clean own b ∧ ∃ o, s.heap.get? b = some o ∧ LT o)) ∧
      (∀ g, G g → s.gens.size ≤ g) ∧ (∀ b, Q b → Clean own b ∧ ∃ o, s2.heap.get? b = some o)) : WkAt D A own s xs it s2 := by
  obtain ⟨g, Q, fp, W, G, St, w, st, hV, r1, r2, r3⟩ := h
  exact ⟨g, Q, fp, W, G, _, w.d hA hV, ⟨rfl, rfl, st⟩, r1, r2, r3⟩

/-- what is walked over -/
noncomputable def ItE (D : Dt) (n : Nat) (c : Sct) (vars : List (Option Str)) (e : Expr) (f : Rho → Option (List PV)) : Prop :=
  ∀ (env : Env) (A : Around) (own : Own) (ρ : Rho) (s : Shared) (xs : List PV), InC c env → OkA n A → StE D env vars own ρ s → f ρ = some xs →
    wpAny D.M A (eval e env) (fun x s1 => wpAny D.M A (pyIter x) (WkAt D A own s xs) (fun _ _ => False) s1) (fun _ _ => False) s
theorem GrI.up {T : List Tb} {W V : Addr → Prop} {G : Nat → Prop} {s s' : Shared} (x : GrI T W G s s') (t : TabOk T s.heap) (h : ∀ b, W b → V b) : GrI T V G s s' :=
  ⟨fun b o n m e => x.kp b o n (fun w => m (h b w)) e, x.tab, x.os, x.gk, x.gs, x.gb, fun b o _ e => x.exAll t e⟩
theorem grI_stepD {T : List Tb} {W V N0 : Addr → Prop} {G : Nat → Prop} {s s' s'' : Shared} (x : GrI T V G s s') (y : GrD T W G s' s'') (t : TabOk T s.heap) (hV : ∀ b, W b → V b) (hN : ∀ b, W b → N0 b ∨ s.heap.get? b = none)
    (hl : ∀ b o, N0 b → W b → s'.heap.get? b = some o → ∃ o', s''.heap.get? b = some o') : GrI T V G s s'' := by
  refine ⟨fun b o n m e => y.kp b o n (fun w => m (hV b w)) (x.kp b o n m e), y.tab, y.os.trans x.os, fun i hi h => (y.gk i (Nat.lt_of_lt_of_le hi x.gs) h).trans (x.gk i hi h), Nat.le_trans x.gs y.gs, fun b => y.gb (x.gb b), fun b o _ e => ?_⟩
  obtain ⟨o', e'⟩ := x.exAll t e
  by_cases q : TA T b
  · obtain ⟨ps, e2⟩ := y.tab.obj q; exact ⟨_, e2⟩
  · by_cases w : W b
    · rcases hN b w with h | h
      · exact hl b o' h w e'
      · rw [e] at h; cases h
    · exact ⟨o', y.kp b o' q w e'⟩
theorem GrD.up {T : List Tb} {W V : Addr → Prop} {G : Nat → Prop} {s s' : Shared} (x : GrD T W G s s') (h : ∀ b, W b → V b) : GrD T V G s s' :=
  ⟨fun b o n m e => x.kp b o n (fun w => m (h b w)) e, x.tab, x.os, x.gk, x.gs, x.gb⟩

structure TrkI (D : Dt) (env : Env) (own : Own) (W : Addr → Prop) (G : Nat → Prop) (s : Shared) (own' : Own) (s' : Shared) : Prop where
  g : GrI D.T (fun b => Mut env own b ∨ W b) G s s'
  o : ∀ i a, a ∈ own' i → (∃ j, a ∈ own j) ∨ s.heap.get? a = none
variable {env : Env} {own own' own'' : Own} {W : Addr → Prop} {G : Nat → Prop} {s s' s'' s0 : Shared} {ρ : Rho}
theorem TrkI.mut (x : TrkI D env own W G s own' s') {b : Addr} {o : Obj} (e : s.heap.get? b = some o) (m : Mut env own' b) : Mut env own b := by
  rcases m with rfl | h | ⟨i, h⟩
  · exact .inl rfl
  · exact .inr (.inl h)
  · rcases x.o i b h with h | h
    · exact .inr (.inr h)
    · rw [e] at h; cases h
theorem TrkI.step (x : TrkI D env own W G s own' s') (y : Trk D env own' s' own'' s'') (t : TabOk D.T s.heap) : TrkI D env own W G s own'' s'' := by
  refine ⟨x.g.trans (y.g.toI (G := No)) t (fun _ m => m) (fun b o e m => .inl (x.mut e m)) (fun _ h => h) (fun _ _ h => h.elim), fun i a m => ?_⟩
  rcases y.o i a m with ⟨j, h⟩ | h
  · exact x.o j a h
  · exact .inr (x.g.none t h)
theorem TrkI.stepI (x : TrkI D env own W G s own' s') (y : GrI D.T W G s' s'') (t : TabOk D.T s.heap) : TrkI D env own W G s own' s'' :=
  ⟨x.g.trans y t (fun _ m => m) (fun b o e m => .inr m) (fun _ h => h) (fun _ _ h => h), x.o⟩
theorem TrkI.fin (x : TrkI D env own W G s own' s') (g : Grow D.T s0 s) (t : TabOk D.T s0.heap) (hW : ∀ b, W b → s0.heap.get? b = none) (hG : ∀ i, G i → s0.gens.size ≤ i) : Trk D env own s0 own' s' := by
  refine ⟨((g.toI (G := G)).trans x.g t (fun _ f => f.elim) (V := Mut env own) (fun b o e m => m.elim id fun w => by rw [hW b w] at e; cases e) (fun _ h => h) (fun _ _ h => h)).toGr t (fun _ _ _ m => m) fun i hi h => by have := hG i h; grind, fun i a m => ?_⟩
  rcases x.o i a m with h | h
  · exact .inl h
  · exact .inr (g.none t h)
theorem TrkI.finD (x : TrkI D env own W G s own' s') (y : GrD D.T W G s' s'') (g : Grow D.T s0 s) (t : TabOk D.T s0.heap) (hW : ∀ b, W b → s0.heap.get? b = none) (hG : ∀ i, G i → s0.gens.size ≤ i) : Trk D env own s0 own' s'' := by
  have k := x.fin g t hW hG
  refine ⟨⟨fun b o n m e => y.kp b o n (fun w => by rw [hW b w] at e; cases e) (k.g.kp b o n m e), y.tab, y.os.trans k.g.os, fun i hi => (y.gk i (Nat.lt_of_lt_of_le hi k.g.gs) fun q => by have := hG i q; omega).trans (k.g.gk i hi), Nat.le_trans k.g.gs y.gs, fun b => y.gb (k.g.gb b), fun b o m e => ?_⟩, k.o⟩
  obtain ⟨o', e'⟩ := k.g.ex b o m e
  by_cases q : TA D.T b
  · obtain ⟨ps, e2⟩ := y.tab.obj q; exact ⟨_, e2⟩
  · exact ⟨o', y.kp b o' q (fun w => by rw [hW b w] at e; cases e) e'⟩
theorem StE.grD (S : StE D env vars own ρ s) (g : GrD D.T W G s s') (h0 : ∀ b, W b → D.h1.get? b = none) (hl : ¬ W env.locals) (hc : ∀ x c, env.cells.lookup x = some c → ¬ W c)
    (hL : ∀ b o, W b → s.heap.get? b = some o → LT o → False) : StE D env vars own ρ s' := S.kpt g.kp g.tab (fun b o w e => by rw [h0 b w] at e; cases e) hl hc hL
theorem StE.grI (S : StE D env vars own ρ s) (g : GrI D.T W G s s') (h0 : ∀ b, W b → D.h1.get? b = none) (hl : ¬ W env.locals) (hc : ∀ x c, env.cells.lookup x = some c → ¬ W c)
    (hL : ∀ b o, W b → s.heap.get? b = some o → LT o → False) : StE D env vars own ρ s' := S.kpt g.kp g.tab (fun b o w e => by rw [h0 b w] at e; cases e) hl hc hL

noncomputable def forF (u : PV → Rho → Option Rho) (b : Rho → Option Out) : List PV → Rho → Option Out
  | [], ρ => some (.next ρ)
  | x :: xs, ρ => (u x ρ).bind fun ρ' => (b ρ').bind fun o => match o with
    | .next ρ'' => forF u b xs ρ''
    | .ret y => some (.ret y)
noncomputable def forE (fi : Rho → Option (List PV)) (u : PV → Rho → Option Rho) (b : Rho → Option Out) : Rho → Option Out := fun ρ => (fi ρ).bind fun xs => forF u b xs ρ

theorem for_any {prog : Program} {w : World} {A : Around} {s : Shared} {R : Result → Shared → Prop} {target : Expr} {it : Value} {body : List Stmt} {env : Env} (I : Nat → Shared → Prop)
    (turn : ∀ n s, I n s → ∀ (P : Flow → Shared → Prop) (E : Value → Shared → Prop), (∀ m s3, m < n → I m s3 → P .next s3) → (∀ v s3, R (.ok (.ret v)) s3 → P (.ret v) s3) →
      wpAny (model prog w) A (pyNext it) (fun r s₁ => match r with
      | none => wpAny (model prog w) A (execs [] env) (fun f s₃ => R (.ok f) s₃) E s₁
      | some v => wpAny (model prog w) A (letOwnedTupleGo target it v) (fun _ s₁' => wpAny (model prog w) A (assign target env v) (fun _ s₂ => wpAny (model prog w) A (execs body env) P E s₂) E s₁') E s₁) E s)
    (n : Nat) (h : I n s) : codeAny (model prog w) A (.forLoop target it body [] env) R s :=
  codeAny_forLoop_any I (fun n s h => turn n s h _ _ (fun m s3 hm i => ⟨m, hm, i⟩) fun v s3 r => r) n h
/-- a loop's state between two turns -/
inductive ForI (D : Dt) (vars : List (Option Str)) (env : Env) (own : Own) (W0 W00 : Addr → Prop) (G : Nat → Prop) (s2 : Shared) (St : (Addr → Prop) → (Addr → Prop) → Nat → Shared → Prop) (u : PV → Rho → Option Rho) (fb : Rho → Option Out) (xs : List PV) (o : Out) (kk : Nat) (s' : Shared) : Prop where
  | mk (i : Nat) (own' : Own) (ρ' : Rho) (fp W : Addr → Prop) : kk = xs.length + 1 - i → i ≤ xs.length → StE D env vars own' ρ' s' → TrkI D env own W0 G s2 own' s' → St fp W i s' → forF u fb (xs.drop i) ρ' = some o → (∀ b, fp b → ¬ Mut env own' b) → (∀ b, W b → W00 b ∨ s2.heap.get? b = none) → ForI D vars env own W0 W00 G s2 St u fb xs o kk s'
theorem Mut.notLT (S : StE D env vars own ρ s) {b : Addr} {o : Obj} (hn : ∀ j, b ∉ own j) (e : s.heap.get? b = some o) (l : LT o) (m : Mut env own b) : False := by
  rcases m with rfl | ⟨y, hy, hy2⟩ | ⟨j, hj⟩
  · obtain ⟨m, ⟨o, _, _, e', hd, _⟩, _⟩ := S.vars
    rw [e] at e'; cases e'; exact l.notDict hd
  · obtain ⟨cc, v, e1, ⟨o, e2, e3⟩⟩ := S.ce y hy
    rw [hy2] at e1; cases e1; rw [e] at e2; cases e2; exact l.notCell e3
  · exact hn j hj
theorem for_walk {A : Around} {t : Expr} {body : List Stmt} {u : PV → Rho → Option Rho} {fb : Rho → Option Out} {o : Out} {xs : List PV} {it : Value} {s2 : Shared} {R : Result → Shared → Prop} (hR : ∀ fl s', OutOk D env vars own s o fl s' → R (.ok fl) s')
    (ht : TgtX D c vars t u) (hb : Sx D n c vars body fb) (hc : InC c env) (hA : OkA n A) (S : StE D env vars own ρ s) (hf : forF u fb xs ρ = some o) (h2 : WkAt D A own s xs it s2) : codeAny D.M A (.forLoop t it body [] env) R s2 := by
  obtain ⟨g, Q, fp0, W00, G, St, K, hst, hfp, hG, hQ⟩ := h2
  have t2 := g.tab
  have fp0ok : ∀ b, fp0 b → ¬ Mut env own b := fun b hb m => by
    rcases hfp b hb with q | ⟨q, oL, eL, lL⟩
    · obtain ⟨o, e⟩ := Mut.old S m; rw [q] at e; cases e
    · exact Mut.notLT S q eL lL m
  refine for_any (ForI D vars env own (fun b => s.heap.get? b = none) W00 G s2 St u fb xs o) ?_ (xs.length + 1)
    ⟨0, own, ρ, fp0, W00, rfl, Nat.zero_le _, S.grow g, ⟨(Gr.refl t2 : Grow D.T s2 s2).toI.trans (W' := No) (G' := No) ((Gr.refl t2 : Grow D.T s2 s2).toI) t2 (fun _ f => f.elim) (fun _ _ _ f => f.elim) (fun _ h => h) (fun _ _ h => h.elim), fun i a m => .inl ⟨i, m⟩⟩, hst, hf, fp0ok, fun b h => .inl h⟩
  intro kk s' h P E hP1 hP2
  obtain ⟨i, own', ρ', fp, W, hkk, hi', S', tk', hst', hf', hfm, hN⟩ := h
  have hWn : ∀ b, W b → s.heap.get? b = none := fun b w => K.v fp W i s' b hst' w
  have hl : ¬ W env.locals := fun w => by
    obtain ⟨m, ⟨o, _, _, e, _⟩, _⟩ := S.vars; rw [hWn _ w] at e; cases e
  have hL : ∀ b o, W b → s'.heap.get? b = some o → LT o → False := fun b o w e l => by
    obtain ⟨o', e', _, q⟩ := K.live fp W i s' b hst' (K.sub fp W i s' b hst' w)
    rw [e] at e'; cases e'; exact q w l
  have gD : ∀ {s3}, GrD D.T W G s' s3 → StE D env vars own' ρ' s3 := fun g3 => S'.grD g3 (fun b w => S.new0 (hWn b w)) hl (fun x cc e w => by
    obtain ⟨o, e2⟩ := S.ca x cc e
    rw [hWn _ w] at e2; cases e2) hL
  by_cases hlt : i < xs.length
  · rw [List.drop_eq_getElem_cons hlt] at hf'
    have hxi := List.getElem?_eq_getElem hlt
    generalize xs[i] = x at hf' hxi
    obtain ⟨ρ1, hu, hf'⟩ := Option.bind_eq_some_iff.mp hf'
    obtain ⟨o1, ho1, hf'⟩ := Option.bind_eq_some_iff.mp hf'
    refine wpAny_no (wpAny_mono (K.item fp W i s' x S'.b (fun b e => g.none S.tab (tk'.g.none t2 e)) hst' hxi) (fun r s3 hr => ?_) fun _ _ q => q)
    obtain ⟨v, fp', W', g3, hex, d3, hst3, hfp', hW'⟩ := hr
    have S3 := gD g3
    have tk3 : TrkI D env own (fun b => s.heap.get? b = none) G s2 own' s3 := ⟨grI_stepD tk'.g g3 t2 (fun b w => .inr (hWn b w)) hN hex, tk'.o⟩
    have hfm3 : ∀ b, fp' b → ¬ Mut env own' b := fun b hb m => by
      rcases hfp' b hb with h | h
      · exact hfm b h m
      · obtain ⟨o, e⟩ := Mut.old S' m; rw [h] at e; cases e
    have hqn : ∀ a, Q a → ∀ j, a ∉ own' j := fun a p j m => by
      obtain ⟨q1, o', q2⟩ := hQ a p
      rcases tk'.o j a m with ⟨j', h⟩ | h
      · exact q1 j' h
      · rw [q2] at h; cases h
    refine K.go fp' W' (i + 1) s3 t v _ _ hst3 (wpAny_no (wpAny_mono (ht env A own' ρ' ρ1 s3 x v hc (hA.mono (Nat.zero_le _)) S3 (d3.to fun a o p l e => p.elim (hqn a) fun p => S'.clean p) hu) (fun _ s4 h4 => ?_) fun _ _ q => q))
    obtain ⟨own4, S4, k4, _⟩ := h4
    refine wpAny_no (wpAny_mono (hb env A own4 ρ1 s4 o1 hc hA S4 ho1) (fun fl s5 h5 => ?_) fun _ _ q => q)
    have h5 := h5.trans k4 S3.tab
    cases o1 with
    | next ρ5 =>
      cases fl <;> first | exact h5.elim | skip
      obtain ⟨own5, S5, k5⟩ := h5
      refine hP1 (xs.length + 1 - (i + 1)) s5 (by rw [hkk]; exact Nat.sub_lt_sub_left (Nat.lt_succ_of_lt hlt) (Nat.lt_succ_self i)) ⟨i + 1, own5, ρ5, fp', W', rfl, hlt, S5, tk3.step k5 t2, ?_, hf', fun b hb m => ?_, fun b hb => (hW' b hb).elim (hN b) fun h => .inr (tk'.g.none t2 h)⟩
      · refine K.frame fp' W' (i + 1) s3 s5 hst3 (fun b ob hb e => ?_) (fun b ob hb l e => k5.g.kp b ob (S3.tab.ltne e l) (fun m => Mut.notLT S3 (hqn b hb) e l m) e) fun j hj => k5.g.gk j hj
        obtain ⟨o3, e3, nt, _⟩ := K.live fp' W' (i + 1) s3 b hst3 hb
        exact k5.g.kp b ob (S3.tab.ne e (Option.some.inj (e3.symm.trans e) ▸ nt)) (hfm3 b hb) e
      · obtain ⟨o3, e3, _⟩ := K.live fp' W' (i + 1) s3 b hst3 hb
        exact hfm3 b hb (k5.mut e3 m)
    | ret z =>
      cases hf'
      cases fl <;> first | exact h5.elim | skip
      exact hP2 _ _ (hR _ _ (OutOk.trans (o := .ret z) (fl := .ret _) (tk3.fin g S.tab (fun _ h => h) hG) S.tab h5))
  · obtain rfl : i = xs.length := Nat.le_antisymm hi' (Nat.le_of_not_lt hlt)
    refine wpAny_no (wpAny_mono (K.done fp W s' S'.b hst') (fun r s3 hr => ?_) fun _ _ q => q)
    obtain ⟨rfl, g3⟩ := hr
    rw [List.drop_length] at hf'
    cases hf'
    exact wpAny_execs_nil (hR _ _ ⟨own', gD g3, tk'.finD (g3.up hWn) g S.tab (fun _ h => h) hG⟩)
theorem s1_for {t iter : Expr} {body : List Stmt} {pos : Pos} {fi : Rho → Option (List PV)} {u : PV → Rho → Option Rho} {fb : Rho → Option Out} (hi : ItE D n c vars iter fi) (ht : TgtX D c vars t u) (hb : Sx D n c vars body fb)
    (hs : ∀ env x, foldedSetIterable iter env x = pure x := by intro _ _; rfl) : S1 D n c vars (.For t iter body [] pos) (forE fi u fb) := fun env A own ρ s o hc hA S hf => by
  obtain ⟨xs, hx, hf⟩ := Option.bind_eq_some_iff.mp hf
  exact wpAny_For (wpAny_mono (hi env A own ρ s xs hc hA S hx) (fun x s1 h1 => wpAny_mono h1 (fun it s2 h2 => for_walk (fun _ _ h => h) ht hb hc hA S hf h2) fun _ _ q => q) fun _ _ q => q) (hs env)
end
end Mine
end
section
namespace Mine

noncomputable def ownedNames : List String := ["enumerate", "zip", "dict_itemiterator", "dict_reverseitemiterator", "odict_iterator", "itertools.zip_longest", "itertools.pairwise"]
noncomputable def IterObj (o : Obj) : Prop := (∃ ty, o.cls = .type ty ∧ ownedNames.contains ty = false) ∧ ∃ vs, o.data = .fields vs ∧ vs.size ≤ 8 ∧ ∀ q t, vs[1]? ≠ some (.str q t)
theorem IterObj.nt {o : Obj} (x : IterObj o) : NT o := fun vs e => by
  obtain ⟨⟨ty, h1, _⟩, ws, h2, h3, h4⟩ := x
  rw [h2] at e; cases e
  exact ⟨h3, by rw [h1]; nofun, h4⟩
theorem IterObj.nl {o : Obj} (x : IterObj o) : ¬ LT o := fun l => by
  obtain ⟨_, ws, h2, _⟩ := x
  exact l.notFields h2
theorem wpAny_letOwned {M : Model} {A : Around} {E : Value → Shared → Prop} {s : Shared} {I : Addr} {o : Obj} {t : Expr} {v : Value} {R : Unit → Shared → Prop} (ho : s.heap.get? I = some o) (x : IterObj o) (h : R () s) : wpAny M A (letOwnedTupleGo t (.ref I) v) R E s := by
  obtain ⟨⟨ty, h1, h2⟩, ws, h3, _⟩ := x
  unfold letOwnedTupleGo
  have key : wpAny M A (do
      let o ← load I
      match o.cls, o.data with
        | Value.type n, Data.fields vs =>
          if (ownedNames.contains n && vs[0]? == some (rawInt ↑(match v with | .ref a => a | _ => 0))) = true then do
            rule "for.unpacks-the-owned-tuple"
            updateField I 0 Value.none
          else pure ()
        | x, x_1 => pure () : Sem Unit) R E s := by
    refine wpAny_bind (wpAny_load ho ?_)
    rw [h1, h3]
    show wpAny M A (if (ownedNames.contains ty && _) = true then _ else _) R E s
    rw [h2, Bool.false_and, if_neg (by decide)]
    exact wpAny_pure h
  split
  · split
    · rename_i e; cases e; exact key
    · exact wpAny_pure h
  · split
    · rename_i e; cases e; exact key
    · exact wpAny_pure h
  · exact wpAny_pure h

section
variable {D : Dt} {n : Nat} {c : Sct} {vars : List (Option Str)} {k : Kd}

theorem Wk.ofWalks {I : Addr} {N : Nat} {P : Nat → Value → Prop} {St : Nat → Heap → Prop} {fpl : List Addr} {xs : List PV} {Q : Addr → Prop} {Inv : Heap → Prop} (K : ∀ A : Around, A.handled = none → Walks D.prog D.w A I fpl [I] N P St) (hN : N = xs.length)
    (hI : ∀ i h, St i h → ∃ o, h.get? I = some o ∧ IterObj o) (hfp : ∀ i h b, b ∈ fpl → St i h → ∃ o, h.get? b = some o ∧ NT o)
    (hInv : ∀ h h', Inv h → (∀ b o, Q b → LT o → h.get? b = some o → h'.get? b = some o) → Inv h')
    (hP : ∀ i h v x, Inv h → P i v → xs[i]? = some x → Den Q h x v) : Wk D n (.ref I) Q xs (· ∈ fpl) (· = I) No (fun i s => St i s.heap ∧ Inv s.heap ∧ i ≤ N) where
  item := fun A i s x hA ok hst hx => by
    have hlt : i < N := by rw [hN]; exact (List.getElem?_eq_some_iff.mp hx).1
    refine (K A hA.1).item i s _ _ hlt hst.1 fun v h' tk hp hst' hk => ?_
    obtain ⟨o, e, io⟩ := hI i _ hst.1
    obtain ⟨o', e', io'⟩ := hI _ _ hst'
    have g : Gr D.T (· = I) s { s with heap := h', toks := tk } := .but ok.tab e e' io.nt rfl fun b o hb e => hk b o (by simpa using hb) e
    have kl : ∀ b o, Q b → LT o → s.heap.get? b = some o → h'.get? b = some o := fun b o _ l e2 => hk b o (by
      intro m; rw [List.mem_singleton.mp m, e] at e2; cases e2; exact io.nl l) e2
    have iv := hInv _ _ hst.2.1 kl
    exact ⟨v, rfl, g.toI, (hP i _ v x iv hp hx).to fun a o p _ _ => .inl p, hst', iv, hlt⟩
  done := fun A s hA ok hst => by
    refine (K A hA.1).done s _ _ (by rw [hN]; exact hst.1) fun h' tk hk => ?_
    obtain ⟨o, e, io⟩ := hI _ _ hst.1
    exact ⟨rfl, fun b o _ w e => hk b o (by simpa using w) e, ok.tab.but e io.nt fun b o hb e => hk b o (by simpa using hb) e, rfl, fun _ _ _ => rfl, Nat.le_refl _, id⟩
  frame := fun i s s' hst hk hq hg => ⟨(K ⟨none, 0, none, none, 1⟩ rfl).frame i _ _ hst.1 fun b hb o e => hk b o hb e, hInv _ _ hst.2.1 hq, hst.2.2⟩
  live := fun i s b hst hb => by
    obtain ⟨o, e, nt⟩ := hfp i _ b hb hst.1
    refine ⟨o, e, nt, fun w => ?_⟩
    obtain ⟨o', e', io⟩ := hI i _ hst.1
    rw [w, e'] at e; cases e; exact io.nl
  sub := fun b w => (K ⟨none, 0, none, none, 1⟩ rfl).sub b (by simp [show b = I from w])
  go := fun A i s t v R E hst h => by
    obtain ⟨o, e, io⟩ := hI i _ hst.1
    exact wpAny_letOwned e io h
  self := fun A i s R E hA hst h => (K A hA.1).self i s _ _ hst.1 h

theorem itE_list {e : Expr} {f : Rho → Option PV} (h : Ex D n c vars .cl e f) : ItE D n c vars e (fun ρ => (f ρ).bind fun x => match x with | .list xs => some xs | _ => none) := fun env A own ρ s xs hc hA S hf => by
  obtain ⟨y, hy, hf⟩ := Option.bind_eq_some_iff.mp hf
  split at hf
  · cases hf
    refine wpAny_mono (h env A own ρ s _ hc hA S hy) (fun v s1 ⟨g, d⟩ => ?_) fun _ _ q => q
    simp only [Den] at d
    obtain ⟨l, vs, rfl, hcl, il, dl⟩ := d
    have S1 := S.grow g
    have lne : ∀ o, s1.heap.get? l = some o → l ≠ s1.heap.objs.size := fun o e => Nat.ne_of_lt (Heap.lt_size e)
    obtain ⟨ol, eol, lol⟩ := LT.list il
    refine wpAny_pyIter_list il ?_
    let Q : Addr → Prop := fun b => Clean own b ∧ ∃ o, s1.heap.get? b = some o
    have g2 : Grow D.T s1 { s1 with heap := s1.heap.push { cls := .type "list_iterator", data := .fields #[.ref l, .int 0 0] } } := .of g.tab fun b o e => Heap.get?_push_of_some _ e
    refine WkAt.ofS hA ⟨g.then g2, Q, _, _, _, _, Wk.ofWalks (I := s1.heap.objs.size) (xs := xs) (Q := Q) (Inv := fun h' => DenL Q h' xs vs) (fun A' hA' => Walks.list hA' _ l (lne _ eol) vs.toArray) (by rw [List.size_toArray, dl.length]) (fun i h' st => ?_) (fun i h' b hb st => ?_) (fun h' h'' d k => d.imp fun a o p l e => ⟨k a o p l e, p⟩)
      (fun i h' v x d hp hx => ?_), ⟨⟨⟨_, Heap.get?_push_size _ rfl, rfl, rfl⟩, il.push _⟩, ?_, Nat.zero_le _⟩, fun b w => ?_, fun b hb => ?_, fun _ f => f.elim, fun b q => ⟨q.1, ?_⟩⟩
    · obtain ⟨⟨o, e1, e2, e3⟩, _⟩ := st
      exact ⟨o, e1, ⟨_, e2, by decide⟩, _, e3, by simp, fun q t => by exact not_eq_of_beq_eq_false rfl⟩
    · obtain ⟨⟨o, e1, e2, e3⟩, o2, f1, f2, nn, f3⟩ := st
      rcases List.mem_cons.mp hb with rfl | hb
      · exact ⟨o, e1, IterObj.nt ⟨⟨_, e2, by decide⟩, _, e3, by simp, fun q t => by exact not_eq_of_beq_eq_false rfl⟩⟩
      · rcases List.mem_singleton.mp hb with rfl
        exact ⟨o2, f1, .seq f3⟩
    · obtain ⟨v', hv', dv⟩ := d.get hx
      have : v' = v := by
        have hp : vs[i]? = some v := by simpa using hp
        rw [hp] at hv'; exact (Option.some.inj hv').symm
      rw [← this]; exact dv
    · exact dl.imp fun a o p l e => ⟨Heap.get?_push_of_some _ e, p, o, e⟩
    · rw [show b = s1.heap.objs.size from w]; exact g.none S.tab (fresh_at _)
    · rcases List.mem_cons.mp hb with rfl | hb
      · exact .inl (g.none S.tab (fresh_at _))
      · rcases List.mem_singleton.mp hb with rfl
        cases q : s.heap.get? b with
        | none => exact .inl rfl
        | some o =>
          refine .inr ⟨hcl, o, rfl, ?_⟩
          by_cases m : TA D.T b
          · exact absurd m (S1.tab.ltne eol lol)
          · have := g.kp b o m id q
            rw [eol] at this; cases this; exact lol
    · obtain ⟨o, e⟩ := q.2; exact ⟨o, Heap.get?_push_of_some _ e⟩
  · cases hf
theorem itE_rev {p pos : Pos} {e : Expr} {f : Rho → Option PV} (h : Ex D n c vars .cl e f) (hv : Gv D "reversed" (.type "reversed")) (hk : c.sc.names.lookup ("reversed" : Str) = some .globalImplicit) (hs : ∀ env, starEach [e] env = [(false, eval e env)] := by intro _; rfl) :
    ItE D n c vars (.Call (.Name "reversed" p) [e] [] pos) (fun ρ => (f ρ).bind fun x => match x with | .list xs => some xs.reverse | _ => none) := fun env A own ρ s xs hc hA S hf => by
  obtain ⟨y, hy, hf⟩ := Option.bind_eq_some_iff.mp hf
  split at hf
  · rename_i xs; cases hf
    refine wpAny_Call_NameR (glob_ok hc S hk hv ?_ (by rfl))
    rw [hs env]
    refine callWith_type rfl (Calls.evalArgs_plain (Calls.spliced_cons (wpAny_mono (h env A own ρ s _ hc hA S hy) (fun v s1 ⟨g, d⟩ => ?_) fun _ _ q => q)))
    refine Calls.spliced_nil ?_
    simp only [Den] at d
    obtain ⟨l, vs, rfl, hcl, il, dl⟩ := d
    have S1 := S.grow g
    have lne : ∀ o, s1.heap.get? l = some o → l ≠ s1.heap.objs.size := fun o e => Nat.ne_of_lt (Heap.lt_size e)
    obtain ⟨ol, eol, lol⟩ := LT.list il
    refine call_reversed_list il ?_
    let Q : Addr → Prop := fun b => Clean own b ∧ ∃ o, s1.heap.get? b = some o
    have g2 : Grow D.T s1 { s1 with heap := s1.heap.push (revObj l ((vs.toArray.size : Int) - 1)) } := .of g.tab fun b o e => Heap.get?_push_of_some _ e
    have hit : (s1.heap.push (revObj l ((vs.toArray.size : Int) - 1))).IsRevIter s1.heap.objs.size l ((vs.toArray.size : Int) - 1) := ⟨_, Heap.get?_push_size _ rfl, rfl, rfl⟩
    refine wpAny_pyIter_revIter hit ?_
    refine WkAt.ofS hA ⟨g.then g2, Q, _, _, _, _, Wk.ofWalks (I := s1.heap.objs.size) (xs := xs.reverse) (Q := Q) (Inv := fun h' => DenL Q h' xs vs) (fun A' hA' => Walks.listRev hA' _ l (lne _ eol) vs.toArray) (by rw [List.size_toArray, dl.length, List.length_reverse]) (fun i h' st => ?_) (fun i h' b hb st => ?_) (fun h' h'' d k => d.imp fun a o p l e => ⟨k a o p l e, p⟩)
      (fun i h' v x d hp hx => ?_), ⟨⟨Nat.zero_le _, by simpa using hit, il.push _⟩, ?_, Nat.zero_le _⟩, fun b w => ?_, fun b hb => ?_, fun _ f => f.elim, fun b q => ⟨q.1, ?_⟩⟩
    · obtain ⟨_, ⟨o, e1, e2, e3⟩, _⟩ := st
      exact ⟨o, e1, ⟨_, e2, by decide⟩, _, e3, by simp, fun q t => by exact not_eq_of_beq_eq_false rfl⟩
    · obtain ⟨_, ⟨o, e1, e2, e3⟩, o2, f1, f2, nn, f3⟩ := st
      rcases List.mem_cons.mp hb with rfl | hb
      · exact ⟨o, e1, IterObj.nt ⟨⟨_, e2, by decide⟩, _, e3, by simp, fun q t => by exact not_eq_of_beq_eq_false rfl⟩⟩
      · rcases List.mem_singleton.mp hb with rfl
        exact ⟨o2, f1, .seq f3⟩
    · obtain ⟨v', hv', dv⟩ := d.reverse.get hx
      have : v' = v := by
        have hi : i < xs.length := by have := (List.getElem?_eq_some_iff.mp hx).1; simpa using this
        have hp : vs[vs.length - 1 - i]? = some v := by simpa using hp
        rw [List.getElem?_reverse (by rw [dl.length]; exact hi)] at hv'
        rw [hp] at hv'; exact (Option.some.inj hv').symm
      rw [← this]; exact dv
    · exact dl.imp fun a o p l e => ⟨Heap.get?_push_of_some _ e, p, o, e⟩
    · rw [show b = s1.heap.objs.size from w]; exact g.none S.tab (fresh_at _)
    · rcases List.mem_cons.mp hb with rfl | hb
      · exact .inl (g.none S.tab (fresh_at _))
      · rcases List.mem_singleton.mp hb with rfl
        cases q : s.heap.get? b with
        | none => exact .inl rfl
        | some o =>
          refine .inr ⟨hcl, o, rfl, ?_⟩
          by_cases m : TA D.T b
          · exact absurd m (S1.tab.ltne eol lol)
          · have := g.kp b o m id q
            rw [eol] at this; cases this; exact lol
    · obtain ⟨o, e⟩ := q.2; exact ⟨o, Heap.get?_push_of_some _ e⟩
  · cases hf

/-- a text, sign by sign -/
noncomputable def signsOf (x : Str) : List PV := x.cps.toList.map fun c => .str ⟨#[c]⟩
theorem itE_str {e : Expr} {f : Rho → Option PV} (h : Ex D n c vars .raw e f) : ItE D n c vars e (fun ρ => (f ρ).bind fun x => match x with | .str x => some (signsOf x) | _ => none) := fun env A own ρ s xs hc hA S hf => by
  obtain ⟨y, hy, hf⟩ := Option.bind_eq_some_iff.mp hf
  split at hf
  · rename_i x; cases hf
    refine wpAny_mono (h env A own ρ s _ hc hA S hy) (fun v s1 ⟨g, d⟩ => ?_) fun _ _ q => q
    simp only [Den] at d
    obtain ⟨t, rfl⟩ := d
    have key : ∀ (ty : String), ownedNames.contains ty = false → (∀ A' : Around, A'.handled = none → Walks D.prog D.w A' s1.heap.objs.size [s1.heap.objs.size] [s1.heap.objs.size] x.cps.size (SignAt x) (fun i h => h.IsStrIter s1.heap.objs.size ty x t i)) →
        Grow D.T s { s1 with heap := s1.heap.push { cls := .type ty, data := .fields #[.str x t, .int 0 0] } } ∧ ∃ Q fp W G St, Wk D n (.ref s1.heap.objs.size) Q (signsOf x) fp W G St ∧ St 0 { s1 with heap := s1.heap.push { cls := .type ty, data := .fields #[.str x t, .int 0 0] } } ∧ (∀ b, W b → s.heap.get? b = none) ∧ (∀ b, fp b → s.heap.get? b = none ∨ (Clean own b ∧ ∃ o, s.heap.get? b = some o ∧ LT o)) ∧
        (∀ g, G g → s.gens.size ≤ g) ∧ (∀ b, Q b → Clean own b ∧ ∃ o, (s1.heap.push { cls := .type ty, data := .fields #[.str x t, .int 0 0] }).get? b = some o) := by
      intro ty hty K
      refine ⟨g.then (.of g.tab fun b o e => Heap.get?_push_of_some _ e), No, _, _, _, _, Wk.ofWalks (I := s1.heap.objs.size) (xs := signsOf x) (Q := No) (Inv := fun _ => True) K (by simp [signsOf]) (fun i h' st => ?_) (fun i h' b hb st => ?_) (fun _ _ _ _ => trivial)
        (fun i h' v y _ hp hx => ?_), ⟨⟨_, Heap.get?_push_size _ rfl, rfl, rfl⟩, trivial, Nat.zero_le _⟩, fun b w => ?_, fun b hb => ?_, fun _ f => f.elim, fun b q => q.elim⟩
      · obtain ⟨o, e1, e2, e3⟩ := st
        exact ⟨o, e1, ⟨_, e2, hty⟩, _, e3, by simp, fun q t => by exact not_eq_of_beq_eq_false rfl⟩
      · obtain ⟨o, e1, e2, e3⟩ := st
        rcases List.mem_singleton.mp hb with rfl
        exact ⟨o, e1, IterObj.nt ⟨⟨_, e2, hty⟩, _, e3, by simp, fun q t => by exact not_eq_of_beq_eq_false rfl⟩⟩
      · obtain ⟨cc, u, h1, rfl⟩ := hp
        have : y = .str ⟨#[cc]⟩ := by
          simp only [signsOf, List.getElem?_map, Option.map_eq_some_iff] at hx
          obtain ⟨c2, h2, rfl⟩ := hx
          rw [Array.getElem?_toList, h1] at h2; cases h2; rfl
        rw [this]; exact den_str
      · rw [show b = s1.heap.objs.size from w]; exact g.none S.tab (fresh_at _)
      · rcases List.mem_singleton.mp hb with rfl
        exact .inl (g.none S.tab (fresh_at _))
    cases ha : x.cps.all (· < 128)
    · exact wpAny_pyIter_wide ha (WkAt.ofS hA <| key _ (by decide) fun A' hA' => Walks.strWide hA' _ x t)
    · exact wpAny_pyIter_ascii ha (WkAt.ofS hA <| key _ (by decide) fun A' hA' => Walks.strAscii hA' _ x t)
  · cases hf

noncomputable def rangeV : List PV → Option (Int × Int × Int)
  | [.int b] => some (0, b, 1)
  | [.int a, .int b] => some (a, b, 1)
  | [.int a, .int b, .int cc] => if cc ≠ 0 ∧ Builtin.divisionGoesByPylong (b - a) cc = false then some (a, b, cc) else none
  | _ => none
noncomputable def rangeF (fs : List (Rho → Option PV)) : Rho → Option (List PV) := fun ρ => (argsF fs ρ).bind fun xs => (rangeV xs).bind fun (a, b, cc) => if Builtin.Range.small a b cc = true ∧ 0 ≤ Builtin.Range.rangeSize a b cc ∧ Builtin.Range.rangeSize a b cc ≤ 1000000 then some ((rangeL a b cc).map .int) else none
theorem itE_range {p pos : Pos} {es : List Expr} {fs : List (Rho → Option PV)} (ha : ArgsX D n c vars es fs) (hv : Gv D "range" (.type "range")) (hk : c.sc.names.lookup ("range" : Str) = some .globalImplicit) :
    ItE D n c vars (.Call (.Name "range" p) es [] pos) (rangeF fs) := fun env A own ρ s zs hc hA S hf => by
  obtain ⟨xs, hx, hf⟩ := Option.bind_eq_some_iff.mp hf
  obtain ⟨⟨a, b, cc⟩, hr, hf⟩ := Option.bind_eq_some_iff.mp hf
  simp only at hf
  obtain ⟨hq, rfl⟩ := ite_some hf
  obtain ⟨q1, q2, q3⟩ := hq
  refine wpAny_Call_NameR (glob_ok hc S hk hv (callee_ok (.inr (.inl ⟨_, rfl⟩)) ha hc hA S hx fun vs s1 g d => ?_) (by rfl))
  obtain ⟨N, hN⟩ := Int.eq_ofNat_of_zero_le q2
  have key : ∀ (s2 : Shared) (r : Addr) (t u v : Tok), Grow D.T s s2 → IsRange s2.heap r a b cc t u v →
      wpAny D.M A (pyIter (.ref r)) (WkAt D A own s ((rangeL a b cc).map .int)) (fun _ _ => False) s2 := by
    intro s2 r t u v g2 ir
    refine wpAny_pyIter_range ir q1 ?_
    refine WkAt.ofS hA ⟨g2.then (.of g2.tab fun b o e => Heap.get?_push_of_some _ e), No, _, _, _, _, Wk.ofWalks (I := s2.heap.objs.size) (xs := (rangeL a b cc).map .int) (Q := No) (Inv := fun _ => True) (fun A' hA' => Walks.range hA' _ a cc N) (by simp [rangeL, hN]) (fun i h' st => ?_) (fun i h' b hb st => ?_) (fun _ _ _ _ => trivial)
      (fun i h' v y _ hp hx => ?_), ⟨?_, trivial, Nat.zero_le _⟩, fun b w => ?_, fun b hb => ?_, fun _ f => f.elim, fun b q => q.elim⟩
    · exact ⟨_, st, ⟨_, rfl, by decide⟩, _, rfl, by simp, fun q t => by exact not_eq_of_beq_eq_false rfl⟩
    · rcases List.mem_singleton.mp hb with rfl
      exact ⟨_, st, IterObj.nt ⟨⟨_, rfl, by decide⟩, _, rfl, by simp, fun q t => by exact not_eq_of_beq_eq_false rfl⟩⟩
    · obtain ⟨u, rfl⟩ := hp
      have : y = .int (a + i * cc) := by
        simp only [rangeL, hN, List.map_map, List.getElem?_map, Option.map_eq_some_iff] at hx
        obtain ⟨c2, h2, rfl⟩ := hx
        have := (List.getElem?_eq_some_iff.mp h2)
        obtain ⟨h3, h4⟩ := this
        simp at h4; subst h4; rfl
      rw [this]; exact den_int
    · have := Heap.get?_push_size s2.heap (o := { cls := .type "range_iterator", data := .fields #[rawInt a, rawInt (Builtin.Range.rangeSize a b cc), rawInt cc] }) rfl
      simpa [IsRangeIter, hN] using this
    · rw [show b = s2.heap.objs.size from w]; exact g2.none S.tab (fresh_at _)
    · rcases List.mem_singleton.mp hb with rfl
      exact .inl (g2.none S.tab (fresh_at _))
  unfold rangeV at hr
  split at hr
  · cases hr
    simp only [DenL, Den] at d
    obtain ⟨v, r, rfl, ⟨t, rfl⟩, rfl⟩ := d
    exact call_range_1 (key _ _ _ _ _ (g.then (.of g.tab fun b o e => Heap.get?_push_of_some _ e)) (IsRange.new ..))
  · cases hr
    simp only [DenL, Den] at d
    obtain ⟨v, r, rfl, ⟨t, rfl⟩, v2, r2, rfl, ⟨u, rfl⟩, rfl⟩ := d
    exact call_range_2 (key _ _ _ _ _ (g.then (.of g.tab fun b o e => Heap.get?_push_of_some _ e)) (IsRange.new ..))
  · obtain ⟨hq, hr⟩ := ite_some hr
    cases hr
    simp only [DenL, Den] at d
    obtain ⟨v, r, rfl, ⟨t, rfl⟩, v2, r2, rfl, ⟨u, rfl⟩, v3, r3, rfl, ⟨w, rfl⟩, rfl⟩ := d
    exact call_range_3 hq.1 (key _ _ _ _ _ (g.then (.of g.tab fun b o e => Heap.get?_push_of_some _ e)) (IsRange.new ..)) (.inl hq.2)
  · cases hr
end
end Mine
end
section
namespace Mine

section
variable {D : Dt} {env : Env} {vars : List (Option Str)} {own : Own} {ρ : Rho} {s : Shared}
/-- an owned list that no name holds is changed -/
theorem StE.mutate0 {i : Nat} {a : Addr} {h' : Heap} {tk : Nat} (S : StE D env vars own ρ s) (hni : ∀ x, vars[i]? ≠ some (some x)) (ha : a ∈ own i) (hs : Heap.SameBut a s.heap h')
    (hl : ∃ o, h'.get? a = some o ∧ LT o) : StE D env vars own ρ { s with heap := h', toks := tk } ∧ Trk D env own s own { s with heap := h', toks := tk } := by
  obtain ⟨oa, ea, la⟩ := S.oe i a ha
  obtain ⟨o', ea', la'⟩ := hl
  have kb : ∀ b o, b ≠ a → s.heap.get? b = some o → h'.get? b = some o := fun b o hb e => hs.extBut b o hb e
  have gb : Gr D.T (Mut env own) s { s with heap := h', toks := tk } := Gr.but S.tab ea ea' la.nt (.inr (.inr ⟨i, ha⟩)) kb
  refine ⟨⟨S.ok, fun b o n e => kb b o (by rintro rfl; rw [S.mn _ (.inr (.inr ⟨i, ha⟩))] at e; cases e) (S.base b o n e), gb.tab, S.eo, S.gn, S.vd, S.mn, fun j b m => ?_, S.od, S.on, S.ob, fun y hy => ?_, fun y c hy => (S.ca y c hy).elim fun o e => gb.exAll S.tab e, S.cd, ?_⟩, gb, fun j b m => .inl ⟨j, m⟩⟩
  · by_cases q : b = a
    · exact ⟨o', q ▸ ea', la'⟩
    · obtain ⟨o, e, l⟩ := S.oe j b m; exact ⟨o, kb b o q e, l⟩
  · obtain ⟨c, v, e1, o, e2, e3⟩ := S.ce y hy
    exact ⟨c, v, e1, o, kb c o (by rintro rfl; rw [ea] at e2; cases e2; exact la.notCell e3) e2, e3⟩
  · obtain ⟨m, n, k⟩ := S.vars
    have n' : h'.Ns env.locals m := by
      obtain ⟨o, es, ep, e, hd, r⟩ := n
      exact ⟨o, es, ep, kb _ _ (by rintro rfl; rw [ea] at e; cases e; exact la.notDict hd) e, hd, r⟩
    refine ⟨m, n', fun j y sj hj hrj => ?_⟩
    have vk : ∀ w, VarAt env m s.heap y w → VarAt env m h' y w := fun w q => q.imp (fun _ => rfl) fun c _ _ ⟨o, e2, e3⟩ => ⟨o, kb c o (by rintro rfl; rw [ea] at e2; cases e2; exact la.notCell e3) e2, e3⟩
    obtain ⟨w, w1, w2⟩ := k j y sj hj hrj
    have q : j ≠ i := by rintro rfl; exact hni y hj
    exact ⟨w, vk w w1, w2.imp (fun b o p l e => ⟨kb b o (by rintro rfl; exact p i ha) e, p⟩) fun b hb o l e => kb b o (by rintro rfl; exact q (S.od j i b hb ha)) e⟩
end

section
variable {D : Dt} {n : Nat} {c : Sct} {vars : List (Option Str)} {k : Kd}

/-- a comprehension's tests -/
noncomputable def IfX (D : Dt) (n : Nat) (c : Sct) (vars : List (Option Str)) (ifs : List Expr) (f : Rho → Option Bool) : Prop :=
  ∀ (env : Env) (A : Around) (own : Own) (ρ : Rho) (s : Shared) (x : Bool), InC c env → OkA n A → StE D env vars own ρ s → f ρ = some x →
    wpAny D.M A (forIn ifs true fun c r => if r = true then do let ok ← isTrue c env (eval c env); pure (ForInStep.yield ok) else pure (ForInStep.yield r)) (fun v s' => Grow D.T s s' ∧ v = x) (fun _ _ => False) s
noncomputable def yesF : Rho → Option Bool := fun _ => some true
theorem if_none : IfX D n c vars [] yesF := fun env A own ρ s x hc hA S hf => by cases hf; exact wpAny_tests_nil ⟨.refl S.tab, rfl⟩
theorem if_one {t : Expr} {f : Rho → Option Bool} (h : Tx D n c vars t f) : IfX D n c vars [t] f := fun env A own ρ s x hc hA S hf => wpAny_tests_one (h env A own ρ s x hc hA S hf)

noncomputable def isL (sc : Scope) (x : Str) : Bool := sc.names.lookup x == some .local
theorem isL_kind {env : Env} {x : Str} (hc : InC c env) (h : isL c.sc x = true) : env.kindOf x = some .local := by
  unfold Env.kindOf; rw [hc.1]; simpa [isL] using h
/-- a place that no local name has -/
noncomputable def NoL (c : Sct) (vars : List (Option Str)) (j : Nat) : Prop := ∀ x, vars[j]? = some (some x) → isL c.sc x = false
structure KeptC (c : Sct) (vars : List (Option Str)) (own : Own) (s : Shared) (own' : Own) (s' : Shared) : Prop where
  o : ∀ j, NoL c vars j → own' j = own j
  sub : ∀ j a, a ∈ own' j → a ∈ own j
  l : ∀ b o, LT o → s.heap.get? b = some o → s'.heap.get? b = some o
theorem KeptC.refl {own : Own} {s : Shared} : KeptC c vars own s own s := ⟨fun _ _ => rfl, fun _ _ m => m, fun _ _ _ e => e⟩
theorem KeptC.trans {own own' own'' : Own} {s s' s'' : Shared} (x : KeptC c vars own s own' s') (y : KeptC c vars own' s' own'' s'') : KeptC c vars own s own'' s'' :=
  ⟨fun j h => (y.o j h).trans (x.o j h), fun j a m => x.sub j a (y.sub j a m), fun b o l e => y.l b o l (x.l b o l e)⟩
theorem KeptC.set {own : Own} {s s' : Shared} {i : Nat} {x : Str} (hx : vars[i]? = some (some x)) (hk : isL c.sc x = true) (h : ∀ b o, LT o → s.heap.get? b = some o → s'.heap.get? b = some o) : KeptC c vars own s (setO own i []) s' :=
  ⟨fun j hj => setO_ne (by rintro rfl; rw [hj x hx] at hk; cases hk), fun j a m => by unfold setO at m; split at m; cases m; exact m, h⟩
theorem KeptC.grow {T : List Tb} {own : Own} {s s' : Shared} (g : Grow T s s') (t : TabOk T s.heap) : KeptC c vars own s own s' := ⟨fun _ _ => rfl, fun _ _ m => m, fun b o l e => g.kp b o (t.ltne e l) id e⟩
/-- a comprehension's target: it changes the frame's own names alone -/
noncomputable def TgtC (D : Dt) (c : Sct) (vars : List (Option Str)) (t : Expr) (u : PV → Rho → Option Rho) : Prop :=
  ∀ (env : Env) (A : Around) (own : Own) (ρ ρ' : Rho) (s : Shared) (x : PV) (v : Value), InC c env → OkA 0 A → StE D env vars own ρ s → Den (Clean own) s.heap x v → u x ρ = some ρ' →
    wpAny D.M A (assign t env v) (fun _ s' => ∃ own', StE D env vars own' ρ' s' ∧ Gr D.T (fun b => b = env.locals) s s' ∧ KeptC c vars own s own' s') (fun _ _ => False) s
theorem tc_name {x : Str} {px : Pos} (i : Nat) (hx : vars[i]? = some (some x)) (hk : isL c.sc x = true) : TgtC D c vars (.Name x px) (nameU i) := fun env A own ρ ρ' s y v hc hA S d hu => by
  cases hu
  exact wpAny_assign_Name (S.storeL (L := []) (sl := .fz y) (.refl S.tab) hx (.inl (isL_kind hc hk)) (fun _ m => nomatch m) .nil (den_setO d) fun s2 S2 k2 klt gl => ⟨_, S2, gl (isL_kind hc hk), KeptC.set hx hk klt⟩)
inductive TcN (c : Sct) (vars : List (Option Str)) : List Expr → List Nat → Prop where
  | nil : TcN c vars [] []
  | cons {x : Str} {p : Pos} {ts : List Expr} {i : Nat} {is : List Nat} : vars[i]? = some (some x) → isL c.sc x = true → TcN c vars ts is → TcN c vars (.Name x p :: ts) (i :: is)
theorem TcN.len {ts : List Expr} {is : List Nat} (h : TcN c vars ts is) (env : Env) : (assignEach ts env).findIdx? (·.1) = none ∧ (assignEach ts env).length = is.length := by
  induction h with
  | nil => exact ⟨rfl, rfl⟩
  | @cons x p ts i is hx hk _ ih =>
    refine ⟨?_, ?_⟩
    · show ((false, assign (.Name x p) env) :: assignEach ts env).findIdx? (·.1) = none
      rw [List.findIdx?_cons, ih.1]; rfl
    · show ((false, assign (.Name x p) env) :: assignEach ts env).length = _
      simp [ih.2]
theorem tcN_ok {ts : List Expr} {is : List Nat} (h : TcN c vars ts is) : ∀ {env : Env} {A : Around} {own : Own} {ρ ρ' : Rho} {s : Shared} {xs : List PV} {vs : List Value} {Q : Unit → Shared → Prop} {E : Value → Shared → Prop}, InC c env → StE D env vars own ρ s → DenL (Clean own) s.heap xs vs → updL is xs ρ = some ρ' →
    (∀ own' s', StE D env vars own' ρ' s' → Gr D.T (fun b => b = env.locals) s s' → KeptC c vars own s own' s' → Q () s') → wpAny D.M A (assignInOrder ((assignEach ts env).map (·.2)) vs) Q E s := by
  induction h with
  | nil =>
    intro env A own ρ ρ' s xs vs Q E hc S d hu hQ
    cases xs with
    | nil => cases hu; simp only [DenL] at d; subst d; exact wpAny_pure (hQ own s S (.refl S.tab) .refl)
    | cons x xs => cases hu
  | @cons x p ts i is hx hk _ ih =>
    intro env A own ρ ρ' s xs vs Q E hc S d hu hQ
    cases xs with
    | nil => cases hu
    | cons y ys =>
      simp only [DenL] at d
      obtain ⟨v, r, rfl, d1, d2⟩ := d
      show wpAny _ _ (do holding r (assign (.Name x p) env v); assignInOrder ((assignEach ts env).map (·.2)) r) _ _ _
      refine wpAny_bind (wpAny_holding (wpAny_assign_Name (S.storeL (L := []) (sl := .fz y) (.refl S.tab) hx (.inl (isL_kind hc hk)) (fun _ m => nomatch m) .nil (den_setO d1) fun s2 S2 k2 klt gl => ?_)))
      refine ih hc S2 (d2.imp fun a o p l e => ⟨klt a o l e, fun j m => ?_⟩) hu fun own' s' S' g' kk => hQ own' s' S' ((gl (isL_kind hc hk)).trans g' S.tab (fun _ h => h) fun _ _ _ h => h) ((KeptC.set hx hk klt).trans kk)
      unfold setO at m; split at m
      · cases m
      · exact p j m
theorem tc_tup {ts : List Expr} {is : List Nat} {m : Nat} {pos : Pos} (h : TcN c vars ts is) : TgtC D c vars (.Tuple ts m pos) (tupU is) := fun env A own ρ ρ' s y v hc hA S d hu => by
  unfold tupU at hu
  split at hu
  · rename_i xs
    simp only [Den] at d
    obtain ⟨a, vs, rfl, _, l, dl⟩ := d
    obtain ⟨h2, h3⟩ := h.len env
    refine wpAny_assign_Tuple hA.1 l (by rw [h3, List.size_toArray, dl.length, updL_len hu]) h2 fun h' he => ?_
    have g : Grow D.T s { s with heap := h' } := .of S.tab fun b o e => he b o (fun q => by rw [q, fresh_at] at e; cases e) e
    have S1 := S.grow g
    exact tcN_ok h hc S1 (dl.grow g S.tab) hu fun own' s' S' g' kk => ⟨own', S', g.trans g' S.tab (fun _ f => f.elim) (fun _ _ _ h => h), (KeptC.grow g S.tab).trans kk⟩
  · cases hu

noncomputable abbrev Cst := Rho × List PV
/-- a comprehension's walk: what each turn makes of the state -/
noncomputable def compG (u : PV → Rho → Option Rho) (t : Rho → Option Bool) (F : Rho → List PV → Option Cst) : List PV → Cst → Option Cst
  | [], st => some st
  | x :: xs, st => (u x st.1).bind fun ρ' => (t ρ').bind fun b => if b then (F ρ' st.2).bind fun st' => compG u t F xs st' else compG u t F xs (ρ', st.2)
/-- one more item -/
noncomputable def emF (f : Rho → Option PV) : Rho → List PV → Option Cst := fun ρ ys => (f ρ).bind fun y => if ys.length ≤ 1000000 then some (ρ, ys ++ [y]) else none
noncomputable def emN (f : Rho → Option (List PV)) : Rho → List PV → Option Cst := fun ρ ys => (f ρ).bind fun y => if ys.length ≤ 1000000 then some (ρ, ys ++ [.list y]) else none
noncomputable def compF (u : PV → Rho → Option Rho) (t : Rho → Option Bool) (f : Rho → Option PV) : List PV → Cst → Option Cst := compG u t (emF f)

/-- the list that a comprehension fills -/
noncomputable def Acc (R : Addr → Prop) (N : List Value → Prop) (own : Own) (h : Heap) (K : Nat) (ys : List PV) (a : Addr) : Prop := a ∈ own K ∧ ∃ vs, h.PlainList a vs.toArray ∧ DenL (fun b => Clean own b ∧ R b) h ys vs ∧ N vs
theorem Acc.imp {R : Addr → Prop} {N : List Value → Prop} {own own' : Own} {h h' : Heap} {K : Nat} {ys : List PV} {a : Addr} (x : Acc R N own h K ys a) (ho : own' K = own K) (hs : ∀ j b, b ∈ own' j → b ∈ own j) (hl : ∀ b o, LT o → h.get? b = some o → h'.get? b = some o) : Acc R N own' h' K ys a := by
  obtain ⟨e, vs, ⟨nn, l⟩, d, n⟩ := x
  exact ⟨ho ▸ e, vs, ⟨nn, hl _ _ ⟨.inl rfl, _, _, rfl⟩ l⟩, d.imp fun b o p l e => ⟨hl b o l e, fun j m => p.1 j (hs j b m), p.2⟩, n⟩

variable {cenv : Env} {A : Around} {own : Own} {ρ : Rho} {s : Shared} {R : Addr → Prop} {N : List Value → Prop}
/-- what must hold of a walk that a frame makes -/
structure WkIn (D : Dt) (env : Env) (own : Own) (a : Addr) (Q fp W V N0 : Addr → Prop) (s : Shared) : Prop where
  w1 : ∀ b, V b → D.h1.get? b = none
  wc : ∀ x c, env.cells.lookup x = some c → ¬ V c
  fm : ∀ b, fp b → b ≠ env.locals ∧ b ≠ a
  q : ∀ b, Q b → Clean own b ∧ ∃ o, s.heap.get? b = some o
  n0 : ∀ b, W b → N0 b
  vn : ∀ b, s.heap.get? b = none → V b
theorem fm_next {a : Addr} {K : Nat} {fp fp' : Addr → Prop} (j : ∀ b, fp b → b ≠ cenv.locals ∧ b ≠ a) (S : StE D cenv vars own ρ s) (ha : a ∈ own K) (h1 : ∀ b, fp' b → fp b ∨ s.heap.get? b = none) : ∀ b, fp' b → b ≠ cenv.locals ∧ b ≠ a := by
  have hloc : ∃ o, s.heap.get? cenv.locals = some o := by obtain ⟨m, ⟨o, _, _, e, _⟩, _⟩ := S.vars; exact ⟨o, e⟩
  refine fun b hb => ⟨?_, ?_⟩
  · rintro rfl
    rcases h1 _ hb with h | h
    · exact (j _ h).1 rfl
    · obtain ⟨o, e⟩ := hloc; rw [h] at e; cases e
  · rintro rfl
    rcases h1 _ hb with h | h
    · exact (j _ h).2 rfl
    · obtain ⟨o, e, _⟩ := S.oe K _ ha; rw [h] at e; cases e

/-- what a turn does with the list -/
noncomputable def Em (D : Dt) (n : Nat) (c : Sct) (vars : List (Option Str)) (h0 : Heap) (R : Addr → Prop) (N : List Value → Prop) (em : Env → Value → Sem Unit) (F : Rho → List PV → Option Cst) : Prop :=
  ∀ (cenv : Env) (A : Around) (own : Own) (ρ : Rho) (s : Shared) (a : Addr) (K : Nat) (ys : List PV) (st' : Cst), InC c cenv → OkA n A → StE D cenv vars own ρ s → (∀ b, s.heap.get? b = none → h0.get? b = none) → Acc R N own s.heap K ys a → (∀ x, vars[K]? ≠ some (some x)) → F ρ ys = some st' →
    wpAny D.M A (em cenv (.ref a)) (fun _ s' => ∃ own', StE D cenv vars own' st'.1 s' ∧ Acc R N own' s'.heap K st'.2 a ∧ Gr D.T (fun b => b = cenv.locals ∨ b = a) s s' ∧ (∀ j, NoL c vars j → own' j = own j) ∧ (∀ j b, b ∈ own' j → b ∈ own j)) (fun _ _ => False) s

theorem comp_loop {c : Code} {T : Sem Fin} {cenv : Env} {R : Result → Shared → Prop} (hq : c.quiet = true ∧ A.under c = A ∧ (model D.prog D.w).den c = T.onRaise (fun x => do noteFrame x cenv; theTreesLotGoes x)) (I : Nat → Shared → Prop)
    (turn : ∀ n s, I n s → ∀ P : Fin → Shared → Prop, (∀ m s', m < n → I m s' → P (.again c) s') → (∀ s', R (.ok .next) s' → P (.done .next) s') → wpAny D.M A T P (fun _ _ => False) s) (n : Nat) (h : I n s) : codeAny D.M A c R s :=
  codeAny_loop hq.1 I (fun n s hi => by
    rw [hq.2.1]
    show wpAny _ _ ((model D.prog D.w).den _) _ _ _
    rw [hq.2.2]
    exact wpAny_noted (wpAny_no (turn n s hi _ (fun m s' h i => ⟨rfl, m, h, i⟩) fun s' r => r))) n h
/-- a comprehension's state between two turns -/
inductive CompI (D : Dt) (c : Sct) (vars : List (Option Str)) (cenv : Env) (own : Own) (R : Addr → Prop) (N : List Value → Prop) (a : Addr) (K : Nat) (N0 V : Addr → Prop) (G : Nat → Prop) (s : Shared) (St : (Addr → Prop) → (Addr → Prop) → Nat → Shared → Prop) (F : List PV → Cst → Option Cst) (xs : List PV) (st' : Cst) (kk : Nat) (s' : Shared) : Prop where
  | mk (i : Nat) (own' : Own) (ρ' : Rho) (ys' : List PV) (fp W : Addr → Prop) : kk = xs.length + 1 - i → i ≤ xs.length → StE D cenv vars own' ρ' s' → Acc R N own' s'.heap K ys' a → GrI D.T (fun b => b = cenv.locals ∨ b = a ∨ V b) G s s' → St fp W i s' → F (xs.drop i) (ρ', ys') = some st' →
      (∀ j, NoL c vars j → own' j = own j) → (∀ j b, b ∈ own' j → b ∈ own j) → (∀ b, fp b → b ≠ cenv.locals ∧ b ≠ a) → (∀ b, W b → N0 b ∨ s.heap.get? b = none) → CompI D c vars cenv own R N a K N0 V G s St F xs st' kk s'
theorem comp_gen {e target : Expr} {ifs : List Expr} {d : Nat} {p : Pos} {it : Value} {a : Addr} {K : Nat} {ys : List PV} {xs : List PV} {Q fp0 W00 V N0 : Addr → Prop} {G : Nat → Prop} {St : (Addr → Prop) → (Addr → Prop) → Nat → Shared → Prop} {u : PV → Rho → Option Rho} {ft : Rho → Option Bool} {F : Rho → List PV → Option Cst} {st' : Cst} {em : Env → Value → Sem Unit} {h0 : Heap} {R' : Result → Shared → Prop}
    (hc : InC c cenv) (hA : OkA n A) (S : StE D cenv vars own ρ s) (hh0 : ∀ b, s.heap.get? b = none → h0.get? b = none) (hacc : Acc R N own s.heap K ys a) (hK : ∀ x, vars[K]? ≠ some (some x)) (wk : Wd D A it Q xs V N0 G St) (hst : St fp0 W00 0 s) (wi : WkIn D cenv own a Q fp0 W00 V N0 s)
    (ht : TgtC D c vars target u) (hi : IfX D n c vars ifs ft) (he : Em D n c vars h0 R N em F) (hf : compG u ft F xs (ρ, ys) = some st')
    (hturn : ∀ it acc env, compTurn e d it acc env = (do
      standAt p
      match ← pyNext it with
      | none => pure (.done .next)
      | some v =>
        letOwnedTupleGo target it v
        assign target env v
        let mut ok := true
        for c in ifs do
          if ok then ok ← isTrue c env (eval c env)
        if ok then
          em env acc
        again (.compLoop e d it acc env)))
    (hq : ∀ acc, (Code.compLoop e d it acc cenv).quiet = true ∧ A.under (Code.compLoop e d it acc cenv) = A ∧ ((model D.prog D.w).den (.compLoop e d it acc cenv)) = (compTurn e d it acc cenv).onRaise (fun x => do noteFrame x cenv; theTreesLotGoes x))
    (hR : ∀ own' s'' s', StE D cenv vars own' st'.1 s' → Acc R N own' s'.heap K st'.2 a → GrI D.T (fun b => b = cenv.locals ∨ b = a ∨ V b) G s s'' → GrD D.T V G s'' s' → (∀ j, NoL c vars j → own' j = own j) → (∀ j b, b ∈ own' j → b ∈ own j) → R' (.ok .next) s') :
    codeAny D.M A (.compLoop e d it (.ref a) cenv) R' s := by
  have t0 := S.tab
  refine comp_loop (hq _) (CompI D c vars cenv own R N a K N0 V G s St (compG u ft F) xs st') ?_ (xs.length + 1)
    ⟨0, own, ρ, ys, fp0, W00, rfl, Nat.zero_le _, S, hacc, (Gr.refl t0 : Gr D.T (fun b => b = cenv.locals ∨ b = a ∨ V b) s s).toI, hst, hf, fun _ _ => rfl, fun _ _ m => m, wi.fm, fun b w => .inl (wi.n0 b w)⟩
  intro kk s' h P hP1 hP2
  obtain ⟨i, own', ρ', ys', fp, W, hkk, hi', S', hacc', tk', hst', hf', ho1, ho2, wfm, hN⟩ := h
  have hw0 : ∀ b, W b → V b := fun b w => wk.v fp W i s' b hst' w
  have hL : ∀ b o, W b → s'.heap.get? b = some o → LT o → False := fun b o w e l => by
    obtain ⟨o', e', _, q⟩ := wk.live fp W i s' b hst' (wk.sub fp W i s' b hst' w)
    rw [e] at e'; cases e'; exact q w l
  have gD : ∀ {s3}, GrD D.T W G s' s3 → StE D cenv vars own' ρ' s3 ∧ Acc R N own' s3.heap K ys' a := fun g3 =>
    ⟨S'.grD g3 (fun b w => wi.w1 b (hw0 b w)) (fun w => (wfm _ (wk.sub fp W i s' _ hst' w)).1 rfl) (fun x c e w => wi.wc x c e (hw0 _ w)) hL,
      hacc'.imp rfl (fun _ _ m => m) fun b o l e => g3.kp b o (S'.tab.ltne e l) (fun w => hL b o w e l) e⟩
  rw [hturn]
  refine wpAny_bind (wpAny_standAt (wpAny_bind ?_))
  by_cases hlt : i < xs.length
  · rw [List.drop_eq_getElem_cons hlt] at hf'
    have hxi := List.getElem?_eq_getElem hlt
    generalize xs[i] = x at hf' hxi
    obtain ⟨ρ1, hu, hf'⟩ := Option.bind_eq_some_iff.mp hf'
    obtain ⟨b, hb, hf'⟩ := Option.bind_eq_some_iff.mp hf'
    refine wpAny_mono (wk.item fp W i s' x S'.b (fun b e => wi.vn b (tk'.none t0 e)) hst' hxi) (fun r s3 hr => ?_) fun _ _ q => q
    obtain ⟨v, fp', W', g3, hex, d3, hst3, hfp', hW'⟩ := hr
    obtain ⟨S3, acc3⟩ := gD g3
    have tk3 := grI_stepD tk' g3 t0 (fun b w => .inr (.inr (hw0 b w))) hN hex
    have fm3 := fm_next wfm S' hacc'.1 hfp'
    refine wpAny_bind (wk.go fp' W' (i + 1) s3 target v _ _ hst3 (wpAny_bind (wpAny_mono (ht cenv A own' ρ' ρ1 s3 x v hc (hA.mono (Nat.zero_le _)) S3 (d3.to fun a o p l e => p.elim (fun p j m => (wi.q a p).1 j (ho2 j a m)) fun p => S'.clean p) hu) (fun _ s4 h4 => ?_) fun _ _ q => q)))
    obtain ⟨own4, S4, k4, kk4⟩ := h4
    have acc4 := acc3.imp (kk4.o K fun x e => absurd e (hK x)) kk4.sub kk4.l
    have tk4 := tk3.trans (k4.toI (G := No)) t0 (fun _ h => h) (fun _ _ _ h => .inl h) (fun _ h => h) (fun _ _ h => h.elim)
    refine wpAny_bind (wpAny_mono (hi cenv A own4 ρ1 s4 b hc hA S4 hb) (fun ok s5 h5 => ?_) fun _ _ q => q)
    obtain ⟨g5, rfl⟩ := h5
    have S5 := S4.grow g5
    have acc5 := acc4.imp rfl (fun _ _ m => m) fun b o l e => g5.kp b o (S4.tab.ltne e l) id e
    have tk5 := tk4.trans (g5.toI (G := No)) t0 (fun _ h => h) (fun _ _ _ h => h.elim) (fun _ h => h) (fun _ _ h => h.elim)
    have g35 : Gr D.T (fun b => b = cenv.locals ∨ b = a) s3 s5 := k4.trans g5 S3.tab (fun _ h => .inl h) (fun _ _ _ h => h.elim)
    -- the walk goes on behind the turn
    have go_on : ∀ (s6 : Shared) (ρ6 : Rho) (ys6 : List PV) (own6 : Own), StE D cenv vars own6 ρ6 s6 → Acc R N own6 s6.heap K ys6 a → GrI D.T (fun b => b = cenv.locals ∨ b = a ∨ V b) G s s6 → Gr D.T (fun b => b = cenv.locals ∨ b = a) s3 s6 → compG u ft F (xs.drop (i + 1)) (ρ6, ys6) = some st' →
        (∀ j, NoL c vars j → own6 j = own4 j) → (∀ j b, b ∈ own6 j → b ∈ own4 j) → P (.again (.compLoop e d it (.ref a) cenv)) s6 := fun s6 ρ6 ys6 own6 S6 acc6 tk6 k6 hf6 hn6 hs6 => by
      have nm : ∀ b, (fp' b ∨ Q b ∧ ∃ o', s3.heap.get? b = some o' ∧ LT o') → ¬ (b = cenv.locals ∨ b = a) := fun b hb m => by
        rcases hb with hb | ⟨hb, o', e', l'⟩
        · exact m.elim (fm3 b hb).1 (fm3 b hb).2
        · rcases m with rfl | rfl
          · obtain ⟨m, ⟨o, _, _, e, hd, _⟩, _⟩ := S3.vars
            rw [e'] at e; cases e; exact l'.notDict hd
          · exact (wi.q b hb).1 K hacc.1
      refine hP1 (xs.length + 1 - (i + 1)) s6 (by rw [hkk]; exact Nat.sub_lt_sub_left (Nat.lt_succ_of_lt hlt) (Nat.lt_succ_self i)) ⟨i + 1, own6, ρ6, ys6, fp', W', rfl, hlt, S6, acc6, tk6, ?_, hf6, fun j h => (hn6 j h).trans ((kk4.o j h).trans (ho1 j h)), fun j b m => ho2 j b (kk4.sub j b (hs6 j b m)), fm3, fun b hb => (hW' b hb).elim (hN b) fun h => .inr (tk'.none t0 h)⟩
      refine wk.frame fp' W' (i + 1) s3 s6 hst3 (fun b ob hb e => ?_) (fun b ob hb l e => k6.kp b ob (S3.tab.ltne e l) (nm b (.inr ⟨hb, ob, e, l⟩)) e) fun j hj => k6.gk j hj
      obtain ⟨o3, e3, nt, _⟩ := wk.live fp' W' (i + 1) s3 b hst3 hb
      exact k6.kp b ob (S3.tab.ne e (Option.some.inj (e3.symm.trans e) ▸ nt)) (nm b (.inl hb)) e
    cases ok with
    | false =>
      exact wpAny_pure (go_on s5 ρ1 ys' own4 S5 acc5 tk5 g35 hf' (fun _ _ => rfl) fun _ _ m => m)
    | true =>
      obtain ⟨st6, hy, hf'⟩ := Option.bind_eq_some_iff.mp hf'
      refine wpAny_bind (wpAny_mono (he cenv A own4 ρ1 s5 a K ys' st6 hc hA S5 (fun b e => hh0 b (tk5.none t0 e)) acc5 hK hy) (fun _ s6 h6 => ?_) fun _ _ q => q)
      obtain ⟨own6, S6, acc6, g6, hn6, hs6⟩ := h6
      exact wpAny_pure (go_on s6 st6.1 st6.2 own6 S6 acc6 (tk5.trans (g6.toI (G := No)) t0 (V := fun b => b = cenv.locals ∨ b = a ∨ V b) (H := G) (fun _ h => h) (fun _ _ _ h => h.elim .inl fun h => .inr (.inl h)) (fun _ h => h) (fun _ _ h => h.elim)) (g35.trans g6 S3.tab (V := fun b => b = cenv.locals ∨ b = a) (fun _ h => h) (fun _ _ _ h => h)) hf' hn6 hs6)
  · obtain rfl : i = xs.length := Nat.le_antisymm hi' (Nat.le_of_not_lt hlt)
    refine wpAny_mono (wk.done fp W s' S'.b hst') (fun r s3 hr => ?_) fun _ _ q => q
    obtain ⟨rfl, g3⟩ := hr
    rw [List.drop_length] at hf'
    cases hf'
    exact wpAny_pure (hP2 _ (hR own' s' s3 (gD g3).1 (gD g3).2 tk' (g3.up hw0) ho1 ho2))

theorem em_app {a : Addr} {K : Nat} {ys : List PV} {y : PV} {v : Value} {s5 s6 : Shared} (hK : ∀ x, vars[K]? ≠ some (some x)) (S5 : StE D cenv vars own ρ s5) (acc5 : Acc R N own s5.heap K ys a) (g6 : Grow D.T s5 s6)
    (d6 : Den (fun b => Clean own b ∧ R b) s6.heap y v) (hlen : ys.length ≤ 1000000) (hN : ∀ vs, s5.heap.PlainList a vs.toArray → DenL (fun b => Clean own b ∧ R b) s5.heap ys vs → N vs → N (vs ++ [v])) :
    wpAny D.M A (call (.builtin "list.append") [.ref a, v]) (fun _ s' => ∃ own', StE D cenv vars own' ρ s' ∧ Acc R N own' s'.heap K (ys ++ [y]) a ∧ Gr D.T (fun b => b = cenv.locals ∨ b = a) s5 s' ∧ (∀ j, NoL c vars j → own' j = own j) ∧ (∀ j b, b ∈ own' j → b ∈ own j)) (fun _ _ => False) s6 := by
  have S6 := S5.grow g6
  obtain ⟨hoK, vs, l5, dl5, n5⟩ := acc5
  have hN := hN vs l5 dl5 n5
  have l6 : s6.heap.PlainList a vs.toArray := by obtain ⟨nn, e⟩ := l5; exact ⟨nn, g6.kp _ _ (S5.tab.ltne e ⟨.inl rfl, _, _, rfl⟩) id e⟩
  refine wpAny_list_append_plain l6 (fun h' hl' hs' => ?_) (by rw [List.size_toArray, dl5.length, sizeLine_eq]; omega)
  have ⟨S7, k7⟩ := S6.mutate0 (tk := s6.toks) hK hoK hs' (LT.plain hl')
  obtain ⟨oa6, ea6, la6⟩ := LT.plain l6
  obtain ⟨oa7, ea7, la7⟩ := LT.plain hl'
  have g7 : Gr D.T (fun b => b = a) s6 { s6 with heap := h' } := .but S6.tab ea6 ea7 la6.nt rfl fun b o hb e => hs'.extBut b o hb e
  refine ⟨own, S7, ⟨hoK, vs ++ [v], ?_, ?_, hN⟩, g6.trans g7 S5.tab (fun _ h => h.elim) (fun _ _ _ h => .inr h), fun _ _ => rfl, fun _ _ m => m⟩
  · rw [show (vs ++ [v]).toArray = vs.toArray.push v by exact Eq.symm (List.push_toArray vs v)]; exact hl'
  · refine DenL.append ((dl5.grow g6 S5.tab).imp fun b o p l e => ⟨hs'.extBut b o (by rintro rfl; exact p.1 K hoK) e, p⟩) (.one (d6.imp fun b o p l e => ⟨hs'.extBut b o (by rintro rfl; exact p.1 K hoK) e, p⟩))

noncomputable abbrev emit (elt : Expr) : Env → Value → Sem Unit := fun env acc => do let _ ← call (.builtin "list.append") [acc, ← eval elt env]
theorem em_plain {h0 : Heap} {elt : Expr} {f : Rho → Option PV} {k : Kd} (he : Ex D n c vars k elt f) (hk : ∀ own b, KP D k own b → Clean own b ∧ R b) : Em D n c vars h0 R (fun _ => True) (emit elt) (emF f) := fun cenv A own ρ s a K ys st' hc hA S hh acc hK hf => by
  obtain ⟨y, hy, hf⟩ := Option.bind_eq_some_iff.mp hf
  obtain ⟨hlen, rfl⟩ := ite_some hf
  refine wpAny_bind (wpAny_mono (he cenv A own ρ s y hc hA S hy) (fun v s1 h1 => ?_) fun _ _ q => q)
  exact wpAny_bind (wpAny_mono (em_app hK S acc h1.1 (h1.2.to fun b _ p _ _ => hk own b p) hlen fun _ _ _ _ => trivial) (fun _ _ q => wpAny_pure q) fun _ _ q => q)

/-- all are lists of their own, none twice -/
noncomputable def RefsN (h0 : Heap) (vs : List Value) : Prop := ∃ bs : List Addr, vs = bs.map Value.ref ∧ bs.Nodup ∧ ∀ b ∈ bs, h0.get? b = none
theorem em_rows {h0 : Heap} {elt : Expr} {f : Rho → Option (List PV)} (he : ExN D n c vars elt f) : Em D n c vars h0 (fun _ => True) (RefsN h0) (emit elt) (emN f) := fun cenv A own ρ s a K ys st' hc hA S hh acc hK hf => by
  obtain ⟨y, hy, hf⟩ := Option.bind_eq_some_iff.mp hf
  obtain ⟨hlen, rfl⟩ := ite_some hf
  refine wpAny_bind (wpAny_mono (he cenv A own ρ s y hc hA S hy) (fun v s1 h1 => ?_) fun _ _ q => q)
  obtain ⟨g1, b, ws, rfl, hb, pl, dl⟩ := h1
  refine wpAny_bind (wpAny_mono (em_app hK S acc g1 (den_list ⟨S.clean hb, trivial⟩ pl.isList (dl.to fun b _ p _ _ => ⟨p.1, trivial⟩)) hlen fun vs l d n => ?_) (fun _ _ q => wpAny_pure q) fun _ _ q => q)
  obtain ⟨bs, rfl, nd, h1⟩ := n
  refine ⟨bs ++ [b], by simp, ?_, fun x m => ?_⟩
  · refine List.nodup_append.mpr ⟨nd, by simp, fun x m y my e => ?_⟩
    have : y = b := by simpa using my
    subst this; subst e
    have live : ∀ {ys : List PV} {bs : List Addr}, DenL (fun b => Clean own b ∧ True) s.heap ys (bs.map Value.ref) → ∀ b ∈ bs, ∃ o, s.heap.get? b = some o := by
      intro ys bs d b m
      induction bs generalizing ys with
      | nil => cases m
      | cons b0 bs ih =>
        cases ys with
        | nil => simp [DenL] at d
        | cons y ys =>
          simp only [List.map_cons, DenL, List.cons.injEq] at d
          obtain ⟨v, vs, ⟨rfl, rfl⟩, d1, d2⟩ := d
          rcases List.mem_cons.mp m with rfl | m
          · cases y with
            | list zs => simp only [Den] at d1; obtain ⟨a, ws, ea, p, ⟨o, e, _⟩, _⟩ := d1; cases ea; exact ⟨o, e⟩
            | tuple zs => simp only [Den] at d1; obtain ⟨a, ws, ea, p, ⟨o, e, _⟩, _⟩ := d1; cases ea; exact ⟨o, e⟩
            | none => simp [Den] at d1
            | bool _ => simp [Den] at d1
            | int _ => simp [Den] at d1
            | str _ => simp [Den] at d1
          · exact ih d2 m
    obtain ⟨o, e⟩ := live d x m
    rw [hb] at e; cases e
  · rcases List.mem_append.mp m with m | m
    · exact h1 x m
    · have : x = b := by simpa using m
      subst this; exact hh _ hb
end
end Mine
end
section
namespace Mine

theorem closureFor_go {env : Env} : ∀ (names : List (Str × NameKind)) (acc : List (Str × Addr)), (∀ x ∈ names, x.2 = .free → ∃ c, env.cells.lookup x.1 = some c) →
    ∃ cl, (forIn names acc fun x __s => match x with
        | (name, kind) => if (kind == NameKind.free) = true then do
            let __do_lift ← cellOf env name
            pure (ForInStep.yield ((name, __do_lift) :: __s))
          else pure (ForInStep.yield __s) : Sem (List (Str × Addr))) = pure cl ∧ (∀ n c, cl.lookup n = some c → (∃ k, (n, k) ∈ names ∧ env.cells.lookup n = some c) ∨ acc.lookup n = some c) ∧
      (∀ n, (n, NameKind.free) ∈ names → cl.lookup n = env.cells.lookup n) ∧ (∀ n, acc.lookup n = env.cells.lookup n → cl.lookup n = env.cells.lookup n)
  | [], acc, _ => ⟨acc, rfl, fun n c h => .inr h, fun n m => (List.not_mem_nil m).elim, fun n h => h⟩
  | (name, kind) :: r, acc, h => by
    have hr : ∀ x ∈ r, x.2 = .free → ∃ c, env.cells.lookup x.1 = some c := fun x hx => h x (.tail _ hx)
    rw [List.forIn_cons]
    by_cases hk : kind = .free
    · subst hk
      obtain ⟨c, hc⟩ := h (name, .free) (.head _) rfl
      obtain ⟨cl, e, h1, h2, h3⟩ := closureFor_go r ((name, c) :: acc) hr
      refine ⟨cl, ?_, fun n c' q => ?_, fun n m => ?_, fun n q => ?_⟩
      · simp only [beq_self_eq_true, if_true]
        unfold cellOf
        rw [hc]
        exact e
      · rcases h1 n c' q with ⟨k, m, q⟩ | q
        · exact .inl ⟨k, .tail _ m, q⟩
        · rw [List.lookup_cons] at q
          by_cases hn : n = name
          · subst hn; simp at q; subst q; exact .inl ⟨_, .head _, hc⟩
          · have : (n == name) = false := by simpa using hn
            rw [this] at q; exact .inr q
      · cases m with
        | head => exact h3 _ (by rw [List.lookup_cons]; simp [hc])
        | tail _ m => exact h2 n m
      · refine h3 n ?_
        rw [List.lookup_cons]
        by_cases hn : n = name
        · subst hn; simp [hc]
        · have : (n == name) = false := by simpa using hn
          rw [this]; exact q
    · have hb : (kind == NameKind.free) = false := by simpa using hk
      obtain ⟨cl, e, h1, h2, h3⟩ := closureFor_go r acc hr
      refine ⟨cl, ?_, fun n c' q => ?_, fun n m => ?_, h3⟩
      · simp only [hb, Bool.false_eq_true, if_false]
        exact e
      · rcases h1 n c' q with ⟨k, m, q⟩ | q
        · exact .inl ⟨k, .tail _ m, q⟩
        · exact .inr q
      · cases m with
        | head => exact absurd rfl hk
        | tail _ m => exact h2 n m
theorem closureFor_ok {scope : Scope} {env : Env} (h : ∀ x ∈ scope.names, x.2 = .free → ∃ c, env.cells.lookup x.1 = some c) :
    ∃ cl, closureFor scope env = pure cl ∧ (∀ n c, cl.lookup n = some c → env.cells.lookup n = some c) ∧ (∀ n, (n, NameKind.free) ∈ scope.names → cl.lookup n = env.cells.lookup n) := by
  obtain ⟨cl, e, h1, h2, _⟩ := closureFor_go scope.names [] h
  refine ⟨cl, ?_, fun n c q => ?_, h2⟩
  · unfold closureFor
    exact congrArg (· >>= pure) e
  · rcases h1 n c q with ⟨_, _, q⟩ | q
    · exact q
    · simp at q

noncomputable def relab (scope sc : Scope) : Scope := { scope with names := scope.names.map fun (n, k) => if (k == .free && sc.kind == .function && sc.names.lookup n == some .cell) then (n, .cell) else (n, k) }
theorem relab_eq {scope : Scope} {env : Env} {c : Sct} (hc : InC c env) : relabel scope env = relab scope c.sc := by
  unfold relabel relab Env.kindOf; rw [hc.1]
theorem lookup_snd {g : Str → NameKind → NameKind} : ∀ (l : List (Str × NameKind)) (x : Str), (l.map fun p => (p.1, g p.1 p.2)).lookup x = (l.lookup x).map (g x)
  | [], x => rfl
  | (n, k) :: r, x => by
    rw [List.map_cons, List.lookup_cons, List.lookup_cons]
    by_cases hx : x = n
    · subst hx; simp
    · have hb : (x == n) = false := by simpa using hx
      rw [hb]; exact lookup_snd r x
theorem relab_lookup {sc : Scope} (hk : sc.kind = .function) (names : List (Str × NameKind)) (x : Str) :
    (names.map fun (n, k) => if (k == NameKind.free && sc.kind == .function && sc.names.lookup n == some .cell) then (n, NameKind.cell) else (n, k)).lookup x =
      (names.lookup x).map fun k => if (k == .free && sc.names.lookup x == some .cell) then .cell else k := by
  have hkk : (sc.kind == ScopeKind.function) = true := by rw [hk]; rfl
  have e : (fun (p : Str × NameKind) => match p with | (n, k) => if (k == NameKind.free && sc.kind == .function && sc.names.lookup n == some .cell) then (n, NameKind.cell) else (n, k)) =
      fun p => (p.1, (fun n k => if (k == NameKind.free && sc.names.lookup n == some .cell) then NameKind.cell else k) p.1 p.2) := by
    funext ⟨n, k⟩
    simp only [hkk, Bool.and_true]
    split <;> rfl
  rw [e]
  exact lookup_snd (g := fun n k => if (k == NameKind.free && sc.names.lookup n == some .cell) then NameKind.cell else k) names x

noncomputable def distinctV : List (Option Str) → Bool
  | [] => true
  | none :: r => distinctV r
  | some x :: r => !(r.contains (some x)) && distinctV r
theorem distinctV_ok : ∀ {l : List (Option Str)}, distinctV l = true → ∀ (i j : Nat) (x : Str), l[i]? = some (some x) → l[j]? = some (some x) → i = j
  | [], _, i, j, x, h, _ => by simp at h
  | y :: r, hd, i, j, x, h1, h2 => by
    have hr : distinctV r = true := by cases y <;> simp [distinctV] at hd <;> first | exact hd | exact hd.2
    have hy : ∀ z, y = some z → some z ∉ r := fun z e m => by subst e; simp [distinctV] at hd; exact hd.1 m
    cases i with
    | zero =>
      cases j with
      | zero => rfl
      | succ j => simp at h1 h2; exact absurd (List.mem_of_getElem? h2) (hy x h1)
    | succ i =>
      cases j with
      | zero => simp at h1 h2; exact absurd (List.mem_of_getElem? h1) (hy x h2)
      | succ j => simp at h1 h2; rw [distinctV_ok hr i j x h1 h2]

noncomputable def varsFit (sc scope : Scope) (vars vars' : List (Option Str)) : Bool := vars'.zipIdx.all fun (o, i) => match o with
  | none => true
  | some x => if i < vars.length then vars[i]? == some (some x) && scope.names.lookup x == some .free && scope.names.contains (x, .free) else scope.names.lookup x == some .local
noncomputable def compOk (c : Sct) (scope : Scope) (vars vars' : List (Option Str)) : Bool :=
  scope.kind == .function && c.sc.kind == .function && !scope.isCoroutine && scope.names.all (fun x => x.2 != .cell) && scope.names.all (fun x => x.2 != .local || scope.names.lookup x.1 == some .local) &&
  scope.names.all (fun x => x.2 != .free || c.sc.names.lookup x.1 == some .cell) && goodNames vars' (relab scope c.sc) && distinctV vars' && varsFit c.sc scope vars vars' && decide (vars'.length ≤ 1000) && decide (vars.length ≤ vars'.length)
structure CompOk (c : Sct) (scope : Scope) (vars vars' : List (Option Str)) : Prop where
  k1 : scope.kind = .function
  k2 : c.sc.kind = .function
  k3 : scope.isCoroutine = false
  k4 : ∀ x ∈ scope.names, x.2 ≠ .cell
  k5 : ∀ x ∈ scope.names, x.2 ≠ .local ∨ scope.names.lookup x.1 = some .local
  k6 : ∀ x ∈ scope.names, x.2 ≠ .free ∨ c.sc.names.lookup x.1 = some .cell
  k7 : goodNames vars' (relab scope c.sc) = true
  k8 : distinctV vars' = true
  k9 : varsFit c.sc scope vars vars' = true
  k10 : vars'.length ≤ 1000
  kl : vars.length ≤ vars'.length
theorem compOk_ok {c : Sct} {scope : Scope} {vars vars' : List (Option Str)} (h : compOk c scope vars vars' = true) : CompOk c scope vars vars' := by
  simp only [compOk, Bool.and_eq_true, beq_iff_eq, Bool.not_eq_true', List.all_eq_true, Bool.or_eq_true, bne_iff_ne, decide_eq_true_eq] at h
  exact ⟨h.1.1.1.1.1.1.1.1.1.1, h.1.1.1.1.1.1.1.1.1.2, h.1.1.1.1.1.1.1.1.2, h.1.1.1.1.1.1.1.2, h.1.1.1.1.1.1.2, h.1.1.1.1.1.2, h.1.1.1.1.2, h.1.1.1.2, h.1.1.2, h.1.2, h.2⟩
noncomputable def cSct (c : Sct) (scope : Scope) : Sct := ⟨relab scope c.sc, c.cd, c.qual, none⟩
noncomputable def cutR (m : Nat) (ρ : Rho) : Rho := fun i => if i < m then ρ i else none

section
variable {D : Dt} {n : Nat} {c : Sct} {vars vars' : List (Option Str)} {env : Env} {own : Own} {ρ : Rho} {s s4 : Shared} {scope : Scope} {cl : List (Str × Addr)} {C a : Addr}

theorem StE.comp (S : StE D env vars own ρ s) (hc : InC c env) (ok : compOk c scope vars vars' = true) (h1 : ∀ n c, cl.lookup n = some c → env.cells.lookup n = some c) (h2 : ∀ n, (n, NameKind.free) ∈ scope.names → cl.lookup n = env.cells.lookup n)
    (g : Grow D.T s s4) (hC0 : s.heap.get? C = none) (ha0 : s.heap.get? a = none) (hC : s4.heap.Ns C (fun _ => none)) (ha : s4.heap.PlainList a #[]) :
    StE D (compEnvC scope cl C env) vars' (setO own 1000 (a :: own 1000)) (cutR vars.length ρ) s4 ∧ InC (cSct c scope) (compEnvC scope cl C env) ∧ (∀ (R : Addr → Prop) (N : List Value → Prop), N [] → Acc R N (setO own 1000 (a :: own 1000)) s4.heap 1000 [] a) ∧ (∀ x, vars'[1000]? ≠ some (some x)) := by
  have K := compOk_ok ok
  have e0 : relabel scope env = relab scope c.sc := relab_eq hc
  have hkind : ∀ x, (compEnvC scope cl C env).kindOf x = (scope.names.lookup x).map fun k => if (k == .free && c.sc.names.lookup x == some .cell) then .cell else k := fun x => by
    show (relabel scope env).names.lookup x = _
    rw [e0]; exact relab_lookup K.k2 _ _
  have mem_lk : ∀ {x : Str} {k : NameKind}, scope.names.lookup x = some k → (x, k) ∈ scope.names := fun h => mem_of_lookup h
  have hcell : ∀ x, (compEnvC scope cl C env).kindOf x = some .cell → scope.names.lookup x = some .free ∧ env.kindOf x = some .cell := fun x h => by
    rw [hkind] at h
    obtain ⟨k, q1, q2⟩ := Option.map_eq_some_iff.mp h
    split at q2
    · rename_i q; simp only [Bool.and_eq_true, beq_iff_eq] at q
      exact ⟨by rw [q1, q.1], by unfold Env.kindOf; rw [hc.1]; exact q.2⟩
    · subst q2; exact absurd rfl (K.k4 _ (mem_lk q1))
  have ow : ∀ i b, b ∈ setO own 1000 (a :: own 1000) i → b = a ∧ i = 1000 ∨ b ∈ own i := fun i b m => by
    unfold setO at m; split at m
    · rename_i q; rcases List.mem_cons.mp m with h | h
      · exact .inl ⟨h, q⟩
      · exact .inr (q ▸ h)
    · exact .inr m
  have nown : ∀ i, a ∉ own i := fun i m => by obtain ⟨o, e, _⟩ := S.oe i a m; rw [ha0] at e; cases e
  have S4 := S.grow g
  refine ⟨⟨S.ok, S4.base, g.tab, ⟨?_, S.eo.glob, S.eo.bi, ?_⟩, ?_, distinctV_ok K.k8, fun b m => ?_, fun i b m => ?_, fun i j b hi hj => ?_, fun i => ?_, fun i hi hi2 => ?_, fun x hx => ?_, fun x cc hx => S4.ca x cc (h1 _ _ hx), fun x y cc hx hy => S.cd x y cc (h1 _ _ hx) (h1 _ _ hy), _, hC, fun i x sl hx hr => ?_⟩, ⟨e0, hc.2.1, hc.2.2.1, fun _ h => nomatch h⟩, fun R N hN => ⟨by unfold setO; rw [if_pos rfl]; exact .head _, [], ha, by simp [DenL], hN⟩, fun x h => ?_⟩
  · show (relabel scope env).kind = _; rw [e0]; exact K.k1
  · show (relabel scope env).isCoroutine = _; rw [e0]; exact K.k3
  · show goodNames vars' (relabel scope env) = true; rw [e0]; exact K.k7
  · rcases m with rfl | ⟨x, hx, hx2⟩ | ⟨i, m⟩
    · exact S.new0 hC0
    · exact S.mn b (.inr (.inl ⟨x, (hcell x hx).2, h1 _ _ hx2⟩))
    · rcases ow i b m with ⟨rfl, _⟩ | m
      · exact S.new0 ha0
      · exact S.mn b (.inr (.inr ⟨i, m⟩))
  · rcases ow i b m with ⟨rfl, _⟩ | m
    · exact LT.plain ha
    · exact S4.oe i b m
  · rcases ow i b hi with ⟨rfl, rfl⟩ | hi <;> rcases ow j b hj with ⟨e, rfl⟩ | hj
    · rfl
    · exact absurd hj (nown j)
    · exact absurd hi (e ▸ nown i)
    · exact S.od i j b hi hj
  · unfold setO; split
    · exact List.nodup_cons.mpr ⟨nown _, S.on _⟩
    · exact S.on i
  · rw [setO_ne hi2]; exact S.ob i (Nat.le_trans K.kl hi) hi2
  · obtain ⟨q1, q2⟩ := hcell x hx
    obtain ⟨cc, v, e1, e2⟩ := S4.ce x q2
    exact ⟨cc, v, by show cl.lookup x = _; rw [h2 x (mem_lk q1)]; exact e1, e2⟩
  · unfold cutR at hr
    split at hr
    · rename_i hi
      have q : (some x, i) ∈ vars'.zipIdx := by rw [List.mem_zipIdx_iff_getElem?]; exact hx
      have q2 := List.all_eq_true.mp K.k9 _ q
      simp only [hi, if_true, Bool.and_eq_true, beq_iff_eq, List.contains_iff_mem] at q2
      obtain ⟨⟨q3, q4⟩, q5⟩ := q2
      obtain ⟨m, hn, kk⟩ := S4.vars
      obtain ⟨v, v1, v2⟩ := kk i x sl q3 hr
      have q6 : c.sc.names.lookup x = some .cell := by
        rcases K.k6 _ q5 with h | h
        · exact absurd rfl h
        · exact h
      refine ⟨v, ?_, ?_⟩
      · unfold VarAt at v1 ⊢
        rw [hkind, q4]
        have : env.kindOf x = some .cell := by unfold Env.kindOf; rw [hc.1]; exact q6
        rw [this] at v1
        simp only [Option.map_some, beq_self_eq_true, Bool.true_and, q6, if_true]
        obtain ⟨cc, e1, e2⟩ := v1
        exact ⟨cc, by show cl.lookup x = _; rw [h2 x q5]; exact e1, e2⟩
      · have hi1 : i ≠ 1000 := by
          have : i < vars'.length := (List.getElem?_eq_some_iff.mp hx).1
          exact Nat.ne_of_lt (Nat.lt_of_lt_of_le this K.k10)
        rw [setO_ne hi1]
        have vv := v2
        obtain ⟨m0, hn0, kk0⟩ := S.vars
        obtain ⟨w, w1, w2⟩ := kk0 i x sl q3 hr
        have clean : ∀ b o, Clean own b → LT o → s.heap.get? b = some o → s4.heap.get? b = some o ∧ Clean (setO own 1000 (a :: own 1000)) b := fun b o p l e => ⟨g.kp b o (S.tab.ltne e l) id e, fun j m => by
          rcases ow j b m with ⟨rfl, _⟩ | m
          · rw [ha0] at e; cases e
          · exact p j m⟩
        have w3 : SlotOk (setO own 1000 (a :: own 1000)) s4.heap (own i) sl w := w2.imp clean fun b _ o l e => g.kp b o (S.tab.ltne e l) id e
        have : w = v := by
          have v1' := v1
          unfold VarAt at w1 v1'
          have hkx : env.kindOf x = some .cell := by unfold Env.kindOf; rw [hc.1]; exact q6
          rw [hkx] at w1 v1'
          obtain ⟨c1, e1, o1, f1, d1⟩ := w1
          obtain ⟨c2, e2, o2, f2, d2⟩ := v1'
          rw [e1] at e2; cases e2
          have := g.kp _ _ (S.tab.cellne ⟨o1, f1, d1⟩) id f1
          rw [this] at f2; cases f2
          rw [d1] at d2; injection d2 with d2; exact Option.some.inj d2
        rw [← this]; exact w3
    · cases hr
  · exact Nat.not_le_of_gt (List.getElem?_eq_some_iff.mp h).1 K.k10

/-- a comprehension's loop, by what it makes of the items -/
noncomputable def LoopX (D : Dt) (n : Nat) (c : Sct) (vars : List (Option Str)) (R : Heap → Addr → Prop) (N : Heap → List Value → Prop) (e : Expr) (d : Nat) (F : List PV → Cst → Option Cst) : Prop :=
  ∀ (cenv : Env) (A : Around) (own : Own) (ρ : Rho) (s : Shared) (it : Value) (a : Addr) (K : Nat) (ys xs : List PV) (Q fp W V N0 : Addr → Prop) (G : Nat → Prop) (St : (Addr → Prop) → (Addr → Prop) → Nat → Shared → Prop) (st' : Cst) (h0 : Heap) (R' : Result → Shared → Prop),
    InC c cenv → OkA n A → StE D cenv vars own ρ s → (∀ b, s.heap.get? b = none → h0.get? b = none) → Acc (R h0) (N h0) own s.heap K ys a → (∀ x, vars[K]? ≠ some (some x)) → Wd D A it Q xs V N0 G St → St fp W 0 s → WkIn D cenv own a Q fp W V N0 s → F xs (ρ, ys) = some st' →
    (∀ own' s'' s', StE D cenv vars own' st'.1 s' → Acc (R h0) (N h0) own' s'.heap K st'.2 a → GrI D.T (fun b => b = cenv.locals ∨ b = a ∨ V b) G s s'' → GrD D.T V G s'' s' → (∀ j, NoL c vars j → own' j = own j) → (∀ j b, b ∈ own' j → b ∈ own j) → R' (.ok .next) s') →
    codeAny D.M A (.compLoop e d it (.ref a) cenv) R' s

variable {R : Heap → Addr → Prop} {N : Heap → List Value → Prop}
theorem loop_one {elt target iter : Expr} {ifs : List Expr} {scope : Scope} {pos : Pos} {u : PV → Rho → Option Rho} {ft : Rho → Option Bool} {F : Rho → List PV → Option Cst} (ht : TgtC D c vars target u) (hi : IfX D n c vars ifs ft) (he : ∀ h0, Em D n c vars h0 (R h0) (N h0) (emit elt) F) :
    LoopX D n c vars R N (.ListComp elt [⟨target, iter, ifs, 0⟩] scope pos) 0 (compG u ft F) := fun cenv A own ρ s it a K ys xs Q fp W V N0 G St st' h0 R' hc hA S hh hacc hK wk hst wi hf hR =>
  comp_gen hc hA S hh hacc hK wk hst wi ht hi (he h0) hf (p := iter.pos) (fun _ _ _ => rfl) (fun _ => ⟨rfl, rfl, rfl⟩) hR
theorem loop_last {elt target iter : Expr} {ifs : List Expr} {scope : Scope} {pos : Pos} {g : Comprehension} {u : PV → Rho → Option Rho} {ft : Rho → Option Bool} {F : Rho → List PV → Option Cst} (ht : TgtC D c vars target u) (hi : IfX D n c vars ifs ft) (he : ∀ h0, Em D n c vars h0 (R h0) (N h0) (emit elt) F) :
    LoopX D n c vars R N (.ListComp elt [g, ⟨target, iter, ifs, 0⟩] scope pos) 1 (compG u ft F) := fun cenv A own ρ s it a K ys xs Q fp W V N0 G St st' h0 R' hc hA S hh hacc hK wk hst wi hf hR =>
  comp_gen hc hA S hh hacc hK wk hst wi ht hi (he h0) hf (p := iter.pos) (fun _ _ _ => rfl) (fun _ => ⟨rfl, rfl, rfl⟩) hR

theorem grow_fin {W : Addr → Prop} {G : Nat → Prop} {s s4 s5 s6 : Shared} {C a : Addr} (t : TabOk D.T s.heap) (g1 : Grow D.T s s4) (g2 : GrI D.T (fun b => b = C ∨ b = a ∨ W b) G s4 s5) (g3 : GrD D.T W G s5 s6) (hC : s.heap.get? C = none) (ha : s.heap.get? a = none) (hW : ∀ b, W b → s.heap.get? b = none) (hG : ∀ i, G i → s.gens.size ≤ i) : Grow D.T s s6 := by
  have nw : ∀ b o, s.heap.get? b = some o → ¬ (b = C ∨ b = a ∨ W b) := fun b o e q => by
    rcases q with rfl | rfl | q
    · rw [hC] at e; cases e
    · rw [ha] at e; cases e
    · rw [hW b q] at e; cases e
  refine ⟨fun b o m _ e => g3.kp b o m (fun w => nw b o e (.inr (.inr w))) (g2.kp b o m (nw b o e) (g1.kp b o m id e)), g3.tab, (g3.os.trans g2.os).trans g1.os, fun i hi => ?_, Nat.le_trans (Nat.le_trans g1.gs g2.gs) g3.gs, fun b => g3.gb (g2.gb (g1.gb b)), fun _ _ w _ => w.elim⟩
  have ng : ¬ G i := fun q => by have := hG i q; omega
  exact (g3.gk i (Nat.lt_of_lt_of_le hi (Nat.le_trans g1.gs g2.gs)) ng).trans ((g2.gk i (Nat.lt_of_lt_of_le hi g1.gs) ng).trans (g1.gk i hi))
theorem grow_finD {s s6 : Shared} {C : Addr} {o : Obj} {h' : Heap} (g1 : Grow D.T s s6) (hC : s.heap.get? C = none) (ho : s6.heap.get? C = some o) (nt : NT o) (hs : Heap.SameBut C s6.heap h') : Grow D.T s { s6 with heap := h' } := by
  have k : ∀ b o, b ≠ C → s6.heap.get? b = some o → h'.get? b = some o := fun b o hb e => hs.extBut b o hb e
  exact ⟨fun b o m _ e => k b o (by rintro rfl; rw [hC] at e; cases e) (g1.kp b o m id e), g1.tab.but ho nt k, g1.os, g1.gk, g1.gs, g1.gb, fun _ _ w _ => w.elim⟩

noncomputable def compE (m : Nat) (fi : Rho → Option (List PV)) (F : List PV → Cst → Option Cst) : Rho → Option (List PV) := fun ρ => (fi ρ).bind fun xs => (F xs (cutR m ρ, [])).map (·.2)

/-- a comprehension, up to its end -/
theorem comp_raw {elt target iter : Expr} {ifs : List Expr} {rest : List Comprehension} {pos : Pos} {fi : Rho → Option (List PV)} {F : List PV → Cst → Option Cst} {A : Around} {use : Option (Value → Sem Unit)} {Q0 : Value → Shared → Prop} {zs : List PV}
    (hN0 : ∀ h, N h []) (hi : ItE D n c vars iter fi) (ok : compOk c scope vars vars' = true) (hl : LoopX D n (cSct c scope) vars' R N (.ListComp elt (⟨target, iter, ifs, 0⟩ :: rest) scope pos) 0 F)
    (hs : ∀ env x, foldedSetIterable iter env x = pure x) (hc : InC c env) (hA : OkA n A) (S : StE D env vars own ρ s) (hf : compE vars.length fi F ρ = some zs)
    (hend : ∀ C a s', s.heap.get? C = none → s.heap.get? a = none → Grow D.T s s' → (∃ m, s'.heap.Ns C m) → (∃ vs, s'.heap.PlainList a vs.toArray ∧ DenL (fun b => (Clean own b ∧ b ≠ a) ∧ R s.heap b) s'.heap zs vs ∧ N s.heap vs) →
      compPost D.M A (fun _ _ => False) use Q0 (.ref a) C (.ok .next) s') :
    wpAny D.M A (comprehension (.ListComp elt (⟨target, iter, ifs, 0⟩ :: rest) scope pos) scope env (firstIterPos (⟨target, iter, ifs, 0⟩ :: rest) pos) (newList []) false (eval iter env) use) Q0 (fun _ _ => False) s := by
  obtain ⟨xs, hx, hf⟩ := Option.bind_eq_some_iff.mp hf
  obtain ⟨st', hF, rfl⟩ := Option.map_eq_some_iff.mp hf
  have K := compOk_ok ok
  obtain ⟨cl, hcl, h1, h2⟩ := closureFor_ok (scope := scope) (env := env) fun x hx hfree => by
    rcases K.k6 x hx with h | h
    · exact absurd hfree h
    · have : env.kindOf x.1 = some .cell := by unfold Env.kindOf; rw [hc.1]; exact h
      obtain ⟨cc, v, e, _⟩ := S.ce x.1 this
      exact ⟨cc, e⟩
  refine wpAny_comprehension_free rfl (hs env) hcl K.k1 (fun x hx hl => (K.k5 x hx).elim (fun h => absurd hl h) id) ?_
  refine wpAny_mono (hi env A own ρ s xs hc hA S hx) (fun v s1 h1' => wpAny_mono h1' (fun it s2 hd => ?_) fun _ _ q => q) fun _ _ q => q
  obtain ⟨g2, Q, fp, W, G, St, wk, hst, hfp, hG, hQ⟩ := hd
  let V : Addr → Prop := fun b => s.heap.get? b = none
  have hW : ∀ b, V b → s.heap.get? b = none := fun _ h => h
  refine wpAny_newObj_type (hd := by size_fits) (wpAny_newFunctionEnv K.k4 (by intro y hy; simp at hy) (fun h₁ hns₁ hsb₁ => ?_) K.k1)
  dsimp only at hns₁ hsb₁ ⊢
  generalize hH2 : s2.heap.push { cls := .type "list", dict := none, data := .seq ([] : List Value).toArray } = H2 at hns₁ hsb₁ ⊢
  have hC : H2.objs.size = s2.heap.objs.size + 1 := by rw [← hH2, Heap.size_push]
  have hDC : s2.heap.objs.size ≠ H2.objs.size := by rw [hC]; exact Nat.ne_of_lt (Nat.lt_succ_self _)
  have old : ∀ b o, s2.heap.get? b = some o → h₁.get? b = some o := fun b o e =>
    hsb₁.extBut b o (by rw [hC]; exact Nat.ne_of_lt (Nat.lt_succ_of_lt (Heap.lt_size e))) (Heap.get?_push_of_some _ (hH2 ▸ Heap.get?_push_of_some _ e))
  have hacc : h₁.PlainList s2.heap.objs.size #[] := ⟨_, hsb₁.extBut _ _ hDC (Heap.get?_push_of_some _ (hH2 ▸ Heap.get?_push_size _ rfl))⟩
  have hC2 : s2.heap.get? H2.objs.size = none := by
    cases q : s2.heap.get? H2.objs.size with
    | none => rfl
    | some o => have := Heap.lt_size q; rw [hC] at this; exact absurd (Nat.lt_of_succ_lt this) (Nat.lt_irrefl _)
  have hC0 : s.heap.get? H2.objs.size = none := g2.none S.tab hC2
  have ha0 : s.heap.get? s2.heap.objs.size = none := g2.none S.tab (fresh_at _)
  let s4 : Shared := { s2 with heap := h₁, toks := s2.toks + ([] : List (Str × Value)).length }
  have g4 : Grow D.T s s4 := g2.then (.of g2.tab old)
  have S2 := S.grow g2
  obtain ⟨S4, hc4, acc4, hK⟩ := S2.comp (s4 := s4) (vars' := vars') (C := H2.objs.size) (a := s2.heap.objs.size) hc ok h1 h2 (.of g2.tab old) hC2 (fresh_at _) hns₁ hacc
  have hst4 : St fp W 0 s4 := wk.frame fp W 0 s2 s4 hst (fun b o _ e => old b o e) (fun b o _ _ e => old b o e) fun _ _ => rfl
  have wi : WkIn D (compEnvC scope cl H2.objs.size env) (setO own 1000 (s2.heap.objs.size :: own 1000)) s2.heap.objs.size Q fp W V W s4 := by
    refine ⟨fun b w => S.new0 (hW b w), fun x cc e w => ?_, fun b hb => ⟨?_, ?_⟩, fun b q => ⟨fun j m => ?_, ?_⟩, fun _ h => h, fun b e => g4.none S.tab e⟩
    · obtain ⟨o, e2⟩ := S.ca x cc (h1 _ _ e)
      rw [hW _ w] at e2; cases e2
    · rintro rfl
      obtain ⟨o, e, _⟩ := wk.live fp W 0 s2 _ hst hb
      have e' : s2.heap.get? H2.objs.size = some o := e
      rw [hC2] at e'; cases e'
    · rintro rfl
      obtain ⟨o, e, _⟩ := wk.live fp W 0 s2 _ hst hb
      rw [fresh_at] at e; cases e
    · obtain ⟨q1, o, q2⟩ := hQ b q
      unfold setO at m; split at m
      · rcases List.mem_cons.mp m with rfl | m
        · rw [fresh_at] at q2; cases q2
        · exact q1 _ m
      · exact q1 _ m
    · obtain ⟨_, o, q2⟩ := hQ b q; exact ⟨o, old b o q2⟩
  have fin : codeAny D.M A (.compLoop (.ListComp elt (⟨target, iter, ifs, 0⟩ :: rest) scope pos) 0 it (.ref s2.heap.objs.size) (compEnvC scope cl H2.objs.size env)) (compPost D.M A (fun _ _ => False) use Q0 (.ref s2.heap.objs.size) H2.objs.size) s4 := by
    refine hl _ A _ _ s4 it s2.heap.objs.size 1000 [] xs Q fp W V W G St st' s.heap _ hc4 hA S4 (fun b e => g4.none S.tab e) (acc4 (R s.heap) (N s.heap) (hN0 _)) hK wk hst4 wi hF fun own' s'' s' S' acc' gi gd ho1 ho2 => ?_
    obtain ⟨m, hn, _⟩ := S'.vars
    obtain ⟨ha', vs, pl, dl, nn⟩ := acc'
    refine hend _ _ s' hC0 ha0 (grow_fin S.tab g4 gi gd hC0 ha0 hW hG) ⟨m, hn⟩ ⟨vs, pl, dl.to fun b o p _ _ => ⟨⟨fun j mm => ?_, fun q => ?_⟩, p.2⟩, nn⟩
    · by_cases hj : j = 1000
      · subst hj
        refine p.1 1000 ?_
        rw [ho1 1000 fun x e => absurd e (hK x)]; unfold setO; rw [if_pos rfl]; exact .tail _ mm
      · have hjl : j < vars.length := by
          rcases Nat.lt_or_ge j vars.length with h | h
          · exact h
          · rw [S.ob j h hj] at mm; cases mm
        refine p.1 j ?_
        rw [ho1 j fun x e => ?_, setO_ne hj]
        · exact mm
        · have q : (some x, j) ∈ vars'.zipIdx := by rw [List.mem_zipIdx_iff_getElem?]; exact e
          have q2 := List.all_eq_true.mp K.k9 _ q
          simp only [hjl, if_true, Bool.and_eq_true, beq_iff_eq, List.contains_iff_mem] at q2
          have q6 : c.sc.names.lookup x = some .cell := (K.k6 _ q2.2).elim (fun h => absurd rfl h) id
          show ((relab scope c.sc).names.lookup x == some .local) = false
          have : (relab scope c.sc).names.lookup x = some .cell := (relab_lookup K.k2 _ _).trans (by rw [q2.1.2]; simp [q6])
          rw [this]; rfl
    · subst q; exact p.1 1000 ha'
  exact codeAny_compStart_list fin (wk.self fp W 0 s4 _ _ hst4 fin)
end
end Mine
end
section
namespace Mine

section
variable {D : Dt} {n : Nat} {c : Sct} {vars vars' : List (Option Str)} {scope : Scope} {R : Heap → Addr → Prop} {N : Heap → List Value → Prop}

theorem ns_nt {h : Heap} {C : Addr} {m : Str → Option Value} (x : h.Ns C m) : ∃ o, h.get? C = some o ∧ NT o ∧ ¬ LT o := by
  obtain ⟨o, es, ep, e, hd, _⟩ := x; exact ⟨o, e, .dict hd, fun l => l.notDict hd⟩

theorem exn_comp {elt target iter : Expr} {ifs : List Expr} {rest : List Comprehension} {pos : Pos} {fi : Rho → Option (List PV)} {F : List PV → Cst → Option Cst}
    (hi : ItE D n c vars iter fi) (ok : compOk c scope vars vars' = true) (hl : LoopX D n (cSct c scope) vars' R N (.ListComp elt (⟨target, iter, ifs, 0⟩ :: rest) scope pos) 0 F) (hN0 : ∀ h, N h [] := by intro _; trivial)
    (hs : ∀ env x, foldedSetIterable iter env x = pure x := by intro _ _; rfl) : ExN D n c vars (.ListComp elt (⟨target, iter, ifs, 0⟩ :: rest) scope pos) (compE vars.length fi F) := fun env A own ρ s zs hc hA S hf => by
  rw [eval_ListComp]
  refine comp_raw (use := none) hN0 hi ok hl hs hc hA S hf fun C a s' hC ha g hn hacc => ?_
  obtain ⟨m, hn⟩ := hn
  obtain ⟨o, eo, nt, nl⟩ := ns_nt hn
  obtain ⟨vs, ⟨nn, pl⟩, dl, _⟩ := hacc
  refine ⟨m, hn, fun h' hs' => ⟨grow_finD g hC eo nt hs', a, vs, rfl, ha, ⟨nn, hs'.extBut _ _ (by rintro rfl; rw [pl] at eo; cases eo; exact nl ⟨.inl rfl, _, _, rfl⟩) pl⟩, dl.imp fun b ob p l e => ⟨hs'.extBut b ob (by rintro rfl; rw [e] at eo; cases eo; exact nl l) e, p.1⟩⟩⟩

theorem ex_compRt {elt target iter : Expr} {ifs : List Expr} {rest : List Comprehension} {pos : Pos} {fi : Rho → Option (List PV)} {F : List PV → Cst → Option Cst}
    (hi : ItE D n c vars iter fi) (ok : compOk c scope vars vars' = true) (hl : LoopX D n (cSct c scope) vars' (fun _ b => D.h1.get? b = none) N (.ListComp elt (⟨target, iter, ifs, 0⟩ :: rest) scope pos) 0 F)
    (hN0 : ∀ h, N h [] := by intro _; trivial) (hs : ∀ env x, foldedSetIterable iter env x = pure x := by intro _ _; rfl) : Ex D n c vars .rt (.ListComp elt (⟨target, iter, ifs, 0⟩ :: rest) scope pos) (fun ρ => (compE vars.length fi F ρ).map .list) := fun env A own ρ s zs hc hA S hf => by
  obtain ⟨zs, hz, rfl⟩ := Option.map_eq_some_iff.mp hf
  rw [eval_ListComp]
  refine comp_raw (use := none) hN0 hi ok hl hs hc hA S hz fun C a s' hC ha g hn hacc => ?_
  obtain ⟨m, hn⟩ := hn
  obtain ⟨o, eo, nt, nl⟩ := ns_nt hn
  obtain ⟨vs, ⟨nn, pl⟩, dl, _⟩ := hacc
  refine ⟨m, hn, fun h' hs' => ⟨grow_finD g hC eo nt hs', den_list (S.new0 ha) ⟨_, hs'.extBut _ _ (by rintro rfl; rw [pl] at eo; cases eo; exact nl ⟨.inl rfl, _, _, rfl⟩) pl, rfl, nn, rfl⟩ (dl.imp fun b ob p l e => ⟨hs'.extBut b ob (by rintro rfl; rw [e] at eo; cases eo; exact nl l) e, p.2⟩)⟩⟩

/-- a comprehension whose list a local name takes -/
theorem s1_compRaw {y : Str} {py pos spos : Pos} {elt target iter : Expr} {ifs : List Expr} {rest : List Comprehension} {fi : Rho → Option (List PV)} {F : List PV → Cst → Option Cst} (j : Nat) (slf : List PV → Option Slot) (Lf : Addr → List Value → List Addr)
    (hsl : ∀ own h0 h a vs zs sl, h.PlainList a vs.toArray → h0.get? a = none → DenL (fun b => (Clean own b ∧ b ≠ a) ∧ R h0 b) h zs vs → N h0 vs → (∀ i, a ∉ own i) → slf zs = some sl → SlotOk (setO own j (Lf a vs)) h (Lf a vs) sl (.ref a) ∧ (∀ b, b ∈ Lf a vs → h0.get? b = none ∧ ∃ o, h.get? b = some o ∧ LT o) ∧ (Lf a vs).Nodup) (hN0 : ∀ h, N h [])
    (hy : vars[j]? = some (some y)) (hky : isL c.sc y = true) (hi : ItE D n c vars iter fi) (ok : compOk c scope vars vars' = true) (hl : LoopX D n (cSct c scope) vars' R N (.ListComp elt (⟨target, iter, ifs, 0⟩ :: rest) scope pos) 0 F)
    (hsw : ∀ env, InC c env → swapsWith (.ListComp elt (⟨target, iter, ifs, 0⟩ :: rest) scope pos) (some (.Name y py)) spos.line env = pure true)
    (hs : ∀ env x, foldedSetIterable iter env x = pure x) : S1 D n c vars (.Assign [.Name y py] (.ListComp elt (⟨target, iter, ifs, 0⟩ :: rest) scope pos) spos) (fun ρ => (compE vars.length fi F ρ).bind fun zs => (slf zs).map fun sl => .next (upd ρ j sl)) := fun env A own ρ s o hc hA S hf => by
  obtain ⟨zs, hz, hf⟩ := Option.bind_eq_some_iff.mp hf
  obtain ⟨sl, hsl0, rfl⟩ := Option.map_eq_some_iff.mp hf
  rw [exec_Assign_Name_used _ _ _ _ (hsw env hc)]
  refine wpAny_bind (wpAny_standAt (wpAny_bind ?_))
  show wpAny _ A (do let _ ← comprehension (.ListComp elt (⟨target, iter, ifs, 0⟩ :: rest) scope pos) scope env _ (newList []) false (eval iter env) (some (assign (.Name y py) env))) _ _ s
  refine wpAny_bind (wpAny_mono (comp_raw (use := some (assign (.Name y py) env)) (Q0 := fun _ s' => OutOk D env vars own s (.next (upd ρ j sl)) .next s') hN0 hi ok hl hs hc hA S hz fun C a s' hC ha g hn hacc => ?_) (fun _ s' hq => wpAny_pure (wpAny_pure hq)) fun _ _ q => q)
  obtain ⟨m, hn⟩ := hn
  obtain ⟨vs, pl, dl, nvs⟩ := hacc
  have nown : ∀ i, a ∉ own i := fun i m => by obtain ⟨o, e, _⟩ := S.oe i a m; rw [ha] at e; cases e
  obtain ⟨so, hL, hN⟩ := hsl own s.heap s'.heap a vs zs sl pl ha dl nvs nown hsl0
  refine wpAny_assign_Name (S.storeL (L := Lf a vs) (sl := sl) g hy (.inl (isL_kind hc hky)) hL hN so fun s2 S2 k2 klt gl => ?_)
  have gl := gl (isL_kind hc hky)
  have hCl : C ≠ env.locals := by
    rintro rfl
    obtain ⟨m, ⟨o, _, _, e, _⟩, _⟩ := S.vars; rw [hC] at e; cases e
  have hn2 : s2.heap.Ns C m := by
    have q := g.tab.nsne hn
    obtain ⟨o, es, ep, e, r⟩ := hn
    exact ⟨o, es, ep, gl.kp _ _ q hCl e, r⟩
  obtain ⟨oC, eC, nt, nl⟩ := ns_nt hn2
  refine ⟨m, hn2, fun h' hs' => ?_⟩
  have kb : ∀ b o, b ≠ C → s2.heap.get? b = some o → h'.get? b = some o := fun b o hb e => hs'.extBut b o hb e
  have t' : TabOk D.T h' := S2.tab.but eC nt kb
  refine ⟨_, S2.kpt (W := fun b => b = C) (s' := { s2 with heap := h' }) (fun b o _ w e => kb b o w e) t' (fun b o w e => ?_) (fun w => hCl w.symm) (fun x cc e w => ?_) (fun b o w e l => ?_), ?_⟩
  · subst w; rw [S.new0 hC] at e; cases e
  · obtain ⟨o, e2⟩ := S.ca x cc e
    rw [w, hC] at e2; cases e2
  · subst w; rw [eC] at e; cases e; exact nl l
  · refine ⟨⟨fun b o m w e => kb b o (by rintro rfl; rw [hC] at e; cases e) (k2.g.kp b o m w e), t', k2.g.os, k2.g.gk, k2.g.gs, k2.g.gb, fun b o w e => ?_⟩, k2.o⟩
    obtain ⟨o', e'⟩ := k2.g.ex b o w e
    exact ⟨o', kb b o' (by rintro rfl; rw [hC] at e; cases e) e'⟩
theorem s1_compN {y : Str} {py pos spos : Pos} {elt target iter : Expr} {ifs : List Expr} {rest : List Comprehension} {fi : Rho → Option (List PV)} {F : List PV → Cst → Option Cst} (j : Nat)
    (hy : vars[j]? = some (some y)) (hky : isL c.sc y = true) (hi : ItE D n c vars iter fi) (ok : compOk c scope vars vars' = true) (hl : LoopX D n (cSct c scope) vars' R N (.ListComp elt (⟨target, iter, ifs, 0⟩ :: rest) scope pos) 0 F)
    (hsw : ∀ env, InC c env → swapsWith (.ListComp elt (⟨target, iter, ifs, 0⟩ :: rest) scope pos) (some (.Name y py)) spos.line env = pure true)
    (hN0 : ∀ h, N h [] := by intro _; trivial) (hs : ∀ env x, foldedSetIterable iter env x = pure x := by intro _ _; rfl) : S1 D n c vars (.Assign [.Name y py] (.ListComp elt (⟨target, iter, ifs, 0⟩ :: rest) scope pos) spos) (assignN j (compE vars.length fi F)) := by
  have h := s1_compRaw (spos := spos) (py := py) j (fun zs => some (.ow zs)) (fun a _ => [a]) (fun own h0 h a vs zs sl pl ha dl _ nown e => by
    cases e
    refine ⟨⟨a, vs, rfl, rfl, pl, dl.to fun b o p _ _ i m => ?_⟩, fun b m => ?_, by simp⟩
    · unfold setO at m; split at m
      · exact p.1.2 (List.mem_singleton.mp m)
      · exact p.1.1 i m
    · rw [List.mem_singleton.mp m]; exact ⟨ha, LT.plain pl⟩) hN0 hy hky hi ok hl hsw hs
  have e : (fun ρ => (compE vars.length fi F ρ).bind fun zs => (some (Slot.ow zs)).map fun sl => Out.next (upd ρ j sl)) = assignN j (compE vars.length fi F) := by
    funext ρ; unfold assignN; cases compE vars.length fi F ρ <;> rfl
  rw [← e]; exact h
theorem s1_compF {y : Str} {py pos spos : Pos} {elt target iter : Expr} {ifs : List Expr} {rest : List Comprehension} {fi : Rho → Option (List PV)} {F : List PV → Cst → Option Cst} (j : Nat)
    (hy : vars[j]? = some (some y)) (hky : isL c.sc y = true) (hi : ItE D n c vars iter fi) (ok : compOk c scope vars vars' = true) (hl : LoopX D n (cSct c scope) vars' R N (.ListComp elt (⟨target, iter, ifs, 0⟩ :: rest) scope pos) 0 F)
    (hsw : ∀ env, InC c env → swapsWith (.ListComp elt (⟨target, iter, ifs, 0⟩ :: rest) scope pos) (some (.Name y py)) spos.line env = pure true)
    (hN0 : ∀ h, N h [] := by intro _; trivial) (hs : ∀ env x, foldedSetIterable iter env x = pure x := by intro _ _; rfl) : S1 D n c vars (.Assign [.Name y py] (.ListComp elt (⟨target, iter, ifs, 0⟩ :: rest) scope pos) spos) (assignF j fun ρ => (compE vars.length fi F ρ).map .list) := by
  have h := s1_compRaw (spos := spos) (py := py) j (fun zs => some (.fz (.list zs))) (fun a _ => []) (fun own h0 h a vs zs sl pl ha dl _ nown e => by
    cases e
    refine ⟨den_list (fun i m => ?_) pl.isList (dl.to fun b o p _ _ i m => ?_), fun b m => by simp at m, List.nodup_nil⟩
    · unfold setO at m; split at m
      · cases m
      · exact nown i m
    · unfold setO at m; split at m
      · cases m
      · exact p.1.1 i m) hN0 hy hky hi ok hl hsw hs
  have e : (fun ρ => (compE vars.length fi F ρ).bind fun zs => (some (Slot.fz (.list zs))).map fun sl => Out.next (upd ρ j sl)) = (assignF j fun ρ => (compE vars.length fi F ρ).map .list) := by
    funext ρ; unfold assignF; dsimp only; rw [Option.map_map]; cases compE vars.length fi F ρ <;> rfl
  rw [← e]; exact h

noncomputable def rowsOf : List PV → Option (List (List PV))
  | [] => some []
  | .list xs :: r => if xs.all PV.sc then (rowsOf r).map (xs :: ·) else none
  | _ => none
theorem rowsOf_ok {P P' : Addr → Prop} {h : Heap} : ∀ {zs : List PV} {yss : List (List PV)} {bs : List Addr}, rowsOf zs = some yss → DenL P h zs (bs.map Value.ref) → Rows P' h yss bs ∧ ∀ b ∈ bs, P b ∧ ∃ o, h.get? b = some o ∧ LT o
  | [], yss, [], e, d => by cases e; exact ⟨.nil, fun b m => nomatch m⟩
  | [], yss, b :: bs, e, d => by simp [DenL] at d
  | z :: zs, yss, [], e, d => by simp [DenL] at d
  | z :: zs, yss, b :: bs, e, d => by
    simp only [List.map_cons, DenL, List.cons.injEq] at d
    obtain ⟨v, vs, ⟨rfl, rfl⟩, d1, d2⟩ := d
    cases z with
    | list xs =>
      simp only [rowsOf] at e
      split at e
      · rename_i hs
        obtain ⟨r, hr, rfl⟩ := Option.map_eq_some_iff.mp e
        simp only [Den] at d1
        obtain ⟨a, ws, ea, p, l, dl⟩ := d1
        cases ea
        obtain ⟨rr, rb⟩ := rowsOf_ok (P' := P') hr d2
        exact ⟨.cons l (dl.sc hs) rr, fun b m => by
          rcases List.mem_cons.mp m with rfl | m
          · exact ⟨p, LT.list l⟩
          · exact rb b m⟩
      · cases e
    | tuple _ => simp [rowsOf] at e
    | none => simp [rowsOf] at e
    | bool _ => simp [rowsOf] at e
    | int _ => simp [rowsOf] at e
    | str _ => simp [rowsOf] at e
/-- a table: each of its lists is new -/
noncomputable def assign2N (j : Nat) (f : Rho → Option (List PV)) : Rho → Option Out := fun ρ => (f ρ).bind fun zs => (rowsOf zs).map fun yss => .next (upd ρ j (.ow2 yss))
noncomputable def refsOf (vs : List Value) : List Addr := vs.filterMap fun v => match v with
  | .ref a => some a
  | _ => none
theorem refsOf_map (bs : List Addr) : refsOf (bs.map Value.ref) = bs := by
  unfold refsOf; rw [List.filterMap_map]; exact List.filterMap_some
theorem s1_compT {y : Str} {py pos spos : Pos} {elt target iter : Expr} {ifs : List Expr} {rest : List Comprehension} {fi : Rho → Option (List PV)} {F : List PV → Cst → Option Cst} (j : Nat)
    (hy : vars[j]? = some (some y)) (hky : isL c.sc y = true) (hi : ItE D n c vars iter fi) (ok : compOk c scope vars vars' = true) (hl : LoopX D n (cSct c scope) vars' (fun _ _ => True) RefsN (.ListComp elt (⟨target, iter, ifs, 0⟩ :: rest) scope pos) 0 F)
    (hsw : ∀ env, InC c env → swapsWith (.ListComp elt (⟨target, iter, ifs, 0⟩ :: rest) scope pos) (some (.Name y py)) spos.line env = pure true)
    (hs : ∀ env x, foldedSetIterable iter env x = pure x := by intro _ _; rfl) : S1 D n c vars (.Assign [.Name y py] (.ListComp elt (⟨target, iter, ifs, 0⟩ :: rest) scope pos) spos) (assign2N j (compE vars.length fi F)) := by
  have h := s1_compRaw (spos := spos) (py := py) (N := RefsN) j (fun zs => (rowsOf zs).map .ow2) (fun a vs => a :: refsOf vs) (fun own h0 h a vs zs sl pl ha dl nv nown e => by
    obtain ⟨yss, hy, rfl⟩ := Option.map_eq_some_iff.mp e
    obtain ⟨bs, rfl, nd, nw⟩ := nv
    rw [refsOf_map]
    obtain ⟨rr, rb⟩ := rowsOf_ok (P' := Clean (setO own j (a :: bs))) hy dl
    refine ⟨⟨a, bs, rfl, rfl, pl.isList, rr⟩, fun b m => ?_, List.nodup_cons.mpr ⟨fun m => (rb a m).1.1.2 rfl, nd⟩⟩
    rcases List.mem_cons.mp m with rfl | m
    · exact ⟨ha, LT.plain pl⟩
    · exact ⟨nw b m, (rb b m).2⟩) (fun _ => ⟨[], rfl, .nil, fun _ m => nomatch m⟩) hy hky hi ok hl hsw hs
  have e : (fun ρ => (compE vars.length fi F ρ).bind fun zs => ((rowsOf zs).map Slot.ow2).map fun sl => Out.next (upd ρ j sl)) = assign2N j (compE vars.length fi F) := by
    funext ρ; unfold assign2N; congr 1; funext zs; rw [Option.map_map]; rfl
  rw [← e]; exact h
end
end Mine
end
section
namespace Mine

section
variable {D : Dt} {n : Nat} {c : Sct} {vars : List (Option Str)} {R : Heap → Addr → Prop} {N : Heap → List Value → Prop}

theorem codeAny_compStart1 {prog : Program} {w : World} {A : Around} {R : Except Value Flow → Shared → Prop} {s : Shared} {elt target iter : Expr} {ifs : List Expr} {g : Comprehension} {scope : Scope} {pos : Pos} {it acc : Value} {env : Env}
    (h0 : codeAny (model prog w) A (.compLoop (.ListComp elt [g, ⟨target, iter, ifs, 0⟩] scope pos) 1 it acc env) R s)
    (h : wpAny (model prog w) A (pyIter it) (fun it' s' => codeAny (model prog w) A (.compLoop (.ListComp elt [g, ⟨target, iter, ifs, 0⟩] scope pos) 1 it' acc env) R s')
      (notedBy (model prog w) A env fun x s' => R (.error x) s') s) :
    codeAny (model prog w) A (.compStart (.ListComp elt [g, ⟨target, iter, ifs, 0⟩] scope pos) 1 it acc env) R s := by
  refine codeAny_of_tree ?_
  show wpAny _ _ ((compStart (.ListComp elt [g, ⟨target, iter, ifs, 0⟩] scope pos) 1 it acc env).onRaise (fun x => do noteFrame x env; standAt theWindowsPlace)) _ _ s
  refine wpAny_notedAt ?_
  unfold compStart
  show wpAny _ _ (ask >>= _) _ _ s
  refine wpAny_bind (wpAny_askSetting (wpAny_ite ?_))
  split
  · first
      | exact wpAny_bind (wpAny_pure (wpAny_pure (And.intro rfl h0)))
      | exact wpAny_pure (And.intro rfl h0)
  · first
      | exact wpAny_bind (wpAny_rule (wpAny_bind (wpAny_standAt (wpAny_bind (wpAny_mono h (fun it' s' h' => wpAny_pure (And.intro rfl h')) fun _ _ x => x)))))
      | (refine wpAny_bind (wpAny_rule ?_); show wpAny _ _ (standAt iter.pos >>= _) _ _ s; exact wpAny_bind (wpAny_standAt (wpAny_bind (wpAny_mono h (fun it' s' h' => wpAny_pure (And.intro rfl h')) fun _ _ x => x))))

theorem gr_fin {V W : Addr → Prop} {G : Nat → Prop} {s0 s s' s'' : Shared} (g : Grow D.T s0 s) (x : GrI D.T (fun b => V b ∨ W b) G s s') (y : GrD D.T W G s' s'') (t : TabOk D.T s0.heap) (hW : ∀ b, W b → s0.heap.get? b = none) (hG : ∀ i, G i → s0.gens.size ≤ i) : Gr D.T V s0 s'' := by
  have k : Gr D.T V s0 s' := ((g.toI (G := G)).trans x t (fun _ f => f.elim) (V := V) (fun b o e m => m.elim id fun w => by rw [hW b w] at e; cases e) (fun _ h => h) (fun _ _ h => h)).toGr t (fun _ _ _ m => m) fun i hi h => by have := hG i h; grind
  refine ⟨fun b o n m e => y.kp b o n (fun w => by rw [hW b w] at e; cases e) (k.kp b o n m e), y.tab, y.os.trans k.os, fun i hi => (y.gk i (Nat.lt_of_lt_of_le hi k.gs) fun q => by have := hG i q; omega).trans (k.gk i hi), Nat.le_trans k.gs y.gs, fun b => y.gb (k.gb b), fun b o m e => ?_⟩
  obtain ⟨o', e'⟩ := k.ex b o m e
  by_cases q : TA D.T b
  · obtain ⟨ps, e2⟩ := y.tab.obj q; exact ⟨_, e2⟩
  · exact ⟨o', y.kp b o' q (fun w => by rw [hW b w] at e; cases e) e'⟩

noncomputable def em2 (e : Expr) (iter : Expr) : Env → Value → Sem Unit := fun env acc => do
  let x ← eval iter env
  standAt iter.pos
  let x ← foldedSetIterable iter env x
  let _ ← runOwn (.compStart e 1 (← holding [x] (pyIter x)) acc env) env
noncomputable def emL (fi : Rho → Option (List PV)) (F : List PV → Cst → Option Cst) : Rho → List PV → Option Cst := fun ρ ys => (fi ρ).bind fun zs => F zs (ρ, ys)
theorem em_two {elt target iter : Expr} {ifs : List Expr} {g : Comprehension} {scope : Scope} {pos : Pos} {fi : Rho → Option (List PV)} {F : List PV → Cst → Option Cst} {h0 : Heap}
    (hi : ItE D n c vars iter fi) (hl : LoopX D n c vars R N (.ListComp elt [g, ⟨target, iter, ifs, 0⟩] scope pos) 1 F)
    (hs : ∀ env x, foldedSetIterable iter env x = pure x := by intro _ _; rfl) : Em D n c vars h0 (R h0) (N h0) (em2 (.ListComp elt [g, ⟨target, iter, ifs, 0⟩] scope pos) iter) (emL fi F) := fun env A own ρ s a K ys st' hc hA S hh acc hK hf => by
  obtain ⟨zs, hz, hf⟩ := Option.bind_eq_some_iff.mp hf
  refine wpAny_bind (wpAny_mono (hi env A own ρ s zs hc hA S hz) (fun x s1 h1 => ?_) fun _ _ q => q)
  refine wpAny_bind (wpAny_standAt ?_)
  rw [hs]
  refine wpAny_bind (wpAny_pure (wpAny_bind (wpAny_holding (wpAny_mono h1 (fun it s2 h2 => ?_) fun _ _ q => q))))
  obtain ⟨g2, Q, fp, W, G, St, wk, hst, hfp, hG, hQ⟩ := h2
  let V : Addr → Prop := fun b => s.heap.get? b = none
  have hW : ∀ b, V b → s.heap.get? b = none := fun _ h => h
  have S2 := S.grow g2
  have acc2 : Acc (R h0) (N h0) own s2.heap K ys a := acc.imp rfl (fun _ _ m => m) fun b o l e => g2.kp b o (S.tab.ltne e l) id e
  have live : ∃ o, s.heap.get? a = some o := by obtain ⟨o, e, _⟩ := S.oe K a acc.1; exact ⟨o, e⟩
  have loc : ∃ o, s.heap.get? env.locals = some o ∧ ¬ LT o := by
    obtain ⟨m, ⟨o, _, _, e, hd, _⟩, _⟩ := S.vars
    exact ⟨o, e, fun l => l.notDict hd⟩
  have wi : WkIn D env own a Q fp W V W s2 := by
    refine ⟨fun b w => S.new0 (hW b w), fun x cc e w => ?_, fun b hb => ⟨?_, ?_⟩, fun b q => hQ b q, fun _ h => h, fun b e => g2.none S.tab e⟩
    · obtain ⟨o, e2⟩ := S.ca x cc e; rw [hW _ w] at e2; cases e2
    · rintro rfl
      obtain ⟨o, e, nl⟩ := loc
      rcases hfp _ hb with q | ⟨_, o', q, l⟩
      · rw [q] at e; cases e
      · rw [q] at e; cases e; exact nl l
    · rintro rfl
      obtain ⟨o, e⟩ := live
      rcases hfp _ hb with q | ⟨q, _⟩
      · rw [q] at e; cases e
      · exact q K acc.1
  refine wpAny_bind (wpAny_runOwn (h := none) ?_ (by intro x; cases x))
  have fin : ∀ {R' : Result → Shared → Prop}, (∀ s', (∃ own', StE D env vars own' st'.1 s' ∧ Acc (R h0) (N h0) own' s'.heap K st'.2 a ∧ Gr D.T (fun b => b = env.locals ∨ b = a) s s' ∧ (∀ j, NoL c vars j → own' j = own j) ∧ (∀ j b, b ∈ own' j → b ∈ own j)) → R' (.ok .next) s') → codeAny D.M A (.compLoop (.ListComp elt [g, ⟨target, iter, ifs, 0⟩] scope pos) 1 it (.ref a) env) R' s2 := fun hR => by
    refine hl env A own ρ s2 it a K ys zs Q fp W V W G St st' h0 _ hc hA S2 (fun b e => hh b (g2.none S.tab e)) acc2 hK wk hst wi hf fun own' s'' s' S' acc' gi gd ho1 ho2 => hR s' ?_
    have gi' : GrI D.T (fun b => (b = env.locals ∨ b = a) ∨ V b) G s2 s'' := gi.trans (W' := No) (G' := fun _ => False) (Gr.refl gi.tab).toI S2.tab (fun b h => by
      rcases h with h | h | h
      · exact .inl (.inl h)
      · exact .inl (.inr h)
      · exact .inr h) (fun _ _ _ h => h.elim) (fun _ h => h) (fun _ _ h => h.elim)
    exact ⟨own', S', acc', gr_fin (V := fun b => b = env.locals ∨ b = a) g2 gi' gd S.tab hW hG, ho1, ho2⟩
  exact codeAny_compStart1 (fin fun _ h => wpAny_pure h) (wk.self fp W 0 s2 _ _ hst (fin fun _ h => wpAny_pure h))

theorem loop_two {elt target iter t2 i2 : Expr} {ifs : List Expr} {scope : Scope} {pos : Pos} {u : PV → Rho → Option Rho} {fi : Rho → Option (List PV)} {F : List PV → Cst → Option Cst} (ht : TgtC D c vars target u) (hi : ItE D n c vars i2 fi)
    (hl : LoopX D n c vars R N (.ListComp elt [⟨target, iter, [], 0⟩, ⟨t2, i2, ifs, 0⟩] scope pos) 1 F) (hs : ∀ env x, foldedSetIterable i2 env x = pure x := by intro _ _; rfl) :
    LoopX D n c vars R N (.ListComp elt [⟨target, iter, [], 0⟩, ⟨t2, i2, ifs, 0⟩] scope pos) 0 (compG u yesF (emL fi F)) := fun cenv A own ρ s it a K ys xs Q fp W V N0 G St st' h0 R' hc hA S hh hacc hK wk hst wi hf hR =>
  comp_gen hc hA S hh hacc hK wk hst wi ht if_none (em_two hi hl hs) hf (p := iter.pos) (fun it acc env => by unfold em2; simp only [LawfulMonad.bind_assoc, LawfulMonad.pure_bind]; rfl) (fun _ => ⟨rfl, rfl, rfl⟩) hR
end
end Mine
end
section
namespace Mine
theorem getAny_fz {i : Nat} {ρ : Rho} {x : PV} (h : ρ i = some (.fz x)) : getAny i ρ = some x := by simp only [getAny, h]
theorem getAny_ow {i : Nat} {ρ : Rho} {x : List PV} (h : ρ i = some (.ow x)) : getAny i ρ = some (.list x) := by simp only [getAny, h]
theorem getFz_fz {i : Nat} {ρ : Rho} {x : PV} (h : ρ i = some (.fz x)) : getFz i ρ = some x := by simp only [getFz, h]

theorem seq_next {f g : Rho → Option Out} {ρ ρ' : Rho} (h : f ρ = some (.next ρ')) : seqF f g ρ = g ρ' := by unfold seqF; rw [h]; rfl
theorem seq_ret {f g : Rho → Option Out} {ρ : Rho} {x : PV} (h : f ρ = some (.ret x)) : seqF f g ρ = some (.ret x) := by unfold seqF; rw [h]; rfl
theorem if_yes {t : Rho → Option Bool} {a b : Rho → Option Out} {ρ : Rho} (h : t ρ = some true) : ifF t a b ρ = a ρ := by unfold ifF; rw [h]; rfl
theorem if_no {t : Rho → Option Bool} {a b : Rho → Option Out} {ρ : Rho} (h : t ρ = some false) : ifF t a b ρ = b ρ := by unfold ifF; rw [h]; rfl
theorem assign_ok {i : Nat} {f : Rho → Option PV} {ρ : Rho} {x : PV} (h : f ρ = some x) : assignF i f ρ = some (.next (upd ρ i (.fz x))) := by unfold assignF; rw [h]; rfl
theorem aug_ok {i : Nat} {op : Operator} {f : Rho → Option PV} {ρ : Rho} {a b r : Int} (ha : ρ i = some (.fz (.int a))) (h : f ρ = some (.int b)) (hv : intV op a b = some r) (hop : op = .Add ∨ op = .Sub ∨ op = .LShift ∨ op = .RShift) : augF i op f ρ = some (.next (upd ρ i (.fz (.int r)))) := by
  unfold augF; rw [ha]; simp only [h, Option.bind_some, if_pos hop, hv, Option.map_some]
theorem ret_ok {f : Rho → Option PV} {ρ : Rho} {x : PV} (h : f ρ = some x) : retF f ρ = some (.ret x) := by unfold retF; rw [h]; rfl

theorem seqN {f g : Rho → Option Out} {ρ ρ' : Rho} {c : Option Out} (h : f ρ = some (.next ρ')) (k : g ρ' = c) : seqF f g ρ = c := (seq_next h).trans k
theorem seqA {i : Nat} {f : Rho → Option PV} {g : Rho → Option Out} {ρ : Rho} {x : PV} {c : Option Out} (h : f ρ = some x) (k : g (upd ρ i (.fz x)) = c) : seqF (assignF i f) g ρ = c := seqN (assign_ok h) k
theorem binI {op : Operator} {f g : Rho → Option PV} {ρ : Rho} {a b c : Int} (h1 : f ρ = some (.int a)) (h2 : g ρ = some (.int b)) (h : intV op a b = some c) : binF op f g ρ = some (.int c) := by
  unfold binF; rw [h1, h2]
  show (intV op a b).map PV.int = _
  rw [h]; rfl
theorem argsC {f : Rho → Option PV} {fs : List (Rho → Option PV)} {ρ : Rho} {x : PV} {xs : List PV} (h : f ρ = some x) (k : argsF fs ρ = some xs) : argsF (f :: fs) ρ = some (x :: xs) := by
  rw [argsF, h, k]; rfl
theorem callI {F : List PV → Option PV} {fs : List (Rho → Option PV)} {ρ : Rho} {xs : List PV} {x : PV} (h : argsF fs ρ = some xs) (k : F xs = some x) : callF F fs ρ = some x := by
  unfold callF; rw [h]; exact k
theorem tupI {fs : List (Rho → Option PV)} {ρ : Rho} {xs : List PV} (h : argsF fs ρ = some xs) (hl : xs.length ≤ 1000) (hs : xs.all PV.sc = true) : tupF fs ρ = some (.tuple xs) := by
  unfold tupF; rw [h]; exact if_pos ⟨hl, hs⟩
theorem assignTI {u : PV → Rho → Option Rho} {f : Rho → Option PV} {ρ ρ' : Rho} {x : PV} (h : f ρ = some x) (k : u x ρ = some ρ') : assignTF u f ρ = some (.next ρ') := by
  unfold assignTF; rw [h]
  show (u x ρ).map Out.next = _
  rw [k]; rfl
theorem swapI {is : List Nat} {f : Rho → Option PV} {ρ ρ' : Rho} {xs : List PV} (h : f ρ = some (.tuple xs)) (k : updL is.reverse xs.reverse ρ = some ρ') : swapF is f ρ = some (.next ρ') := by
  unfold swapF; rw [h]
  show (updL is.reverse xs.reverse ρ).map Out.next = _
  rw [k]; rfl
theorem cmpI {op : CmpOp} {f g : Rho → Option PV} {ρ : Rho} {a b : Int} {r : Bool} (h1 : f ρ = some (.int a)) (h2 : g ρ = some (.int b)) (h : cmpII a b op = some r) : cmpF op f g ρ = some r := by
  unfold cmpF; rw [h1, h2]; exact h
theorem cmpEqI {f g : Rho → Option PV} {ρ : Rho} {a b : Int} {r : Bool} (h1 : f ρ = some (.int a)) (h2 : g ρ = some (.int b)) (h : (a == b) = r) : cmpF .Eq f g ρ = some r := cmpI h1 h2 (congrArg some h)
theorem cmpLtI {f g : Rho → Option PV} {ρ : Rho} {a b : Int} {r : Bool} (h1 : f ρ = some (.int a)) (h2 : g ρ = some (.int b)) (h : decide (a < b) = r) : cmpF .Lt f g ρ = some r := cmpI h1 h2 (congrArg some h)
theorem seq_nat {i n : Nat} (h : i < n) : seqIndex? (i : Int) n = some i := by
  unfold seqIndex?
  rw [if_neg (Int.not_lt.mpr (Int.natCast_nonneg i))]
  exact if_pos (by rw [decide_eq_true (Int.natCast_nonneg i), decide_eq_true (Int.ofNat_lt.mpr h)]; rfl)
theorem tstI {f : Rho → Option PV} {ρ : Rho} {x : PV} {r : Bool} (h : f ρ = some x) (k : truthV x = some r) : tstF f ρ = some r := by
  unfold tstF; rw [h]; exact k
theorem assignN_ok {i : Nat} {f : Rho → Option (List PV)} {ρ : Rho} {x : List PV} (h : f ρ = some x) : assignN i f ρ = some (.next (upd ρ i (.ow x))) := by unfold assignN; rw [h]; rfl
theorem subI {f g : Rho → Option PV} {ρ : Rho} {x y z : PV} (h1 : f ρ = some x) (h2 : g ρ = some y) (h : subV x y = some z) : subF f g ρ = some z := by
  unfold subF; rw [h1, h2]; exact h
theorem subI_nat {f g : Rho → Option PV} {ρ : Rho} {xs : List PV} {i : Nat} {z : PV} (h1 : f ρ = some (.list xs)) (h2 : g ρ = some (.int (i : Int))) (hl : xs.length ≤ 1000000) (h : xs[i]? = some z) : subF f g ρ = some z := subI h1 h2 (by
  have hi : i < xs.length := (List.getElem?_eq_some_iff.mp h).1
  show (if _ then Option.bind _ _ else _) = _
  rw [if_pos ⟨by omega, by omega⟩, seq_nat hi]; exact h)
theorem ifY {t : Rho → Option Bool} {a b : Rho → Option Out} {ρ : Rho} {c : Option Out} (h : t ρ = some true) (k : a ρ = c) : ifF t a b ρ = c := (if_yes h).trans k
theorem ifN {t : Rho → Option Bool} {a b : Rho → Option Out} {ρ : Rho} {c : Option Out} (h : t ρ = some false) (k : b ρ = c) : ifF t a b ρ = c := (if_no h).trans k
theorem augI {i : Nat} {op : Operator} {f : Rho → Option PV} {ρ : Rho} {a b r : Int} (ha : ρ i = some (.fz (.int a))) (h : f ρ = some (.int b)) (hv : intV op a b = some r) (hop : (op = .Add ∨ op = .Sub) ∨ op = .LShift ∨ op = .RShift) : augF i op f ρ = some (.next (upd ρ i (.fz (.int r)))) := aug_ok ha h hv (or_assoc.mp hop)
theorem while_done {t : Rho → Option Bool} {b : Rho → Option Out} {k : Nat} {ρ : Rho} (h : t ρ = some false) : whileF t b (k + 1) ρ = some (.next ρ) := by
  conv => lhs; unfold whileF
  rw [h]; rfl
theorem while_more {t : Rho → Option Bool} {b : Rho → Option Out} {k : Nat} {ρ ρ' : Rho} (h : t ρ = some true) (hb : b ρ = some (.next ρ')) : whileF t b (k + 1) ρ = whileF t b k ρ' := by
  conv => lhs; unfold whileF
  rw [h, Option.bind_some, if_pos rfl, hb]; rfl
end Mine
end
section
namespace Mine

section
variable {M : Model} {A : Around} {R : GenEnd} {Y : Protocol} {n : Nat} {s₀ : Shared} {c : Code} {fs : List Frame} {s : Shared} {env : Env}
  {K : Flow → Sem Fin} {H : Value → Sem Fin} {gd : Bool → Bool} {lv : List Value → List Value}

/-- where a loop comes back to -/
noncomputable def backK (env : Env) (K : Flow → Sem Fin) (H : Value → Sem Fin) (gd : Bool → Bool) (lv : List Value → List Value) : Result → Sem Fin := fun r => ((match r with | .ok f => (.pure f : Sem Flow) | .error e => .raise e).onRaise fun (x : Value) => do
        if (← field x 1) == Value.none then unsupported "frame.own-activation:exception-without-traceback"
        setFlight x env.frame).wrap K H gd lv
theorem seg_For {target iter : Expr} {body orelse : List Stmt} {pos : Pos} (hs : ∀ x, foldedSetIterable iter env x = pure x)
    (h : wpAny M (A.over c fs) (eval iter env) (fun x s1 => wpAny M (A.over c fs) (pyIter x) (fun it s2 =>
        ∀ p, Seg M A R Y n s₀ (.forLoop target it body orelse env) (M.den (.forLoop target it body orelse env)) (.ret (backK env K H gd lv) none (gd false) (lv []) c p [] :: fs) s2) (fun _ _ => False) s1) (fun _ _ => False) s) :
    Seg M A R Y n s₀ c ((exec (.For target iter body orelse pos) env).wrap K H gd lv) fs s := by
  rw [exec_For]
  show Seg M A R Y n s₀ c (.at pos fun _ => ((eval iter env >>= fun x => foldedSetIterable iter env x >>= fun x => (standAt iter.pos >>= fun _ => holding [x] (pyIter x) >>= fun it => runOwn (.forLoop target it body orelse env) env))).wrap K H gd lv) fs s
  refine seg_at ?_
  rw [Sem.bind_eq_wrap', Sem.wrap_wrap]
  refine seg_wrap (wpAny_mono h (fun x s' h' => ?_) fun _ _ x => x.elim)
  rw [hs x]
  refine seg_at ?_
  show Seg M A R Y n s₀ c ((holding [x] (pyIter x) >>= fun it => runOwn (.forLoop target it body orelse env) env).wrap K H gd lv) fs s'
  rw [Sem.bind_eq_wrap', Sem.wrap_wrap]
  refine seg_wrap (wpAny_holding (wpAny_mono h' (fun it s2 h2 => ?_) fun _ _ x => x.elim))
  exact seg_call h2
end

section
variable {prog : Program} {w : World} {A : Around} {R : GenEnd} {Y : Protocol} {n : Nat} {s₀ : Shared} {fs : List Frame} {s : Shared} {env : Env}
noncomputable def loopK (target : Expr) (it : Value) (body orelse : List Stmt) (env : Env) : Flow → Sem Fin := fun f => match f with
  | .next | .cont => .pure (.again (.forLoop target it body orelse env))
  | .brk => .pure (.done .next)
  | .ret v => .pure (.done (.ret v))
noncomputable def loopH (env : Env) : Value → Sem Fin := fun e => (do noteFrame e env; theTreesLotGoes e : Sem Unit).wrap (fun _ => .raise e) .raise id id
theorem seg_forLoop {target : Expr} {it : Value} {body orelse : List Stmt}
    (h : wpAny (model prog w) (A.over (.forLoop target it body orelse env) fs) (pyNext it) (fun r s' => match r with
        | none => Seg (model prog w) A R Y n s₀ (.block orelse env) ((model prog w).den (.block orelse env)) fs s'
        | some v => wpAny (model prog w) (A.over (.forLoop target it body orelse env) fs) (letOwnedTupleGo target it v) (fun _ s1 => wpAny (model prog w) (A.over (.forLoop target it body orelse env) fs) (assign target env v) (fun _ s2 =>
            Seg (model prog w) A R Y n s₀ (.forLoop target it body orelse env) ((execs body env).wrap (loopK target it body orelse env) (loopH env) id id) fs s2) (fun _ _ => False) s1) (fun _ _ => False) s') (fun _ _ => False) s) :
    Seg (model prog w) A R Y n s₀ (.forLoop target it body orelse env) ((model prog w).den (.forLoop target it body orelse env)) fs s := by
  show Seg _ A R Y n s₀ _ ((forTurn target it body orelse env).onRaise (fun x => do noteFrame x env; theTreesLotGoes x)) fs s
  unfold forTurn
  rw [Sem.onRaise_eq_wrap, Sem.bind_eq_wrap', Sem.wrap_wrap]
  refine seg_wrap (wpAny_standAt ?_)
  dsimp only
  rw [Sem.bind_eq_wrap', Sem.wrap_wrap]
  refine seg_wrap (wpAny_onRaise (wpAny_mono h (fun r s' h' => ?_) fun _ _ x => x.elim))
  cases r with
  | none => exact seg_again rfl h'
  | some v =>
    dsimp only
    rw [Sem.bind_eq_wrap', Sem.wrap_wrap]
    refine seg_wrap (wpAny_mono h' (fun _ s1 h1 => ?_) fun _ _ x => x.elim)
    rw [Sem.bind_eq_wrap', Sem.wrap_wrap]
    refine seg_wrap (wpAny_mono h1 (fun _ s2 h2 => ?_) fun _ _ x => x.elim)
    rw [Sem.bind_eq_wrap', Sem.wrap_wrap]
    rw [Sem.wrap_congr (execs body env) _ _ (K' := loopK target it body orelse env) (H' := loopH env) (fun f => by cases f <;> rfl)
        (fun e => by first | exact Sem.bind_eq_wrap _ _ | (show (do noteFrame e env; theTreesLotGoes e : Sem Unit).bind (fun _ => .raise e) = _; rw [Sem.bind_eq_wrap]; rfl))]
    exact h2
theorem seg_block_nil (h : Seg (model prog w) A R Y n s₀ (.block [] env) (.pure (.done .next)) fs s) : Seg (model prog w) A R Y n s₀ (.block [] env) ((model prog w).den (.block [] env)) fs s := h
end

section
variable {M : Model} {A : Around} {R : GenEnd} {Y : Protocol} {n : Nat} {s₀ : Shared} {c : Code} {fs : List Frame} {s : Shared} {env : Env}
  {K : Flow → Sem Fin} {H : Value → Sem Fin} {gd : Bool → Bool} {lv : List Value → List Value}
theorem seg_If {test : Expr} {body orelse : List Stmt} {pos : Pos}
    (h : wpAny M (A.over c fs) (isTrue test env (eval test env)) (fun b s' => if b = true then Seg M A R Y n s₀ c ((execs body env).wrap K H gd lv) fs s' else Seg M A R Y n s₀ c ((execs orelse env).wrap K H gd lv) fs s') (fun _ _ => False) s) :
    Seg M A R Y n s₀ c ((exec (.If test body orelse pos) env).wrap K H gd lv) fs s := by
  rw [exec_If]
  show Seg M A R Y n s₀ c (.at pos fun _ => (isTrue test env (eval test env) >>= fun b => if b = true then execs body env else execs orelse env).wrap K H gd lv) fs s
  refine seg_at ?_
  rw [Sem.bind_eq_wrap', Sem.wrap_wrap]
  refine seg_wrap (wpAny_mono h (fun b s' h' => ?_) fun _ _ x => x.elim)
  cases b with
  | true => rw [if_pos rfl] at h' ⊢; exact h'
  | false => rw [if_neg (by decide)] at h' ⊢; exact h'
end

theorem TabOk.butW {T : List Tb} {h h' : Heap} {W : Addr → Prop} (x : TabOk T h) (hn : ∀ a o, W a → h.get? a = some o → NT o) (k : ∀ b o, ¬ W b → h.get? b = some o → h'.get? b = some o) : TabOk T h' := by
  have kt : ∀ t ∈ T, ∀ ps, h.get? t.P = some (tabObj ps) → h'.get? t.P = some (tabObj ps) := fun t ht ps e => k _ _ (fun w => (hn _ _ w e _ rfl).2.1 rfl) e
  intro t ht
  obtain ⟨⟨o, vs, file, tf, flags, tg, inF, text, tt, e, e2, e3, e4, r⟩, b⟩ := x t ht
  have hc : CodeHd h' t.c t.P := ⟨o, vs, file, tf, flags, tg, inF, text, tt, k _ _ (fun w => by
    have := (hn _ _ w e _ e3).1
    have h11 := (Array.getElem?_eq_some_iff.mp e4).1
    omega) e, e2, e3, e4, r⟩
  exact ⟨hc, b.elim (fun e => .inl (kt t ht _ e)) fun ⟨c', e, c, oc, ws, tk, f1, f2, f3, f4⟩ => .inr ⟨c', kt t ht _ e, c, oc, ws, tk, f1, k _ _ (fun w => (hn _ _ w f2 _ f3).2.2 _ _ f4) f2, f3, f4⟩⟩

/-- the signs of a text, a backslash and the sign behind it as one -/
noncomputable def escGo : Bool → Nat → List Nat → List PV
  | esc, i, [] => if esc then [.tuple [.int ((i : Int) - 1), .str "\\"]] else []
  | esc, i, c :: cs => if esc then .tuple [.int i, .str ("\\" ++ (⟨#[c]⟩ : Str))] :: escGo false (i + 1) cs
    else if (⟨#[c]⟩ : Str) == "\\" then escGo true (i + 1) cs else .tuple [.int i, .str ⟨#[c]⟩] :: escGo false (i + 1) cs
noncomputable def escV (x : Str) : List PV := escGo false 0 x.cps.toList

section
variable {D : Dt} {c : Sct} {vars : List (Option Str)}

noncomputable def TupN (D : Dt) (c : Sct) (vars : List (Option Str)) (e : Expr) (f : Rho → Option PV) : Prop :=
  ∀ (env : Env) (A : Around) (own : Own) (ρ : Rho) (s : Shared) (x : PV), InC c env → OkA 0 A → StE D env vars own ρ s → f ρ = some x →
    wpAny D.M A (eval e env) (fun v s' => Grow D.T s s' ∧ Den (fun a => s.heap.get? a = none ∧ ∀ b o, s.heap.get? b = some o → b < a) s'.heap x v) (fun _ _ => False) s
theorem tup_new {es : List Expr} {m : Nat} {pos : Pos} {fs : List (Rho → Option PV)} (ha : ArgsX D 0 c vars es fs) : TupN D c vars (.Tuple es m pos) (tupF fs) := fun env A own ρ s x hc hA S hf => by
  obtain ⟨xs, hx, hf⟩ := Option.bind_eq_some_iff.mp hf
  obtain ⟨hq, rfl⟩ := ite_some hf
  refine wpAny_Tuple (wpAny_mono (args_ok ha hc hA S hx) (fun vs s1 hd => ?_) fun _ _ y => y)
  exact ⟨by rw [hd.2.length, sizeLine_eq]; omega, hd.1.then (.of hd.1.tab fun b o e => Heap.get?_push_of_some _ e), den_tup ⟨hd.1.none S.tab (fresh_at _), fun b o e => by obtain ⟨o', e'⟩ := hd.1.exAll S.tab e; exact Heap.lt_size e'⟩ ⟨_, Heap.get?_push_size _ rfl, rfl, _, rfl⟩ (hd.2.sc hq.2)⟩

theorem StE.dropOwn {env : Env} {own : Own} {ρ : Rho} {s : Shared} (S : StE D env vars own ρ s) (h : ∀ i sl, ρ i = some sl → ∃ y, sl = .fz y) : StE D env vars (fun _ => []) ρ s := by
  obtain ⟨m, hm, hv⟩ := S.vars
  refine ⟨S.ok, S.base, S.tab, S.eo, S.gn, S.vd, fun a ma => S.mn a (ma.imp id (Or.imp id fun ⟨i, h⟩ => (nomatch h))), fun i a m => (nomatch m), fun i j a m => (nomatch m), fun i => .nil, fun i _ _ => rfl, S.ce, S.ca, S.cd, m, hm, fun i x sl hx hr => ?_⟩
  obtain ⟨v, v1, v2⟩ := hv i x sl hx hr
  obtain ⟨y, rfl⟩ := h i sl hr
  exact ⟨v, v1, v2.to fun b o _ _ _ j m => (nomatch m)⟩

theorem GrD.refl {T : List Tb} {W : Addr → Prop} {G : Nat → Prop} {s : Shared} (t : TabOk T s.heap) : GrD T W G s s := ⟨fun _ _ _ _ e => e, t, rfl, fun _ _ _ => rfl, Nat.le_refl _, id⟩
theorem GrD.then {T : List Tb} {W : Addr → Prop} {G : Nat → Prop} {s s' s'' : Shared} (x : GrD T W G s s') (y : GrD T W G s' s'') : GrD T W G s s'' :=
  ⟨fun b o n m e => y.kp b o n m (x.kp b o n m e), y.tab, y.os.trans x.os, fun i hi h => (y.gk i (Nat.lt_of_lt_of_le hi x.gs) h).trans (x.gk i hi h), Nat.le_trans x.gs y.gs, fun b => y.gb (x.gb b)⟩
theorem Gr.toD {T : List Tb} {W V : Addr → Prop} {G : Nat → Prop} {s s' : Shared} (x : Gr T W s s') (h : ∀ b, W b → V b) : GrD T V G s s' :=
  ⟨fun b o n m e => x.kp b o n (fun w => m (h b w)) e, x.tab, x.os, fun i hi _ => x.gk i hi, x.gs, x.gb⟩
end

section
variable {prog : Program} {w : World} {A : Around} {E : Value → Shared → Prop} {s : Shared}
/-- an object of fields, of a type -/
noncomputable def LiveAt (h : Heap) (b : Addr) (ty : String) : Prop := ∃ o vs, h.get? b = some o ∧ o.cls = .type ty ∧ o.data = .fields vs
theorem end_ascii {it : Addr} {x : Str} {t : Tok} {i : Nat} {Q : Value → Shared → Prop} (hh : A.handled = none) (hit : s.heap.IsStrIter it "str_ascii_iterator" x t i) (hx : x.cps[i]? = none)
    (hE : ∀ h' e, Heap.ExtBut it s.heap h' → (∃ o, h'.get? e = some o ∧ o.cls = .type "StopIteration") → LiveAt h' it "str_ascii_iterator" → E (.ref e) { s with heap := h' }) :
    wpAny (model prog w) A (Builtin.SmallTypes.nextOf (.ref it)) Q E s := by
  obtain ⟨o, ho, hc, hd⟩ := id hit
  unfold Builtin.SmallTypes.nextOf
  refine wpAny_bind (wpAny_callSpecial?_slot (name := Str.ofString "__next__") hit.typeIs F.slot_str_ascii_iterator_next (wpAny_call_entry F.slot_str_ascii_iterator_next hit.typeIs F.entry_str_ascii_iterator_next ?_ (F.args_str_ascii_iterator_next_1 _)))
  show wpAny _ _ (field (.ref it) 0 >>= _) _ _ s
  refine wpAny_bind (wpAny_field ho hd (x := .str x t) rfl ?_)
  show wpAny _ _ (field (.ref it) 1 >>= _) _ _ s
  refine wpAny_bind (wpAny_field ho hd (x := .int i 0) rfl ?_)
  simp only [Int.toNat_natCast, hx]
  refine wpAny_bind (wpAny_rule (wpAny_bind (wpAny_setField ho hd (by exact size_pos_of_not_empty rfl) (wpAny_bind (wpAny_letGo ?_)))))
  show wpAny _ _ (newExc (.type "StopIteration") [] >>= _) _ _ _
  refine wpAny_bind ?_
  simp only [newExc, newTuple]
  refine wpAny_bind (wpAny_newObj_type ?_ (by size_fits))
  refine wpAny_bind (m := firstArgMember _ _) (wpAny_of_eq (a := Value.none) (by first | rfl | (simp only [firstArgMember]; rfl)) ?_)
  refine wpAny_newObj_type ?_ (by size_fits)
  simp only [raiseNew]
  refine wpAny_bind (wpAny_handled ?_)
  first | rw [show A.in1.handled = none from hh] | rw [hh]
  refine wpAny_bind (wpAny_pure (wpAny_throw ?_))
  refine hE _ _ (((Heap.SameBut.update ..).extBut.push _).push _) ⟨_, Heap.get?_push_size _ rfl, rfl⟩ ⟨_, _, Heap.get?_push_of_some _ (Heap.get?_push_of_some _ (Heap.get?_update_self _ ho (Obj.isFreed_of_fields (Obj.data_mapFields hd _)))), (Obj.cls_mapFields ..).trans hc, Obj.data_mapFields hd _⟩
theorem end_wide {it : Addr} {x : Str} {t : Tok} {i : Nat} {Q : Value → Shared → Prop} (hh : A.handled = none) (hit : s.heap.IsStrIter it "str_iterator" x t i) (hx : x.cps[i]? = none)
    (hE : ∀ h' e, Heap.ExtBut it s.heap h' → (∃ o, h'.get? e = some o ∧ o.cls = .type "StopIteration") → LiveAt h' it "str_iterator" → E (.ref e) { s with heap := h' }) :
    wpAny (model prog w) A (Builtin.SmallTypes.nextOf (.ref it)) Q E s := by
  obtain ⟨o, ho, hc, hd⟩ := id hit
  unfold Builtin.SmallTypes.nextOf
  refine wpAny_bind (wpAny_callSpecial?_slot (name := Str.ofString "__next__") hit.typeIs F.slot_str_iterator_next (wpAny_call_entry F.slot_str_iterator_next hit.typeIs F.entry_str_iterator_next ?_ (F.args_str_iterator_next_1 _)))
  show wpAny _ _ (field (.ref it) 0 >>= _) _ _ s
  refine wpAny_bind (wpAny_field ho hd (x := .str x t) rfl ?_)
  show wpAny _ _ (field (.ref it) 1 >>= _) _ _ s
  refine wpAny_bind (wpAny_field ho hd (x := .int i 0) rfl ?_)
  simp only [Int.toNat_natCast, hx]
  refine wpAny_bind (wpAny_rule (wpAny_bind (wpAny_setField ho hd (by exact size_pos_of_not_empty rfl) (wpAny_bind (wpAny_letGo ?_)))))
  show wpAny _ _ (newExc (.type "StopIteration") [] >>= _) _ _ _
  refine wpAny_bind ?_
  simp only [newExc, newTuple]
  refine wpAny_bind (wpAny_newObj_type ?_ (by size_fits))
  refine wpAny_bind (m := firstArgMember _ _) (wpAny_of_eq (a := Value.none) (by first | rfl | (simp only [firstArgMember]; rfl)) ?_)
  refine wpAny_newObj_type ?_ (by size_fits)
  simp only [raiseNew]
  refine wpAny_bind (wpAny_handled ?_)
  first | rw [show A.in1.handled = none from hh] | rw [hh]
  refine wpAny_bind (wpAny_pure (wpAny_throw ?_))
  refine hE _ _ (((Heap.SameBut.update ..).extBut.push _).push _) ⟨_, Heap.get?_push_size _ rfl, rfl⟩ ⟨_, _, Heap.get?_push_of_some _ (Heap.get?_push_of_some _ (Heap.get?_update_self _ ho (Obj.isFreed_of_fields (Obj.data_mapFields hd _)))), (Obj.cls_mapFields ..).trans hc, Obj.data_mapFields hd _⟩
theorem enum_end {e it : Addr} {x : Str} {t : Tok} {i : Int} {old : Value} {Q : Option Value → Shared → Prop} (hh : A.handled = none)
    (he : IsEnum s.heap e it i old) (hst : s.heap.IsStrIter it (strIterType x) x t x.cps.size)
    (hQ : ∀ h', Heap.ExtBut it s.heap h' → LiveAt h' it (strIterType x) → Q none { s with heap := h' }) : wpAny (model prog w) A (pyNext (.ref e)) Q E s := by
  have hT : s.TypeIs (.ref e) "enumerate" := ⟨_, he, rfl⟩
  unfold pyNext
  refine wpAny_bind (wpAny_attempt (wpAny_callSpecial?_slot (name := Str.ofString "__next__") hT F.slot_enumerate_next (wpAny_call_entry F.slot_enumerate_next hT F.entry_enumerate_next ?_ (F.args_enumerate_next_1 _))))
  show wpAny _ _ (field (.ref e) 2 >>= _) _ _ _
  refine wpAny_bind (wpAny_field he rfl (x := .ref it) rfl (wpAny_bind ?_))
  have go : ∀ (h' : Heap) (b : Addr), Heap.ExtBut it s.heap h' → (∃ o, h'.get? b = some o ∧ o.cls = .type "StopIteration") → LiveAt h' it (strIterType x) → wpAny (model prog w) A (isInstance (.ref b) (.type "StopIteration")) (fun r s' => r = true ∧ Q none s') (fun _ _ => False) { s with heap := h' } := fun h' b hx ⟨o, ho, hc⟩ hl =>
    wpAny_isInstance (T := "StopIteration") (b := true) ⟨o, ho, hc⟩ isSubtype_stop ⟨rfl, hQ h' hx hl⟩
  unfold strIterType at hst go
  split at hst
  · rename_i q
    rw [if_pos q] at go
    refine end_ascii (A := A.in1) hh hst (by exact Array.getElem?_size) fun h' b hx hc hl => wpAny_bind (wpAny_mono (go h' b hx hc hl) (fun r s' hr => ?_) fun _ _ (q : False) => q.elim)
    rw [hr.1]; exact wpAny_pure hr.2
  · rename_i q
    rw [if_neg q] at go
    refine end_wide (A := A.in1) hh hst (by exact Array.getElem?_size) fun h' b hx hc hl => wpAny_bind (wpAny_mono (go h' b hx hc hl) (fun r s' hr => ?_) fun _ _ (q : False) => q.elim)
    rw [hr.1]; exact wpAny_pure hr.2
end

section
variable {D : Dt} {c : Sct} {vars : List (Option Str)} {env : Env}
/-- the generator's frame, what does not change -/
structure GStat (D : Dt) (c : Sct) (vars : List (Option Str)) (env : Env) : Prop where
  eo : EnvOk env
  gn : goodNames vars env.scope = true
  vd : ∀ (i j : Nat) (x : Str), vars[i]? = some (some x) → vars[j]? = some (some x) → i = j
  l0 : D.h1.get? env.locals = none
  kc : ∀ x, env.kindOf x ≠ some .cell
  cl : env.cells = []
  inc : InC c env
  int : interactive env = false
/-- the generator's variables -/
noncomputable def GV (env : Env) (vars : List (Option Str)) (ρ : Rho) (h : Heap) : Prop := ∃ m, h.Ns env.locals m ∧ ∀ i x sl, vars[i]? = some (some x) → ρ i = some sl → ∃ v, VarAt env m h x v ∧ SlotOk (fun _ => []) h [] sl v
noncomputable def AllSc (ρ : Rho) : Prop := ∀ i sl, ρ i = some sl → ∃ y, sl = .fz y ∧ y.sc = true
theorem GV.keep {ρ : Rho} {h h' : Heap} (X : GStat D c vars env) (g : GV env vars ρ h) (hs : AllSc ρ) (k : ∀ o, h.get? env.locals = some o → h'.get? env.locals = some o) : GV env vars ρ h' := by
  obtain ⟨m, ⟨o, es, ep, e, r⟩, hv⟩ := g
  refine ⟨m, ⟨o, es, ep, k o e, r⟩, fun i x sl hx hr => ?_⟩
  obtain ⟨v, v1, v2⟩ := hv i x sl hx hr
  obtain ⟨y, rfl, hy⟩ := hs i sl hr
  refine ⟨v, ?_, Den.sc hy v2⟩
  unfold VarAt at v1 ⊢
  cases hk : env.kindOf x with
  | none => rw [hk] at v1; exact v1.elim
  | some kk =>
    rw [hk] at v1
    cases kk <;> first | exact v1 | exact v1.elim | (obtain ⟨cc, e, _⟩ := v1; rw [X.cl] at e; cases e)
theorem GV.st {ρ : Rho} {s : Shared} (X : GStat D c vars env) (g : GV env vars ρ s.heap) (b : DtB D s) : StE D env vars (fun _ => []) ρ s where
  ok := b.ok
  base := b.base
  tab := b.tab
  eo := X.eo
  gn := X.gn
  vd := X.vd
  mn := fun a ma => by
    rcases ma with rfl | ⟨x, hx, _⟩ | ⟨i, h⟩
    · exact X.l0
    · exact absurd hx (X.kc x)
    · cases h
  oe := fun i a m => (nomatch m)
  od := fun i j a m => (nomatch m)
  on := fun i => .nil
  ob := fun i _ _ => rfl
  ce := fun x hx => absurd hx (X.kc x)
  ca := fun x cc e => by rw [X.cl] at e; cases e
  cd := fun x y cc e => by rw [X.cl] at e; cases e
  vars := g
theorem StE.gv {ρ : Rho} {s : Shared} (S : StE D env vars (fun _ => []) ρ s) : GV env vars ρ s.heap := S.vars
theorem mut_loc (X : GStat D c vars env) {b : Addr} (m : Mut env (fun _ => []) b) : b = env.locals := by
  rcases m with rfl | ⟨x, hx, _⟩ | ⟨i, h⟩
  · rfl
  · exact absurd hx (X.kc x)
  · cases h

/-- what the generator's resumptions give -/
noncomputable def Wg (env : Env) (e it : Addr) (b : Addr) : Prop := b = env.locals ∨ b = e ∨ b = it
structure InvOk (Wi : Addr → Prop) (Inv : Heap → Prop) : Prop where
  frame : ∀ h h', Inv h → (∀ b o, Wi b → h.get? b = some o → h'.get? b = some o) → Inv h'
  live : ∀ h b, Inv h → Wi b → ∃ o, h.get? b = some o ∧ (∀ ps, o ≠ tabObj ps) ∧ ¬ LT o
inductive GY (D : Dt) (env : Env) (e it : Addr) (ys : List PV) (m : Nat) (s₀ : Shared) (v : Value) (s' : Shared) (kap : Resume → Shared → Prop) : Prop where
  | mk (Inv : Heap → Prop) (y : PV) : ys[ys.length - 1 - m]? = some y → Den (fun a => s₀.heap.get? a = none) s'.heap y v → GrD D.T (Wg env e it) No s₀ s' → (∃ o, s'.heap.get? env.locals = some o) → DtB D s' →
      Inv s'.heap → InvOk (Wg env e it) Inv → (∀ s'', DtB D s'' → Inv s''.heap → kap (.send .none) s'') → GY D env e it ys m s₀ v s' kap
noncomputable def GR (D : Dt) (env : Env) (e it : Addr) : GenEnd := fun n s₀ r s₁ => r = .ok (.ret .none) ∧ n = 0 ∧ GrD D.T (Wg env e it) No s₀ s₁

/-- the state at the head of the loop, or within it -/
structure GS (D : Dt) (env : Env) (vars : List (Option Str)) (x : Str) (e it : Addr) (s₀ : Shared) (ρ : Rho) (esc : Bool) (p : Int) (s : Shared) : Prop where
  st : StE D env vars (fun _ => []) ρ s
  sc : AllSc ρ
  esc : ρ 2 = some (.fz (.bool esc))
  pos : ρ 1 = some (.fz (.int p))
  g : GrD D.T (Wg env e it) No s₀ s
/-- the iterator beneath -/
structure GI (x : Str) (t : Tok) (e it : Addr) (j : Nat) (h : Heap) : Prop where
  en : ∃ old, IsEnum h e it j old
  si : h.IsStrIter it (strIterType x) x t j
theorem GI.keep {x : Str} {t : Tok} {e it : Addr} {j : Nat} {h h' : Heap} (g : GI x t e it j h) (k : ∀ b o, b = e ∨ b = it → h.get? b = some o → h'.get? b = some o) : GI x t e it j h' := by
  obtain ⟨⟨old, a⟩, o, b, r⟩ := g
  exact ⟨⟨old, k _ _ (.inl rfl) a⟩, o, k _ _ (.inr rfl) b, r⟩
structure GAp (D : Dt) (env : Env) (e it : Addr) : Prop where
  lt : it < e
  el : e ≠ env.locals
  il : it ≠ env.locals
  e0 : D.h1.get? e = none
  i0 : D.h1.get? it = none
theorem gi_ta {x : Str} {t : Tok} {e it : Addr} {j : Nat} {s : Shared} (g : GI x t e it j s.heap) (tb : TabOk D.T s.heap) : ¬ TA D.T e ∧ ¬ TA D.T it := by
  obtain ⟨⟨old, a⟩, o, b, c1, d⟩ := g
  exact ⟨tb.ne a (by rintro ps q; cases q), tb.ne b (by rintro ps rfl; cases c1)⟩
/-- a step of the frame's own leaves the iterator -/
theorem GI.gr {x : Str} {t : Tok} {e it : Addr} {j : Nat} {s s' : Shared} (X : GStat D c vars env) (P : GAp D env e it) (g : GI x t e it j s.heap) (tb : TabOk D.T s.heap) (k : Gr D.T (Mut env fun _ => []) s s') : GI x t e it j s'.heap :=
  g.keep fun b o hb eb => by
    have q := gi_ta g tb
    refine k.kp b o ?_ (fun m => ?_) eb
    · rcases hb with rfl | rfl
      · exact q.1
      · exact q.2
    · rcases hb with rfl | rfl
      · exact P.el (mut_loc X m)
      · exact P.il (mut_loc X m)
end

section
variable {D : Dt} {c : Sct} {vars : List (Option Str)} {env : Env}
theorem gs_assign {st : Stmt} {f : Rho → Option Out} {A : Around} {ρ ρ' : Rho} {s : Shared} (X : GStat D c vars env) (h : S1 D 0 c vars st f) (hA : OkA 0 A) (S : StE D env vars (fun _ => []) ρ s) (hf : f ρ = some (.next ρ')) (hs : AllSc ρ') :
    wpAny D.M A (exec st env) (fun fl s' => fl = .next ∧ StE D env vars (fun _ => []) ρ' s' ∧ Gr D.T (Mut env fun _ => []) s s') (fun _ _ => False) s :=
  wpAny_mono (h env A _ ρ s _ X.inc hA S hf) (fun fl s' o => by
    cases fl <;> first | exact o.elim | skip
    obtain ⟨own', S', k⟩ := o
    exact ⟨rfl, S'.dropOwn fun i sl e => let ⟨y, h, _⟩ := hs i sl e; ⟨y, h⟩, k.g⟩) fun _ _ q => q
theorem AllSc.upd {ρ : Rho} (h : AllSc ρ) {i : Nat} {x : PV} (hx : x.sc = true) : AllSc (upd ρ i (.fz x)) := fun j sl e => by
  unfold Mine.upd at e
  split at e
  · cases e; exact ⟨x, rfl, hx⟩
  · exact h j sl e
theorem mutW (X : GStat D c vars env) {e it : Addr} {s s' : Shared} (k : Gr D.T (Mut env fun _ => []) s s') : GrD D.T (Wg env e it) No s s' := k.toD fun b m => .inl (mut_loc X m)

variable {x : Str} {t : Tok} {e it : Addr} {n : Nat} {s₀ : Shared} {A : Around} {fs : List Frame} {cc : Code} {K : Flow → Sem Fin} {H : Value → Sem Fin} {gd : Bool → Bool} {lv : List Value → List Value} {ys : List PV}

/-- a statement that binds a name -/
theorem seg_asg {st : Stmt} {rest : List Stmt} {f : Rho → Option Out} {ρ ρ' : Rho} {s : Shared} (X : GStat D c vars env) (h : S1 D 0 c vars st f) (hA : OkA 0 (A.over cc fs)) (S : StE D env vars (fun _ => []) ρ s) (hf : f ρ = some (.next ρ')) (hs : AllSc ρ')
    (k : ∀ s', StE D env vars (fun _ => []) ρ' s' → Gr D.T (Mut env fun _ => []) s s' → Seg D.M A (GR D env e it) (GY D env e it ys) n s₀ cc ((execs rest env).wrap K H gd lv) fs s') :
    Seg D.M A (GR D env e it) (GY D env e it ys) n s₀ cc ((execs (st :: rest) env).wrap K H gd lv) fs s := by
  refine seg_execs_cons (seg_wrap (wpAny_mono (gs_assign X h hA S hf hs) (fun fl s' q => ?_) fun _ _ q => q.elim))
  obtain ⟨rfl, S', g⟩ := q
  exact k s' S' g
/-- a yield -/
theorem seg_yld {e1 : Expr} {ypos pos : Pos} {rest : List Stmt} {f : Rho → Option PV} {ρ : Rho} {s : Shared} {y : PV} (X : GStat D c vars env) (h : TupN D c vars e1 f) (hA : OkA 0 (A.over cc fs)) (S : StE D env vars (fun _ => []) ρ s) (hs : AllSc ρ) (hf : f ρ = some y)
    (hfs : splitAtGen fs = none) (hgd : gd false = false) (hfg : fs.any Frame.guarded = false) (hg : GrD D.T (Wg env e it) No s₀ s) (hnone : ∀ a, (s.heap.get? a = none ∧ ∀ b o, s.heap.get? b = some o → b < a) → s₀.heap.get? a = none) (hy : ys[ys.length - 1 - n]? = some y)
    (Iv : Heap → Prop) (hi : Iv s.heap) (ok : InvOk (Wg env e it) (fun h => GV env vars ρ h ∧ Iv h)) (hk : ∀ s', Grow D.T s s' → Iv s'.heap)
    (k : ∀ s', DtB D s' → StE D env vars (fun _ => []) ρ s' → Iv s'.heap → Seg D.M A (GR D env e it) (GY D env e it ys) n s' cc ((execs rest env).wrap K H gd lv) fs s') :
    Seg D.M A (GR D env e it) (GY D env e it ys) (n + 1) s₀ cc ((execs (.Expr (.Yield (some e1) ypos) pos :: rest) env).wrap K H gd lv) fs s := by
  refine seg_execs_cons (seg_Expr_Yield hfs hgd hfg (wpAny_mono (h env _ _ ρ s y X.inc hA S hf) (fun v s' q => ?_) fun _ _ q => q.elim) X.eo.co X.int)
  obtain ⟨g, d⟩ := q
  intro kap hkap
  have S' := S.grow g
  refine ⟨fun h => GV env vars ρ h ∧ Iv h, y, hy, d.to fun b o p _ _ => hnone b p, hg.then (g.toD fun _ f => f.elim), ?_, S'.b, ⟨S'.gv, hk s' g⟩, ok, fun s'' hb hv => ?_⟩
  · obtain ⟨m, ⟨o, _, _, eo, _⟩, _⟩ := S'.vars; exact ⟨o, eo⟩
  · exact hkap .none s'' (k s'' hb (hv.1.st X hb) hv.2)
end

theorem draws_str {prog : Program} {w : World} {A : Around} (hh : A.handled = none) (it : Addr) (x : Str) (t : Tok) :
    Draws prog w A it [it] x.cps.size (fun i v => ∃ c u, x.cps[i]? = some c ∧ v = .str ⟨#[c]⟩ u) (fun i h => h.IsStrIter it (strIterType x) x t i) := by
  unfold strIterType
  split
  · exact Draws.strAscii hh it x t
  · exact Draws.strWide hh it x t

section
variable {D : Dt} {c : Sct} {vars : List (Option Str)} {env : Env} {x : Str} {t : Tok} {e it : Addr} {A : Around} {ys : List PV}
variable {st5 st6 : Stmt} {elts : List Expr} {kT : Nat} {pT : Pos} {eEsc eEsc2 eCmp t1 t2 t3 : Expr} {y1 y1' y2 y2' y3 y3' pIf1 pIf2 pIf3 : Pos} {c0 : Code}
noncomputable abbrev bodyL (st5 st6 : Stmt) (eEsc eCmp t1 t2 : Expr) (y1 y1' y2 y2' pIf1 pIf2 : Pos) : List Stmt := [.If eEsc [.Expr (.Yield (some t1) y1) y1', st5] [.If eCmp [st6] [.Expr (.Yield (some t2) y2) y2'] pIf2] pIf1]
noncomputable abbrev lastL (eEsc2 t3 : Expr) (y3 y3' pIf3 : Pos) : List Stmt := [.If eEsc2 [.Expr (.Yield (some t3) y3) y3'] [] pIf3]
noncomputable abbrev K1 : Flow → Sem Fin := fun f => .pure (.done (.ret (match f with | .ret v => v | _ => .none)))
noncomputable abbrev H1 (env : Env) : Value → Sem Fin := fun e => (leaving env e).wrap (fun _ => .raise e) .raise id id

theorem ys_at {α : Type} {pre post : List α} {y : α} : (pre ++ y :: post)[(pre ++ y :: post).length - 1 - post.length]? = some y := by
  have : (pre ++ y :: post).length - 1 - post.length = pre.length := by simp only [List.length_append, List.length_cons]; exact Eq.symm (Nat.eq_sub_of_add_eq rfl)
  rw [this]; simp

theorem seg_tail {ρ : Rho} {esc : Bool} {p : Int} {s s₀ : Shared} {pre : List PV} (X : GStat D c vars env) (P : GAp D env e it) (hA0 : OkA 0 (A.over c0 []))
    (hEsc2 : Tx D 0 c vars eEsc2 (tstF (getAny 2))) (hY3 : TupN D c vars t3 (tupF [getAny 1, strF "\\"]))
    (G : GS D env vars x e it s₀ ρ esc p s) (hn : ∀ b, s.heap.get? b = none → s₀.heap.get? b = none) {tye tyi : String} (le : LiveAt s.heap e tye) (li : LiveAt s.heap it tyi)
    (hys : ys = pre ++ (if esc then [.tuple [.int p, .str "\\"]] else [])) :
    Seg D.M A (GR D env e it) (GY D env e it ys) (if esc then [PV.tuple [.int p, .str "\\"]] else []).length s₀ c0 ((execs (lastL eEsc2 t3 y3 y3' pIf3) env).wrap K1 (H1 env) id id) [] s := by
  refine seg_execs_cons (seg_If (wpAny_mono (hEsc2 env _ _ ρ s esc X.inc hA0 G.st (by simp [tstF, getAny, G.esc, truthV])) (fun b s' q => ?_) fun _ _ q => q.elim))
  obtain ⟨g, rfl⟩ := q
  have S' := G.st.grow g
  have g' : GrD D.T (Wg env e it) No s₀ s' := G.g.then (g.toD fun _ f => f.elim)
  cases b with
  | false =>
    rw [if_neg (by decide)]
    refine seg_execs_nil ?_
    refine seg_execs_nil ?_
    exact seg_end (.ok (.ret .none)) ⟨rfl, rfl, g'⟩
  | true =>
    rw [if_pos rfl]
    simp only [if_true] at hys
    have hn' : ∀ a, (s'.heap.get? a = none ∧ ∀ b o, s'.heap.get? b = some o → b < a) → s₀.heap.get? a = none := fun a q => hn a (g.none G.st.tab q.1)
    have lk : ∀ {s s' : Shared} {b : Addr} {ty : String}, TabOk D.T s.heap → Grow D.T s s' → LiveAt s.heap b ty → LiveAt s'.heap b ty := fun tb g ⟨o, vs, eo, c1, d⟩ => ⟨o, vs, g.kp _ _ (tb.ne eo (by rintro ps rfl; cases c1)) id eo, c1, d⟩
    have ll : ∀ {h : Heap} {b : Addr} {ty : String}, LiveAt h b ty → ∃ o, h.get? b = some o ∧ (∀ ps, o ≠ tabObj ps) ∧ ¬ LT o := fun ⟨o, vs, eo, c1, d⟩ => ⟨o, eo, (by rintro ps rfl; cases c1), fun l => l.notFields d⟩
    have lc : ∀ {h h' : Heap} {b : Addr} {ty : String}, (∀ o, h.get? b = some o → h'.get? b = some o) → LiveAt h b ty → LiveAt h' b ty := fun k ⟨o, vs, eo, r⟩ => ⟨o, vs, k o eo, r⟩
    have fin : ∀ s2, DtB D s2 → Seg D.M A (GR D env e it) (GY D env e it ys) 0 s2 c0 ((execs [] env).wrap K1 (H1 env) id id) [] s2 := fun s2 b2 =>
      seg_execs_nil (seg_end (.ok (.ret .none)) ⟨rfl, rfl, .refl b2.tab⟩)
    refine seg_yld (n := 0) (Iv := fun h => LiveAt h e tye ∧ LiveAt h it tyi) X hY3 hA0 S' G.sc (y := .tuple [.int p, .str "\\"]) ?_ rfl rfl rfl g' hn' ?_ ⟨lk G.st.tab g le, lk G.st.tab g li⟩ ⟨fun h h' q k => ⟨q.1.keep X G.sc fun o eo => k _ o (.inl rfl) eo, lc (fun o eo => k _ o (.inr (.inl rfl)) eo) q.2.1, lc (fun o eo => k _ o (.inr (.inr rfl)) eo) q.2.2⟩, fun h b q hb => ?_⟩ (fun s2 g2 => ⟨lk S'.tab g2 (lk G.st.tab g le), lk S'.tab g2 (lk G.st.tab g li)⟩) (fun s2 b2 S2 _ => ?_)
    · simp [tupF, argsF, getAny, strF, G.pos, PV.sc]
    · rw [hys]; exact ys_at
    · rcases hb with rfl | rfl | rfl
      · obtain ⟨⟨m, ⟨o, es, ep, eo, hd, _⟩, _⟩, _⟩ := q
        exact ⟨o, eo, (by rintro ps rfl; cases hd), fun l => l.notDict hd⟩
      · exact ll q.2.1
      · exact ll q.2.2
    · exact seg_execs_nil (fin s2 b2)

theorem seg_last {fs : List Frame} {p0 : Pos} (X : GStat D c vars env) (P : GAp D env e it) (hA0 : OkA 0 (A.over c0 []))
    (hEsc2 : Tx D 0 c vars eEsc2 (tstF (getAny 2))) (hY3 : TupN D c vars t3 (tupF [getAny 1, strF "\\"])) {tgt : Expr} {body : List Stmt}
    (hfs0 : fs = [.ret (backK env (fun f => match f with | .next => (execs (lastL eEsc2 t3 y3 y3' pIf3) env).wrap K1 (H1 env) id id | f => K1 f) (H1 env) id id) none false [] c0 p0 []])
    (hh : (A.over (.forLoop tgt (.ref e) body [] env) fs).handled = none) {esc : Bool} {p : Int} {ρ : Rho} {s s₀ : Shared} {pre : List PV} (G : GS D env vars x e it s₀ ρ esc p s) (hn : ∀ b, s.heap.get? b = none → s₀.heap.get? b = none) (I : GI x t e it x.cps.size s.heap) (hys : ys = pre ++ (if esc then [.tuple [.int p, .str "\\"]] else [])) :
    Seg D.M A (GR D env e it) (GY D env e it ys) (if esc then [PV.tuple [.int p, .str "\\"]] else []).length s₀ (.forLoop tgt (.ref e) body [] env) (D.M.den (.forLoop tgt (.ref e) body [] env)) fs s := by
  obtain ⟨⟨old, en⟩, si⟩ := I
  refine seg_forLoop (enum_end hh en si fun h' hx hl => ?_)
  have tab' : TabOk D.T h' := by
    obtain ⟨o, eo, c1, d⟩ := si
    exact G.st.tab.but eo (fun vs q => by rw [d] at q; cases q; exact ⟨by simp, by rw [c1]; nofun, fun q t h => by simp at h⟩) fun b o hb eb => hx b o hb eb
  have gv : GV env vars ρ h' := G.st.gv.keep X G.sc fun o eo => hx _ o (fun q => P.il q.symm) eo
  have kb : ∀ b o, ¬ TA D.T b → D.h1.get? b = some o → h'.get? b = some o := fun b o n eb => hx b o (by rintro rfl; rw [P.i0] at eb; cases eb) (G.st.base b o n eb)
  refine seg_block_nil ?_
  rw [hfs0]
  refine seg_leaf (.ok .next) ?_
  refine seg_tail (x := x) X P hA0 hEsc2 hY3 ⟨GV.st (s := { s with heap := h' }) X gv ⟨G.st.ok, G.st.ok.to tab' kb, kb, tab'⟩, G.sc, G.esc, G.pos, G.g.then ⟨fun b o _ w eb => hx b o (fun q => w (.inr (.inr q))) eb, tab', rfl, fun _ _ _ => rfl, Nat.le_refl _, id⟩⟩ (fun b q => hn b ?_) (tye := "enumerate") ⟨_, _, hx e _ (Nat.ne_of_gt P.lt) en, rfl, rfl⟩ hl hys
  have q2 : h'.get? b = none := q
  cases r : s.heap.get? b with
  | none => rfl
  | some o =>
    by_cases hb : b = it
    · obtain ⟨o2, vs, e2, _⟩ := hl
      rw [hb, e2] at q2; cases q2
    · rw [hx b o hb r] at q2; cases q2

theorem gi_inv {ρ' : Rho} {j : Nat} (X : GStat D c vars env) (hs' : AllSc ρ') : InvOk (Wg env e it) (fun h => GV env vars ρ' h ∧ GI x t e it j h) where
  frame h h' q k := ⟨q.1.keep X hs' fun o eo2 => k _ o (.inl rfl) eo2, q.2.keep fun b o hb eb => k b o (hb.elim (fun h => .inr (.inl h)) fun h => .inr (.inr h)) eb⟩
  live h b q hb := by
    rcases hb with rfl | rfl | rfl
    · obtain ⟨m, ⟨o, es, ep, eo2, hd2, _⟩, _⟩ := q.1
      exact ⟨o, eo2, (by rintro ps rfl; cases hd2), fun l => l.notDict hd2⟩
    · obtain ⟨⟨old3, en3⟩, _⟩ := q.2
      exact ⟨_, en3, (by rintro ps q; cases q), fun l => l.notFields rfl⟩
    · obtain ⟨_, o, a, c1, d⟩ := q.2
      exact ⟨o, a, (by rintro ps rfl; cases c1), fun l => l.notFields d⟩
theorem GI.up {j : Nat} {s s' : Shared} (X : GStat D c vars env) (P : GAp D env e it) (I : GI x t e it j s.heap) (tb : TabOk D.T s.heap) (g : Grow D.T s s') : GI x t e it j s'.heap := GI.gr X P I tb (g.up tb fun _ f => f.elim)
theorem one_str (ch : Nat) : (if (Str.ofString "\\").length + (⟨#[ch]⟩ : Str).length ≤ 1000000 then some (PV.str ("\\" ++ (⟨#[ch]⟩ : Str))) else none) = some (.str ("\\" ++ (⟨#[ch]⟩ : Str))) := if_pos (by show _ + 1 ≤ _; decide)

/-- a turn of the loop, its names bound -/
theorem seg_turn {cc : Code} {fs : List Frame} {K : Flow → Sem Fin} {H : Value → Sem Fin} (X : GStat D c vars env) (P : GAp D env e it) (hA1 : OkA 0 (A.over cc fs))
    (hEsc : Tx D 0 c vars eEsc (tstF (getAny 2))) (hCmp : Tx D 0 c vars eCmp (cmpF .Eq (getAny 3) (strF "\\")))
    (hY1 : TupN D c vars t1 (tupF [getAny 1, binF .Add (strF "\\") (getAny 3)])) (hY2 : TupN D c vars t2 (tupF [getAny 1, getAny 3]))
    (h5 : S1 D 0 c vars st5 (assignF 2 (boolF false))) (h6 : S1 D 0 c vars st6 (assignF 2 (boolF true))) (hf1 : splitAtGen fs = none) (hf2 : fs.any Frame.guarded = false)
    {j ch : Nat} {cs : List Nat} {esc : Bool} {ρ1 : Rho} {s3 s₀ : Shared} {pre : List PV} (S3 : StE D env vars (fun _ => []) ρ1 s3) (sc1 : AllSc ρ1) (esc1 : ρ1 2 = some (.fz (.bool esc))) (pos1 : ρ1 1 = some (.fz (.int j))) (ch1 : ρ1 3 = some (.fz (.str ⟨#[ch]⟩)))
    (g3 : GrD D.T (Wg env e it) No s₀ s3) (n3 : ∀ b, s3.heap.get? b = none → s₀.heap.get? b = none) (I3 : GI x t e it (j + 1) s3.heap) (hys : ys = pre ++ escGo esc j (ch :: cs))
    (go_on : ∀ (esc' : Bool) (ρ' : Rho) (s5 s₀' : Shared) (pre' : List PV), GS D env vars x e it s₀' ρ' esc' j s5 → (∀ b, s5.heap.get? b = none → s₀'.heap.get? b = none) → GI x t e it (j + 1) s5.heap → ys = pre' ++ escGo esc' (j + 1) cs → Seg D.M A (GR D env e it) (GY D env e it ys) (escGo esc' (j + 1) cs).length s₀' cc (K .next) fs s5) :
    Seg D.M A (GR D env e it) (GY D env e it ys) (escGo esc j (ch :: cs)).length s₀ cc ((execs (bodyL st5 st6 eEsc eCmp t1 t2 y1 y1' y2 y2' pIf1 pIf2) env).wrap K H id id) fs s3 := by
  refine seg_execs_cons (seg_If (wpAny_mono (hEsc env _ _ ρ1 s3 esc X.inc hA1 S3 (tstI (getAny_fz esc1) rfl)) (fun b s4 q => ?_) fun _ _ q => q.elim))
  obtain ⟨g4, hb⟩ := q
  rw [hb]
  have S4 := S3.grow g4
  have I4 := I3.up X P S3.tab g4
  have g4' := g3.then (g4.toD (V := Wg env e it) (G := No) fun _ f => f.elim)
  have n4 : ∀ b, s4.heap.get? b = none → s₀.heap.get? b = none := fun b q => n3 b (g4.none S3.tab q)
  clear hb S3 I3 g3 n3 g4
  cases esc with
  | true =>
    rw [if_pos rfl]
    refine seg_yld (n := (escGo false (j + 1) cs).length) (Iv := fun h => GI x t e it (j + 1) h) X hY1 hA1 S4 sc1 (y := .tuple [.int j, .str ("\\" ++ (⟨#[ch]⟩ : Str))]) (tupI (argsC (getAny_fz pos1) (argsC (x := .str ("\\" ++ (⟨#[ch]⟩ : Str))) ?_ rfl)) (Nat.le_of_ble_eq_true rfl) rfl) hf1 rfl hf2 g4' (fun a q => n4 a q.1) (by rw [hys]; exact ys_at) I4 (gi_inv X sc1) (fun s' g => I4.up X P S4.tab g) (fun s5 b5 S5 I5 => ?_)
    · unfold binF; rw [getAny_fz ch1]; exact one_str ch
    · exact seg_asg X h5 hA1 S5 (ρ' := upd ρ1 2 (.fz (.bool false))) rfl (sc1.upd rfl) fun s6 S6 g6 => seg_execs_nil (seg_execs_nil
        (go_on false _ s6 s5 (pre ++ [.tuple [.int j, .str ("\\" ++ (⟨#[ch]⟩ : Str))]]) ⟨S6, sc1.upd rfl, rfl, pos1, mutW X g6⟩ (fun b q => g6.none S5.tab q) (GI.gr X P I5 S5.tab g6) (by rw [hys, List.append_assoc]; rfl)))
  | false =>
    rw [if_neg (by decide)]
    refine seg_execs_cons (seg_If (wpAny_mono (hCmp env _ _ ρ1 s4 ((⟨#[ch]⟩ : Str) == "\\") X.inc hA1 S4 (by unfold cmpF; rw [getAny_fz ch1]; rfl)) (fun b2 s5 q => ?_) fun _ _ q => q.elim))
    obtain ⟨g5, hb⟩ := q
    rw [hb]
    have S5 := S4.grow g5
    have I5 := I4.up X P S4.tab g5
    have g5' := g4'.then (g5.toD (V := Wg env e it) (G := No) fun _ f => f.elim)
    have n5 : ∀ b, s5.heap.get? b = none → s₀.heap.get? b = none := fun b q => n4 b (g5.none S4.tab q)
    clear hb g5 S4 I4 g4' n4
    have hE : escGo false j (ch :: cs) = if ((⟨#[ch]⟩ : Str) == "\\") then escGo true (j + 1) cs else .tuple [.int j, .str ⟨#[ch]⟩] :: escGo false (j + 1) cs := rfl
    rw [hE] at hys ⊢
    generalize ((⟨#[ch]⟩ : Str) == "\\") = bb at hys ⊢
    cases bb with
    | true =>
      exact seg_asg X h6 hA1 S5 (ρ' := upd ρ1 2 (.fz (.bool true))) rfl (sc1.upd rfl) fun s6 S6 g6 => seg_execs_nil (seg_execs_nil (seg_execs_nil
        (go_on true _ s6 s₀ pre ⟨S6, sc1.upd rfl, rfl, pos1, g5'.then (mutW X g6)⟩ (fun b q => n5 b (g6.none S5.tab q)) (GI.gr X P I5 S5.tab g6) hys)))
    | false =>
      have hys : ys = pre ++ .tuple [.int j, .str ⟨#[ch]⟩] :: escGo false (j + 1) cs := hys
      exact seg_yld (n := (escGo false (j + 1) cs).length) (Iv := fun h => GI x t e it (j + 1) h) X hY2 hA1 S5 sc1 (y := .tuple [.int j, .str ⟨#[ch]⟩]) (tupI (argsC (getAny_fz pos1) (argsC (getAny_fz ch1) rfl)) (Nat.le_of_ble_eq_true rfl) rfl) hf1 rfl hf2 g5' (fun a q => n5 a q.1) (by rw [hys]; exact ys_at) I5 (gi_inv X sc1) (fun s' g => I5.up X P S5.tab g) (fun s6 b6 S6 I6 =>
        seg_execs_nil (seg_execs_nil (seg_execs_nil (go_on false ρ1 s6 s6 (pre ++ [.tuple [.int j, .str ⟨#[ch]⟩]]) ⟨S6, sc1, esc1, pos1, .refl b6.tab⟩ (fun b q => q) I6 (by rw [hys, List.append_assoc]; rfl)))))

theorem drop_cons {x : List Nat} {j : Nat} {ch : Nat} {cs : List Nat} (hd : x.drop j = ch :: cs) : j < x.length ∧ x[j]? = some ch ∧ x.drop (j + 1) = cs := by
  have hl : j < x.length := Nat.lt_of_not_le fun h => by rw [List.drop_of_length_le h] at hd; cases hd
  rw [List.drop_eq_getElem_cons hl] at hd
  injection hd with h1 h2
  exact ⟨hl, by rw [List.getElem?_eq_getElem hl, h1], h2⟩
theorem seg_loop {p0 : Pos} (X : GStat D c vars env) (P : GAp D env e it) (hA0 : OkA 0 (A.over c0 []))
    (hT : TgtX D c vars (.Tuple elts kT pT) (tupU [1, 3])) (hEsc : Tx D 0 c vars eEsc (tstF (getAny 2))) (hEsc2 : Tx D 0 c vars eEsc2 (tstF (getAny 2))) (hCmp : Tx D 0 c vars eCmp (cmpF .Eq (getAny 3) (strF "\\")))
    (hY1 : TupN D c vars t1 (tupF [getAny 1, binF .Add (strF "\\") (getAny 3)])) (hY2 : TupN D c vars t2 (tupF [getAny 1, getAny 3])) (hY3 : TupN D c vars t3 (tupF [getAny 1, strF "\\"]))
    (h5 : S1 D 0 c vars st5 (assignF 2 (boolF false))) (h6 : S1 D 0 c vars st6 (assignF 2 (boolF true)))
    (fs : List Frame) (hfs0 : fs = [.ret (backK env (fun f => match f with | .next => (execs (lastL eEsc2 t3 y3 y3' pIf3) env).wrap K1 (H1 env) id id | f => K1 f) (H1 env) id id) none false [] c0 p0 []])
    (hA1 : OkA 0 (A.over (.forLoop (.Tuple elts kT pT) (.ref e) (bodyL st5 st6 eEsc eCmp t1 t2 y1 y1' y2 y2' pIf1 pIf2) [] env) fs)) :
    ∀ (cs : List Nat) (j : Nat) (esc : Bool) (p : Int) (ρ : Rho) (s s₀ : Shared) (pre : List PV), x.cps.toList.drop j = cs → j ≤ x.cps.size → GS D env vars x e it s₀ ρ esc p s → (∀ b, s.heap.get? b = none → s₀.heap.get? b = none) → GI x t e it j s.heap → (esc = true → p = (j : Int) - 1) → ys = pre ++ escGo esc j cs →
      Seg D.M A (GR D env e it) (GY D env e it ys) (escGo esc j cs).length s₀ (.forLoop (.Tuple elts kT pT) (.ref e) (bodyL st5 st6 eEsc eCmp t1 t2 y1 y1' y2 y2' pIf1 pIf2) [] env)
        (D.M.den (.forLoop (.Tuple elts kT pT) (.ref e) (bodyL st5 st6 eEsc eCmp t1 t2 y1 y1' y2 y2' pIf1 pIf2) [] env)) fs s := by
  intro cs
  induction cs with
  | nil =>
    intro j esc p ρ s s₀ pre hd hj G hn I hp hys
    have hj2 : j = x.cps.size := Nat.le_antisymm hj (by rw [← Array.length_toList]; exact List.drop_eq_nil_iff.mp hd)
    have hp' : escGo esc j [] = (if esc then [PV.tuple [.int p, .str "\\"]] else []) := by
      cases esc with
      | false => rfl
      | true => rw [hp rfl]; rfl
    rw [hp'] at hys ⊢
    exact seg_last X P hA0 hEsc2 hY3 hfs0 hA1.1 G hn (hj2 ▸ I) hys
  | cons ch cs ih =>
    intro j esc p ρ s s₀ pre hd hj G hn I hp hys
    obtain ⟨hjl, hch, hcs⟩ := drop_cons hd
    rw [Array.length_toList] at hjl
    rw [Array.getElem?_toList] at hch
    obtain ⟨⟨old, en⟩, si⟩ := I
    refine seg_forLoop (wpAny_pyNext_enum_itemD (St := fun i h => h.IsStrIter it (strIterType x) x t i) (draws_str (A := Around.in1 _) hA1.1 it x t) en si hjl (Nat.ne_of_gt P.lt) (by simp; exact Nat.ne_of_gt P.lt) fun xv h' tk hxv eo si' hT' hsz hk => ?_)
    obtain ⟨ch', u, hch', rfl⟩ := hxv
    obtain rfl := Option.some.inj (hch.symm.trans hch')
    refine wpAny_letOwnedTupleGo_enum eo fun h2 en2 sb2 => ?_
    -- the state behind the draw
    have k2 : ∀ b o, b ≠ e → b ≠ it → s.heap.get? b = some o → h2.get? b = some o := fun b o n1 n2 eb => sb2.extBut b o n1 (hk b o n1 n2 eb)
    have si2 : h2.IsStrIter it (strIterType x) x t (j + 1) := by obtain ⟨o, a, r⟩ := si'; exact ⟨o, sb2.extBut _ _ (Nat.ne_of_lt P.lt) a, r⟩
    have tab2 : TabOk D.T h2 := G.st.tab.butW (W := fun b => b = e ∨ b = it) (fun a o w ea vs hv => by
      rcases w with rfl | rfl
      · rw [en] at ea; cases ea; cases hv; exact ⟨by simp, by nofun, fun q t h => by simp at h⟩
      · obtain ⟨o2, e2, c1, d⟩ := si
        rw [e2] at ea; cases ea; rw [d] at hv; cases hv; exact ⟨by simp, by rw [c1]; nofun, fun q t h => by simp at h⟩) fun b o n eb => k2 b o (fun q => n (.inl q)) (fun q => n (.inr q)) eb
    have kb : ∀ b o, ¬ TA D.T b → D.h1.get? b = some o → h2.get? b = some o := fun b o n eb => k2 b o (by rintro rfl; rw [P.e0] at eb; cases eb) (by rintro rfl; rw [P.i0] at eb; cases eb) (G.st.base b o n eb)
    have n2 : ∀ b, h2.get? b = none → s.heap.get? b = none := fun b q => by
      cases r : s.heap.get? b with
      | none => rfl
      | some o =>
        by_cases hbe : b = e
        · rw [hbe, en2] at q; cases q
        · by_cases hbi : b = it
          · obtain ⟨o, a, _⟩ := si2; rw [hbi, a] at q; cases q
          · rw [k2 b o hbe hbi r] at q; cases q
    have hT2 : h2.get? s.heap.objs.size = some { cls := .type "tuple", data := .seq #[.int j tk, .str ⟨#[ch]⟩ u] } := sb2.extBut _ _ (Nat.ne_of_gt (Heap.lt_size en)) hT'
    have S2 : StE D env vars (fun _ => []) ρ { s with heap := h2, toks := tk + 1 } := GV.st (s := { s with heap := h2, toks := tk + 1 }) X (G.st.gv.keep X G.sc fun o eo2 => k2 _ o (fun q => P.el q.symm) (fun q => P.il q.symm) eo2) ⟨G.st.ok, G.st.ok.to tab2 kb, kb, tab2⟩
    have sc1 : AllSc (upd (upd ρ 1 (.fz (.int j))) 3 (.fz (.str ⟨#[ch]⟩))) := (G.sc.upd rfl).upd rfl
    refine wpAny_mono (hT env _ _ ρ _ _ (.tuple [.int j, .str ⟨#[ch]⟩]) (.ref s.heap.objs.size) X.inc hA1 S2 (den_tup (vs := [.int j tk, .str ⟨#[ch]⟩ u]) (fun i m => (nomatch m)) ⟨_, hT2, rfl, _, rfl⟩ (by simp only [DenL, Den]; exact ⟨_, _, rfl, ⟨_, rfl⟩, _, _, rfl, ⟨_, rfl⟩, rfl⟩)) rfl) (fun _ s3 q => ?_) fun _ _ q => q.elim
    obtain ⟨own3, S3, k3, _⟩ := q
    exact seg_turn X P hA1 hEsc hCmp hY1 hY2 h5 h6 (by rw [hfs0]; rfl) (by rw [hfs0]; rfl) (S3.dropOwn fun i sl r => let ⟨y, h, _⟩ := sc1 i sl r; ⟨y, h⟩) sc1 G.esc rfl rfl
      ((G.g.then (s'' := { s with heap := h2, toks := tk + 1 }) ⟨fun b o _ w eb => k2 b o (fun q => w (.inr (.inl q))) (fun q => w (.inr (.inr q))) eb, tab2, rfl, fun _ _ _ => rfl, Nat.le_refl _, id⟩).then (mutW X k3.g)) (fun b q => hn b (n2 b (k3.g.none tab2 q))) (GI.gr (s := { s with heap := h2, toks := tk + 1 }) X P ⟨⟨_, en2⟩, si2⟩ tab2 k3.g) hys
      fun esc' ρ' s5 s₀' pre' G5 n5 I5 hy => seg_again rfl (ih (j + 1) esc' j ρ' s5 s₀' pre' hcs hjl G5 n5 I5 (fun _ => show (j : Int) = (j : Int) + 1 - 1 from (Int.add_sub_cancel _ _).symm) hy)
end
end Mine
end
section
namespace Mine

section
variable {D : Dt} {c : Sct} {vars : List (Option Str)} {env : Env} {A : Around}
/-- a constant -/
noncomputable def Cx (e : Expr) (y : PV) : Prop := ∀ (M : Model) (A : Around) (env : Env) (s : Shared), wpAny M A (eval e env) (fun v s' => (∃ tk, s' = { s with toks := tk }) ∧ ∀ P h, Den P h y v) (fun _ _ => False) s
theorem cx_int {i : Int} {m : Nat} {pos : Pos} : Cx (.Constant (.int i) m pos) (.int i) := fun M A env s => wpAny_Constant_int ⟨⟨_, rfl⟩, fun P h => den_int⟩
theorem cx_bool {b : Bool} {m : Nat} {pos : Pos} : Cx (.Constant (.bool b) m pos) (.bool b) := fun M A env s => PySem.wpAny_Constant_bool ⟨⟨s.toks, rfl⟩, fun P h => den_bool⟩

theorem gz_assign {x : Str} {px pos : Pos} {e : Expr} {y : PV} {i : Nat} {ρ : Rho} {s : Shared} (X : GStat D c vars env) (hx : vars[i]? = some (some x)) (hk : env.kindOf x = some .local) (h : Cx e y) (hy : y.sc = true) (S : StE D env vars (fun _ => []) ρ s) (hs : AllSc ρ)
    (hw : swapsWith e (some (.Name x px)) pos.line env = pure false) :
    wpAny D.M A (exec (.Assign [.Name x px] e pos) env) (fun fl s' => fl = .next ∧ StE D env vars (fun _ => []) (upd ρ i (.fz y)) s' ∧ Gr D.T (Mut env fun _ => []) s s' ∧ s'.heap.objs.size = s.heap.objs.size) (fun _ _ => False) s := by
  refine wpAny_Assign_Name (wpAny_mono (h _ _ env s) (fun v s1 hd => ?_) fun _ _ q => q) hw
  obtain ⟨⟨tk, rfl⟩, d⟩ := hd
  obtain ⟨m, hm, hv⟩ := S.vars
  refine wpAny_storeName_local hk (m := m) hm (fun h' hn' hs' => ?_) (by rw [X.eo.kind]; rfl)
  obtain ⟨o, es, ep, eo, hd, _⟩ := id hm
  obtain ⟨o', es', ep', eo', hd', _⟩ := id hn'
  have kl : ∀ b ob, b ≠ env.locals → s.heap.get? b = some ob → h'.get? b = some ob := fun b ob hb eb => hs'.extBut b ob hb eb
  have tab' : TabOk D.T h' := S.tab.but eo (.dict hd) kl
  have gr : ∀ tk, Gr D.T (Mut env fun _ => []) s { s with heap := h', toks := tk } := fun tk => .but S.tab eo eo' (.dict hd) (.inl rfl) kl
  have kb : ∀ b ob, ¬ TA D.T b → D.h1.get? b = some ob → h'.get? b = some ob := fun b ob n eb => kl b ob (by rintro rfl; rw [X.l0] at eb; cases eb) (S.base b ob n eb)
  have gv : GV env vars (upd ρ i (.fz y)) h' := by
    refine ⟨_, hn', fun j z sl hz hr => ?_⟩
    by_cases hji : j = i
    · subst hji
      rw [hx] at hz; cases hz
      rw [upd_self] at hr; cases hr
      refine ⟨v, ?_, d _ _⟩
      unfold VarAt; rw [hk]; exact if_pos rfl
    · rw [upd_ne hji] at hr
      obtain ⟨w, w1, w2⟩ := hv j z sl hz hr
      obtain ⟨u, rfl, hu⟩ := hs j sl hr
      refine ⟨w, ?_, Den.sc hu w2⟩
      have hne : z ≠ x := fun q => hji (S.vd j i x (q ▸ hz) hx)
      unfold VarAt at w1 ⊢
      cases hkz : env.kindOf z with
      | none => rw [hkz] at w1; exact w1.elim
      | some kk =>
        rw [hkz] at w1
        cases kk <;> first | exact w1.elim | (show (if z = x then some v else m z) = some w; rw [if_neg hne]; exact w1) | (obtain ⟨cc, e, _⟩ := w1; rw [X.cl] at e; cases e)
  exact ⟨rfl, gv.st X ⟨S.ok, S.ok.to tab' kb, kb, tab'⟩, gr _, hs'.1⟩

variable {x : Str} {ys : List PV}
variable {st5 st6 : Stmt} {elts : List Expr} {kT : Nat} {pT : Pos} {eEsc eEsc2 eCmp t1 t2 t3 e1 e2 : Expr} {y1 y1' y2 y2' y3 y3' pIf1 pIf2 pIf3 pF q1 q2 q3 u1 u2 u3 u4 : Pos} {xa xp xe : Str}

/-- the generator's body -/
noncomputable abbrev gBody (xa xp xe : Str) (st5 st6 : Stmt) (elts : List Expr) (kT : Nat) (pT : Pos) (eEsc eEsc2 eCmp t1 t2 t3 e1 e2 : Expr) (y1 y1' y2 y2' y3 y3' pIf1 pIf2 pIf3 pF q1 q2 q3 u1 u2 u3 u4 : Pos) : List Stmt :=
  [.Assign [.Name xp u1] e1 u2, .Assign [.Name xe u3] e2 u4, .For (.Tuple elts kT pT) (.Call (.Name "enumerate" q1) [.Name xa q2] [] q3) (bodyL st5 st6 eEsc eCmp t1 t2 y1 y1' y2 y2' pIf1 pIf2) [] pF, .If eEsc2 [.Expr (.Yield (some t3) y3) y3'] [] pIf3]

/-- what the generator's text is made of -/
structure GParts (D : Dt) (c : Sct) (vars : List (Option Str)) (xa xp xe : Str) (st5 st6 : Stmt) (elts : List Expr) (kT : Nat) (pT : Pos) (eEsc eEsc2 eCmp t1 t2 t3 e1 e2 : Expr) : Prop where
  va : vars[0]? = some (some xa)
  vp : vars[1]? = some (some xp)
  ve : vars[2]? = some (some xe)
  kp : c.sc.names.lookup xp = some .local
  ke : c.sc.names.lookup xe = some .local
  ken : c.sc.names.lookup ("enumerate" : Str) = some .globalImplicit
  gen : Gv D "enumerate" (.type "enumerate")
  c1 : Cx e1 (.int 0)
  c2 : Cx e2 (.bool false)
  s1 : ∀ x p l env, swapsWith e1 (some (.Name x p)) l env = pure false
  s2 : ∀ x p l env, swapsWith e2 (some (.Name x p)) l env = pure false
  hT : TgtX D c vars (.Tuple elts kT pT) (tupU [1, 3])
  hEsc : Tx D 0 c vars eEsc (tstF (getAny 2))
  hEsc2 : Tx D 0 c vars eEsc2 (tstF (getAny 2))
  hCmp : Tx D 0 c vars eCmp (cmpF .Eq (getAny 3) (strF "\\"))
  hY1 : TupN D c vars t1 (tupF [getAny 1, binF .Add (strF "\\") (getAny 3)])
  hY2 : TupN D c vars t2 (tupF [getAny 1, getAny 3])
  hY3 : TupN D c vars t3 (tupF [getAny 1, strF "\\"])
  h5 : S1 D 0 c vars st5 (assignF 2 (boolF false))
  h6 : S1 D 0 c vars st6 (assignF 2 (boolF true))

theorem getNone {h : Heap} {b : Addr} (hb : h.objs.size ≤ b) : h.get? b = none := by
  cases q : h.get? b with
  | none => rfl
  | some o => have := Heap.lt_size q; exact absurd (Nat.lt_of_lt_of_le this hb) (Nat.lt_irrefl _)

theorem seg_start {s₀ : Shared} {ρ : Rho} (X : GStat D c vars env) (Z : GParts D c vars xa xp xe st5 st6 elts kT pT eEsc eEsc2 eCmp t1 t2 t3 e1 e2) (hA : OkA 5 A) (S : StE D env vars (fun _ => []) ρ s₀) (hs : AllSc ρ) (hr : ρ 0 = some (.fz (.str x))) :
    Seg D.M A (GR D env (s₀.heap.objs.size + 1) s₀.heap.objs.size) (GY D env (s₀.heap.objs.size + 1) s₀.heap.objs.size (escV x)) (escV x).length s₀
      (.func (gBody xa xp xe st5 st6 elts kT pT eEsc eEsc2 eCmp t1 t2 t3 e1 e2 y1 y1' y2 y2' y3 y3' pIf1 pIf2 pIf3 pF q1 q2 q3 u1 u2 u3 u4) env)
      (D.M.den (.func (gBody xa xp xe st5 st6 elts kT pT eEsc eEsc2 eCmp t1 t2 t3 e1 e2 y1 y1' y2 y2' y3 y3' pIf1 pIf2 pIf3 pF q1 q2 q3 u1 u2 u3 u4) env)) [] s₀ := by
  have P : GAp D env (s₀.heap.objs.size + 1) s₀.heap.objs.size := by
    have hloc : env.locals < s₀.heap.objs.size := by obtain ⟨m, ⟨o, _, _, e, _⟩, _⟩ := S.vars; exact Heap.lt_size e
    exact ⟨Nat.lt_succ_self _, Nat.ne_of_gt (Nat.lt_succ_of_lt hloc), Nat.ne_of_gt hloc, S.new0 (getNone (Nat.le_succ _)), S.new0 (getNone (Nat.le_refl _))⟩
  refine seg_func ?_
  refine seg_execs_cons (seg_wrap (wpAny_mono (gz_assign X Z.vp (by unfold Env.kindOf; rw [X.inc.1]; exact Z.kp) Z.c1 rfl S hs (Z.s1 _ _ _ _)) (fun fl s1 q => ?_) fun _ _ q => q.elim))
  obtain ⟨rfl, S1', g1, z1⟩ := q
  have sc1 : AllSc (upd ρ 1 (.fz (.int 0))) := hs.upd rfl
  refine seg_execs_cons (seg_wrap (wpAny_mono (gz_assign X Z.ve (by unfold Env.kindOf; rw [X.inc.1]; exact Z.ke) Z.c2 rfl S1' sc1 (Z.s2 _ _ _ _)) (fun fl s2 q => ?_) fun _ _ q => q.elim))
  obtain ⟨rfl, S2', g2, z2⟩ := q
  have sc2 : AllSc (upd (upd ρ 1 (.fz (.int 0))) 2 (.fz (.bool false))) := sc1.upd rfl
  have g12 : GrD D.T (Wg env (s₀.heap.objs.size + 1) s₀.heap.objs.size) No s₀ s2 := (mutW X g1).then (mutW X g2)
  have n12 : ∀ b, s2.heap.get? b = none → s₀.heap.get? b = none := fun b q => g1.none S.tab (g2.none S1'.tab q)
  have zz : s2.heap.objs.size = s₀.heap.objs.size := z2.trans z1
  refine seg_execs_cons (seg_For (fun v => rfl) ?_)
  refine wpAny_Call_NameR (glob_ok X.inc S2' Z.ken Z.gen ?_ (by rfl))
  refine callWith_type rfl (Calls.evalArgs_plain (Calls.spliced_cons ?_))
  refine wpAny_Name (loadVar S2' Z.va (sl := .fz (.str x)) hr fun v d => ?_) (goodNames_at S2'.gn Z.va).1
  have d' : Den (Clean fun _ => []) s2.heap (.str x) v := d
  simp only [Den] at d'
  obtain ⟨t, rfl⟩ := d'
  refine Calls.spliced_nil ?_
  refine call_enumerate_str (x := x) (t := t) fun h' en si hsz hk => ?_
  refine wpAny_pyIter_enum en ?_
  intro p
  have tab' : TabOk D.T h' := S2'.tab.keeps hk
  have kb : ∀ b ob, ¬ TA D.T b → D.h1.get? b = some ob → h'.get? b = some ob := fun b ob n eb => hk b ob (S2'.base b ob n eb)
  have gv := S2'.gv.keep X sc2 fun o eo => hk _ o eo
  have S3 : StE D env vars (fun _ => []) (upd (upd ρ 1 (.fz (.int 0))) 2 (.fz (.bool false))) { s2 with heap := h' } := gv.st X ⟨S2'.ok, S2'.ok.to tab' kb, kb, tab'⟩
  have g3 : GrD D.T (Wg env (s₀.heap.objs.size + 1) s₀.heap.objs.size) No s₀ { s2 with heap := h' } := g12.then ⟨fun b o _ _ eb => hk b o eb, tab', rfl, fun _ _ _ => rfl, Nat.le_refl _, id⟩
  rw [zz] at en si ⊢
  refine seg_loop (x := x) (t := t) (ys := escV x) X P ?_ Z.hT Z.hEsc Z.hEsc2 Z.hCmp Z.hY1 Z.hY2 Z.hY3 Z.h5 Z.h6 _ rfl ?_ x.cps.toList 0 false 0 _ { s2 with heap := h' } s₀ [] (by exact rfl) (Nat.zero_le _) ⟨S3, sc2, rfl, rfl, g3⟩ (fun b q => n12 b ?_) ⟨⟨_, en⟩, si⟩ (fun q => nomatch q) rfl
  · exact ⟨hA.1, by have := hA.2.1; show A.depth + 0 + 1 + 0 ≤ 800; grind, by have := hA.2.2; show A.units + 0 + 3 + 10 * 0 ≤ 5000; grind⟩
  · exact ⟨hA.1, by have := hA.2.1; show A.depth + (1 + 0) + 0 + 0 ≤ 800; grind, by have := hA.2.2; show A.units + (3 + 0) + 0 + 10 * 0 ≤ 5000; omega⟩
  · cases r : s2.heap.get? b with
    | none => rfl
    | some o => rw [hk b o r] at q; cases q
end
end Mine
end
section
namespace Mine

section
variable {prog : Program} {w : World} {A : Around} {E : Value → Shared → Prop} {s : Shared}
/-- next of a generator; what it leaves needs no clean-up -/
theorem pyNext_genQ {a : Addr} {g n : Nat} {gs : GenState} {P : Nat → Shared → Shared → Prop} {Y : Protocol} {Q : Option Value → Shared → Prop} (hh : A.handled = none)
    (hl : s.heap.NoLimit) (hroom : A.depth < recursionLimit) (hg : s.heap.IsGen a g) (hgs : s.gens[g]? = some gs)
    (hgo : gs.Goes (model prog w) A.in1 (fun n s₀ r s₁ => r = .ok (.ret .none) ∧ P n s₀ s₁) Y n (.send .none) (s.setGen g .running))
    (hY : ∀ v s₁ gs', gs'.bare = true → Y (n - 1) (s.setGen g .running) v s₁ (fun r' s'' => match n with
        | 0 => False
        | m + 1 => gs'.Goes (model prog w) A.in1 (fun n s₀ r s₁ => r = .ok (.ret .none) ∧ P n s₀ s₁) Y m r' s'') → Q (some v) (s₁.setGen g gs'))
    (hP : ∀ s₁, P n (s.setGen g .running) s₁ → ∀ h', (∀ b o, s₁.heap.get? b = some o → h'.get? b = some o) → Q none { s₁.setGen g .finished with heap := h' }) :
    wpAny (model prog w) A (pyNext (.ref a)) Q E s := by
  unfold pyNext
  refine wpAny_bind (wpAny_attempt (wpAny_callSpecial?_slot (name := Str.ofString "__next__") hg.typeIs slot_gen_next
    (wpAny_call_entry slot_gen_next hg.typeIs entry_gen_next ?_ (args_gen_next _))))
  show wpAny _ A.in1 (Builtin.Generator.genWake (.ref a) (.send .none)) _ _ s
  unfold Builtin.Generator.genWake
  refine wpAny_bind (wpAny_holding (wpAny_genNumber hg (wpAny_bind (wpAny_genState hgs ?_))))
  cases gs with
  | running => exact hgo.elim
  | finished => exact hgo.elim
  | _ =>
    refine wpAny_bind (wpAny_roomToWake hl hroom ?_)
    show wpAny _ A.in1 (.resume g (.send .none) [] _) _ _ s
    refine wpAny_resumeQ hgs hgo (fun z s₁ hx => ?_) (fun v s₁ gs' hb hv => wpAny_pure ⟨v, rfl, wpAny_pure (hY v s₁ gs' hb hv)⟩)
    obtain ⟨rfl, hp⟩ := hx
    show wpAny _ A.in1 (newExc (.type "StopIteration") [] >>= _) _ _ _
    refine wpAny_bind ?_
    simp only [newExc, newTuple]
    refine wpAny_bind (wpAny_newObj_type ?_ (by size_fits))
    refine wpAny_bind (m := firstArgMember _ _) (wpAny_of_eq (a := Value.none) (by first | rfl | (simp only [firstArgMember]; rfl)) ?_)
    refine wpAny_newObj_type ?_ (by size_fits)
    simp only [raiseNew]
    refine wpAny_bind (wpAny_bind (wpAny_handled ?_))
    rw [show A.in1.handled = none from hh]
    refine wpAny_throw (wpAny_bind (wpAny_isInstance (T := "StopIteration") (b := true) ⟨_, Heap.get?_push_size _ rfl, rfl⟩ isSubtype_stop ?_))
    exact wpAny_pure (hP s₁ hp _ fun b o hb => Heap.get?_push_of_some _ (Heap.get?_push_of_some _ hb))
end

theorem letOwned_plain {M : Model} {A : Around} {E : Value → Shared → Prop} {s : Shared} {I : Addr} {o : Obj} {t : Expr} {v : Value} {R : Unit → Shared → Prop} {ty : String} {vs : Array Value} (ho : s.heap.get? I = some o) (h1 : o.cls = .type ty) (h2 : ownedNames.contains ty = false) (h3 : o.data = .fields vs) (h : R () s) : wpAny M A (letOwnedTupleGo t (.ref I) v) R E s := by
  unfold letOwnedTupleGo
  have key : wpAny M A (do
      let o ← load I
      match o.cls, o.data with
        | Value.type n, Data.fields vs =>
          if (ownedNames.contains n && vs[0]? == some (rawInt ↑(match v with | .ref a => a | _ => 0))) = true then do
            rule "for.unpacks-the-owned-tuple"
            updateField I 0 Value.none
          else pure ()
        | x, x_1 => pure () : Sem Unit) R E s := by
    refine wpAny_bind (wpAny_load ho ?_)
    rw [h1, h3]
    show wpAny M A (if (ownedNames.contains ty && _) = true then _ else _) R E s
    rw [h2, Bool.false_and, if_neg (by decide)]
    exact wpAny_pure h
  split
  · split
    · rename_i e; cases e; exact key
    · exact wpAny_pure h
  · split
    · rename_i e; cases e; exact key
    · exact wpAny_pure h
  · exact wpAny_pure h

section
variable {D : Dt} {c : Sct} {vars : List (Option Str)} {env : Env} {A : Around} {x : Str} {code : Code} {a : Addr} {g : Nat} {h0 : Heap}
/-- the generator's state, i items drawn -/
inductive GSt (D : Dt) (A : Around) (vars : List (Option Str)) (env : Env) (x : Str) (code : Code) (a : Addr) (g : Nat) (h0 : Heap) : (Addr → Prop) → (Addr → Prop) → Nat → Shared → Prop where
  | new (s : Shared) (ρ : Rho) : s.heap.IsGen a g → s.gens[g]? = some (.fresh code) → GV env vars ρ s.heap → AllSc ρ → ρ 0 = some (.fz (.str x)) → GSt D A vars env x code a g h0 (fun b => b = env.locals ∨ b = a) (fun b => b = env.locals) 0 s
  | held (i : Nat) (s : Shared) (e it : Addr) (gs : GenState) (Inv : Heap → Prop) : s.heap.IsGen a g → h0.get? e = none → h0.get? it = none → a ≠ e → a ≠ it → s.gens[g]? = some gs → Inv s.heap → InvOk (Wg env e it) Inv →
     (∀ s'', DtB D s'' → Inv s''.heap → gs.Goes D.M A.in1 (GR D env e it) (GY D env e it (escV x)) ((escV x).length - i) (.send .none) s'') → GSt D A vars env x code a g h0 (fun b => Wg env e it b ∨ b = a) (Wg env e it) i s
theorem GSt.isGen {code : Code} {fp W : Addr → Prop} {i : Nat} {s : Shared} (st : GSt D A vars env x code a g h0 fp W i s) : s.heap.IsGen a g := by induction st <;> assumption

theorem DtB.setGen {s : Shared} {g : Nat} {y : GenState} (b : DtB D s) : DtB D (s.setGen g y) := ⟨b.ok, b.dt, b.base, b.tab⟩

/-- what one resumption of it gives, told for the loop -/
theorem gstep {e it : Addr} {W : Addr → Prop} {N0 : Addr → Prop} {i : Nat} {gs gs' : GenState} {s s₁ : Shared} {v : Value} {y : PV} (hal : a ≠ env.locals) (hae : a ≠ e) (hai : a ≠ it) (hl0 : h0.get? env.locals = none) (he0 : h0.get? e = none) (hi0 : h0.get? it = none) (hi : i < (escV x).length) (hg : s.heap.IsGen a g) (hgs : s.gens[g]? = some gs) (bs : DtB D s) (hbare : gs'.bare = true)
    (hW : ∀ b o, s.heap.get? b = some o → Wg env e it b → W b) (hWn : ∀ b, Wg env e it b → W b ∨ s.heap.get? b = none) (hWl : W env.locals) (hN : ∀ b, N0 b → b = env.locals) (hx : (escV x)[i]? = some y)
    (hy : GY D env e it (escV x) ((escV x).length - i - 1) (s.setGen g .running) v s₁ (fun r' s'' => match (escV x).length - i with
        | 0 => False
        | m + 1 => gs'.Goes D.M A.in1 (GR D env e it) (GY D env e it (escV x)) m r' s'')) :
    Got D.T No (fun b => W b ∨ b = a) W N0 (· = g) (GSt D A vars env x code a g h0) (i + 1) s y (s₁.setGen g gs') (some v) := by
  obtain ⟨Inv, z, hz, d, gd, lo, b1, iv, ok, hk⟩ := hy
  have hidx : (escV x).length - 1 - ((escV x).length - i - 1) = i := by omega
  rw [hidx, hx] at hz
  obtain rfl := Option.some.inj hz
  obtain ⟨m, hm⟩ : ∃ m, (escV x).length - i = m + 1 := ⟨(escV x).length - i - 1, by grind⟩
  have ta : ¬ TA D.T a := by obtain ⟨o, nm, qn, eo, c1, _⟩ := hg; exact bs.tab.ne eo (by rintro ps rfl; cases c1)
  have hg1 : s₁.heap.IsGen a g := by
    obtain ⟨o, nm, qn, eo, r⟩ := hg
    exact ⟨o, nm, qn, gd.kp a o ta (fun w => w.elim hal fun w => w.elim hae hai) eo, r⟩
  have hsz : s.gens.size ≤ s₁.gens.size := Nat.le_trans (Nat.le_of_eq (by simp [Shared.setGen])) gd.gs
  have hglt : g < s.gens.size := (Array.getElem?_eq_some_iff.mp hgs).1
  refine ⟨v, _, _, ⟨fun b o n w eb => gd.kp b o n (fun q => w (hW b o eb q)) eb, gd.tab, gd.os, fun j hj hne => ?_, Nat.le_trans hsz (Nat.le_of_eq (by simp [Shared.setGen])), fun hb z hz => ?_⟩, fun b o hn _ _ => ?_, d.to fun b o p _ _ => .inr p, .held (i + 1) _ e it gs' Inv hg1 he0 hi0 hae hai ?_ iv ok fun s'' bs' iv' => ?_, fun b hb => ?_, fun b hb => hWn b hb⟩
  · have h1 := gd.gk j (by simpa [Shared.setGen] using hj) (fun f => f)
    show (s₁.gens.setIfInBounds g gs')[j]? = s.gens[j]?
    rw [Array.getElem?_setIfInBounds_ne (fun q => hne q.symm), h1]
    show (s.gens.setIfInBounds g .running)[j]? = s.gens[j]?
    rw [Array.getElem?_setIfInBounds_ne (fun q => hne q.symm)]
  · have hb1 : AllBare s₁.gens := gd.gb fun y hy => by
      have hy' : y ∈ s.gens.setIfInBounds g .running := hy
      rcases Array.mem_or_eq_of_mem_setIfInBounds hy' with h | rfl
      · exact hb y h
      · rfl
    have hz' : z ∈ s₁.gens.setIfInBounds g gs' := hz
    rcases Array.mem_or_eq_of_mem_setIfInBounds hz' with h | rfl
    · exact hb1 z h
    · exact hbare
  · rw [hN b hn]; exact lo
  · show (s₁.gens.setIfInBounds g gs')[g]? = some gs'
    exact Array.getElem?_setIfInBounds_self_of_lt (Nat.lt_of_lt_of_le hglt hsz)
  · have := hk s'' bs' iv'
    rw [hm] at this
    have e2 : (escV x).length - (i + 1) = m := by grind
    rw [e2]; exact this
  · rcases hb with h | h
    · rcases hWn b h with h | h
      · exact .inl (.inl h)
      · exact .inr h
    · exact .inl (.inr h)

theorem wg_new {s : Shared} {b : Addr} {o : Obj} (eb : s.heap.get? b = some o) (w : Wg env (s.heap.objs.size + 1) s.heap.objs.size b) : b = env.locals := by
  rcases w with h | h | h
  · exact h
  · rw [h, getNone (Nat.le_succ _)] at eb; cases eb
  · rw [h, getNone (Nat.le_refl _)] at eb; cases eb
theorem gen_fin {V W : Addr → Prop} {s s₁ : Shared} {h' : Heap} (gd : GrD D.T V No (s.setGen g .running) s₁) (hW : ∀ b o, s.heap.get? b = some o → V b → W b) (hk : ∀ b o, s₁.heap.get? b = some o → h'.get? b = some o) : GrD D.T W (· = g) s { s₁.setGen g .finished with heap := h' } := by
  refine ⟨fun b o n w eb => hk b o (gd.kp b o n (fun q => w (hW b o eb q)) eb), gd.tab.keeps hk, gd.os, fun j hj hne => ?_, Nat.le_trans (Nat.le_of_eq (by simp [Shared.setGen])) (Nat.le_trans gd.gs (Nat.le_of_eq (by simp [Shared.setGen]))), fun hb z hz => ?_⟩
  · have h1 := gd.gk j (by simpa [Shared.setGen] using hj) (fun f => f)
    show (Array.setIfInBounds _ g .finished)[j]? = s.gens[j]?
    rw [Array.getElem?_setIfInBounds_ne (fun q => hne q.symm), h1]
    show (s.gens.setIfInBounds g .running)[j]? = s.gens[j]?
    rw [Array.getElem?_setIfInBounds_ne (fun q => hne q.symm)]
  · have hb1 := gd.gb fun y hy => by
      have hy' : y ∈ s.gens.setIfInBounds g .running := hy
      rcases Array.mem_or_eq_of_mem_setIfInBounds hy' with h | rfl
      · exact hb y h
      · rfl
    have hz' := Array.mem_or_eq_of_mem_setIfInBounds (show z ∈ Array.setIfInBounds _ g .finished from hz)
    rcases hz' with h | rfl
    · exact hb1 z h
    · rfl

variable {n : Nat}
variable {st5 st6 : Stmt} {elts : List Expr} {kT : Nat} {pT : Pos} {eEsc eEsc2 eCmp t1 t2 t3 e1 e2 : Expr} {y1 y1' y2 y2' y3 y3' pIf1 pIf2 pIf3 pF q1 q2 q3 u1 u2 u3 u4 : Pos} {xa xp xe : Str}

theorem wd_gen (X : GStat D c vars env) (Z : GParts D c vars xa xp xe st5 st6 elts kT pT eEsc eEsc2 eCmp t1 t2 t3 e1 e2) (hA : OkA 6 A) (hal : a ≠ env.locals) (hl0 : h0.get? env.locals = none) (ha0 : h0.get? a = none) :
    Wd D A (.ref a) No (escV x) (fun b => h0.get? b = none) (fun b => b = env.locals) (· = g)
      (GSt D A vars env x (.func (gBody xa xp xe st5 st6 elts kT pT eEsc eEsc2 eCmp t1 t2 t3 e1 e2 y1 y1' y2 y2' y3 y3' pIf1 pIf2 pIf3 pF q1 q2 q3 u1 u2 u3 u4) env) a g h0) where
  item := fun fp W i s y bs hV st hx => by
    have hi : i < (escV x).length := (List.getElem?_eq_some_iff.mp hx).1
    have room : A.depth < recursionLimit := by have := hA.2.1; unfold recursionLimit; omega
    induction st with
    | new s ρ hg hgs gv sc hr =>
      have alt : a < s.heap.objs.size := by obtain ⟨o, nm, qn, eo, _⟩ := hg; exact Heap.lt_size eo
      refine pyNext_genQ (Q := fun r s' => Got D.T No _ _ _ _ _ _ s y s' r) (P := fun n s₀ s₁ => n = 0 ∧ GrD D.T (Wg env (s.heap.objs.size + 1) s.heap.objs.size) No s₀ s₁) (Y := GY D env (s.heap.objs.size + 1) s.heap.objs.size (escV x)) (n := (escV x).length) hA.1 bs.dt.lim room hg hgs ⟨rfl, seg_start X Z (hA.in1 (by decide)) (GV.st (s := s.setGen g .running) X gv bs.setGen) sc hr⟩ (fun v s₁ gs' hb hy => gstep (i := 0) (e := s.heap.objs.size + 1) (it := s.heap.objs.size) hal (Nat.ne_of_lt (Nat.lt_succ_of_lt alt)) (Nat.ne_of_lt alt) hl0 (hV _ (getNone (Nat.le_succ _))) (hV _ (getNone (Nat.le_refl _))) hi hg hgs bs hb (fun b o eb w => ?_) (fun b w => ?_) rfl (fun _ h => h) hx hy) (fun s₁ hp h' hk => absurd hp.1 (Nat.ne_zero_of_lt hi))
      · exact wg_new eb w
      · rcases w with h | h | h
        · exact .inl h
        · exact .inr (h ▸ getNone (Nat.le_succ _))
        · exact .inr (h ▸ getNone (Nat.le_refl _))
    | held i s e it gs Inv hg he0 hi0 hae hai hgs iv ok hgo =>
      exact pyNext_genQ (Q := fun r s' => Got D.T No _ _ _ _ _ _ s y s' r) (P := fun n s₀ s₁ => n = 0 ∧ GrD D.T (Wg env e it) No s₀ s₁) (Y := GY D env e it (escV x)) (n := (escV x).length - i) hA.1 bs.dt.lim room hg hgs (hgo _ bs.setGen iv) (fun v s₁ gs' hb hy => gstep (i := i) (e := e) (it := it) hal hae hai hl0 he0 hi0 hi hg hgs bs hb (fun b o eb w => w) (fun b w => .inl w) (.inl rfl) (fun _ h => h) hx hy) (fun s₁ hp h' hk => absurd hp.1 (Nat.sub_ne_zero_iff_lt.mpr hi))
  done := fun fp W s bs st => by
    have room : A.depth < recursionLimit := by have := hA.2.1; unfold recursionLimit; omega
    generalize hl : (escV x).length = L at st
    induction st with
    | new s ρ hg hgs gv sc hr =>
      refine pyNext_genQ (P := fun n s₀ s₁ => n = 0 ∧ GrD D.T (Wg env (s.heap.objs.size + 1) s.heap.objs.size) No s₀ s₁) (Y := GY D env (s.heap.objs.size + 1) s.heap.objs.size (escV x)) (n := (escV x).length) hA.1 bs.dt.lim room hg hgs ⟨rfl, seg_start X Z (hA.in1 (by decide)) (GV.st (s := s.setGen g .running) X gv bs.setGen) sc hr⟩ (fun v s₁ gs' hb hy => ?_) (fun s₁ hp h' hk => ⟨rfl, gen_fin hp.2 (fun b o eb w => wg_new eb w) hk⟩)
      obtain ⟨Inv, z, hz, d, gd, lo, b1, iv, ok, hkp⟩ := hy
      have := hkp s₁ b1 iv
      rw [hl] at this; exact this.elim
    | held i s e it gs Inv hg he0 hi0 hae hai hgs iv ok hgo =>
      refine pyNext_genQ (P := fun n s₀ s₁ => n = 0 ∧ GrD D.T (Wg env e it) No s₀ s₁) (Y := GY D env e it (escV x)) (n := (escV x).length - i) hA.1 bs.dt.lim room hg hgs (hgo _ bs.setGen iv) (fun v s₁ gs' hb hy => ?_) (fun s₁ hp h' hk => ⟨rfl, gen_fin hp.2 (fun b o eb w => w) hk⟩)
      obtain ⟨Inv, z, hz, d, gd, lo, b1, iv, ok, hkp⟩ := hy
      have := hkp s₁ b1 iv
      rw [hl, Nat.sub_self] at this; exact this.elim
  frame := fun fp W i s s' st hk hq hg => by
    have kg : ∀ y, s.gens[g]? = some y → s'.gens[g]? = some y := fun y e => (hg g (Array.getElem?_eq_some_iff.mp e).1).trans e
    have ka : fp a → s'.heap.IsGen a g := fun h => by obtain ⟨o, nm, qn, eo, r⟩ := st.isGen; exact ⟨o, nm, qn, hk a o h eo, r⟩
    induction st with
    | new s ρ _ hgs gv sc hr => exact .new _ ρ (ka (.inr rfl)) (kg _ hgs) (gv.keep X sc fun o eo => hk _ o (.inl rfl) eo) sc hr
    | held i s e it gs Inv _ he0 hi0 hae hai hgs iv ok hgo => exact .held _ _ e it gs Inv (ka (.inr rfl)) he0 hi0 hae hai (kg _ hgs) (ok.frame _ _ iv fun b o hb eb => hk b o (.inl hb) eb) ok hgo
  live := fun fp W i s b st hb => by
    have la : ∃ o, s.heap.get? a = some o ∧ (∀ ps, o ≠ tabObj ps) ∧ (W a → ¬ LT o) := by
      obtain ⟨o, nm, qn, eo, c1, d, _⟩ := st.isGen
      exact ⟨o, eo, (by rintro ps rfl; cases c1), fun _ l => l.notFields d⟩
    induction st with
    | new s ρ _ hgs gv sc hr =>
      rcases hb with rfl | rfl
      · obtain ⟨m, ⟨o, es, ep, eo, hd, _⟩, _⟩ := gv
        exact ⟨o, eo, (by rintro ps rfl; cases hd), fun _ l => l.notDict hd⟩
      · exact la
    | held i s e it gs Inv _ he0 hi0 hae hai hgs iv ok hgo =>
      rcases hb with hb | rfl
      · obtain ⟨o, e3, nt, nl⟩ := ok.live _ b iv hb
        exact ⟨o, e3, nt, fun _ => nl⟩
      · exact la
  sub := fun fp W i s b st w => by induction st <;> exact .inl w
  v := fun fp W i s b st w => by
    induction st with
    | new s => rw [show b = env.locals from w]; exact hl0
    | held i s e it gs Inv _ he0 hi0 =>
      rcases w with rfl | rfl | rfl
      · exact hl0
      · exact he0
      · exact hi0
  go := fun fp W i s t v R E st h => by
    obtain ⟨o, nm, qn, eo, c1, d, _⟩ := st.isGen
    exact letOwned_plain eo c1 (by decide) d h
  self := fun fp W i s R E st h => wpAny_pyIter_gen st.isGen h
end
end Mine
end
section
namespace Mine

section
theorem bindL_skip {k : Str → Option NameKind} {x : Str} : ∀ (bs : List (Str × Value)) (m : Str → Option Value), (∀ y ∈ bs, y.1 ≠ x) → bindL k bs m x = m x
  | [], m, _ => rfl
  | (n, v) :: r, m, h => by
    unfold bindL
    rw [bindL_skip r _ fun y hy => h y (.tail _ hy)]
    split
    · dsimp only; rw [if_neg fun e => h (n, v) (.head _) e.symm]
    · rfl
theorem bindC_skip {k : Str → Option NameKind} {x : Str} : ∀ (bs : List (Str × Value)) (m : Str → Option Value), (∀ y ∈ bs, y.1 ≠ x) → bindC k bs m x = m x
  | [], m, _ => rfl
  | (n, v) :: r, m, h => by
    unfold bindC
    rw [bindC_skip r _ fun y hy => h y (.tail _ hy)]
    split
    · rfl
    · dsimp only; rw [if_neg fun e => h (n, v) (.head _) e.symm]
theorem bindL_at {k : Str → Option NameKind} {x : Str} {v : Value} (hk : k x = some .local) : ∀ (bs : List (Str × Value)) (m : Str → Option Value), (bs.map (·.1)).Nodup → (x, v) ∈ bs → bindL k bs m x = some v
  | (n, w) :: r, m, hn, hm => by
    obtain ⟨h1, h2⟩ := List.nodup_cons.mp hn
    unfold bindL
    rcases List.mem_cons.mp hm with e | hm
    · cases e
      rw [bindL_skip r _ fun y hy e => h1 (List.mem_map.mpr ⟨y, hy, e⟩), if_pos hk]
      exact if_pos rfl
    · exact bindL_at hk r _ h2 hm
theorem bindC_at {k : Str → Option NameKind} {x : Str} {v : Value} (hk : k x ≠ some .local) : ∀ (bs : List (Str × Value)) (m : Str → Option Value), (bs.map (·.1)).Nodup → (x, v) ∈ bs → bindC k bs m x = some v
  | (n, w) :: r, m, hn, hm => by
    obtain ⟨h1, h2⟩ := List.nodup_cons.mp hn
    unfold bindC
    rcases List.mem_cons.mp hm with e | hm
    · cases e
      rw [bindC_skip r _ fun y hy e => h1 (List.mem_map.mpr ⟨y, hy, e⟩), if_neg hk]
      exact if_pos rfl
    · exact bindC_at hk r _ h2 hm
theorem cellsFrom_has {x : Str} : ∀ (names : List (Str × NameKind)) (n : Nat) (acc : List (Str × Addr)), ((x, NameKind.cell) ∈ names ∨ ∃ c, (x, c) ∈ acc) → ∃ c, (x, c) ∈ cellsFrom n names acc
  | [], n, acc, h => by
    rcases h with h | h
    · cases h
    · exact h
  | (y, k) :: r, n, acc, h => by
    unfold cellsFrom
    split
    · rename_i hk
      refine cellsFrom_has r _ _ ?_
      rcases h with h | ⟨c, h⟩
      · rcases List.mem_cons.mp h with e | h
        · cases e; exact .inr ⟨_, .head _⟩
        · exact .inl h
      · exact .inr ⟨c, .tail _ h⟩
    · rename_i hk
      refine cellsFrom_has r _ _ ?_
      rcases h with h | h
      · rcases List.mem_cons.mp h with e | h
        · cases e; exact absurd rfl hk
        · exact .inl h
      · exact .inr h
theorem lookup_of_mem {α : Type} {x : Str} {c : α} : ∀ {l : List (Str × α)}, (x, c) ∈ l → ∃ d, l.lookup x = some d
  | (y, d) :: r, m => by
    rw [List.lookup_cons]
    cases hb : x == y with
    | true => exact ⟨d, rfl⟩
    | false =>
      rcases List.mem_cons.mp m with e | m
      · cases e; simp at hb
      · exact lookup_of_mem m

/-- a function's sheet -/
noncomputable def sctOf (fd : FuncData) : Sct := ⟨fd.scope, fd.code, fd.qualname ++ ".<locals>.", none⟩
noncomputable def parR (xs : List PV) : Rho := fun i => (xs[i]?).map .fz
noncomputable def outV : Out → PV
  | .ret x => x
  | .next _ => .none
noncomputable def funF (k : Nat) (f : Rho → Option Out) : List PV → Option PV := fun xs => if xs.length = k then (f (parR xs)).map outV else none
noncomputable def funOk (fd : FuncData) (ps : List Str) (vars : List (Option Str)) : Bool :=
  fd.scope.kind == .function && !fd.scope.isCoroutine && !fd.scope.isGenerator && fd.globals == mainGlobals && fd.builtins == builtinsNs && goodNames vars fd.scope && distinctV vars && distinctV (ps.map some) &&
  decide (ps.map some = vars.take ps.length) && ps.all (fun x => fd.scope.names.lookup x == some .local || fd.scope.names.lookup x == some .cell) && decide (vars.length ≤ 1000)

theorem distinctV_ps : ∀ {ps : List Str}, distinctV (ps.map some) = true → ps.Nodup
  | [], _ => .nil
  | x :: r, h => by
    simp only [List.map_cons, distinctV, Bool.and_eq_true, Bool.not_eq_true'] at h
    refine List.nodup_cons.mpr ⟨fun m => ?_, distinctV_ps h.2⟩
    have : (r.map some).contains (some x) = true := List.contains_iff_mem.mpr (List.mem_map.mpr ⟨x, m, rfl⟩)
    rw [h.1] at this; cases this
end

section
variable {D : Dt}

/-- the frame of a call begins -/
theorem StE.enter {env : Env} {vars : List (Option Str)} {xs : List PV} {vs : List Value} {s s1 : Shared} {ps : List Str} {m : Str → Option Value}
    (dt : DtOk (D.at s.heap)) (keep : ∀ b o, s.heap.get? b = some o → s1.heap.get? b = some o) (eo : EnvOk env) (gn : goodNames vars env.scope = true) (dv : distinctV vars = true) (hv : ps.map some = vars.take ps.length)
    (hl : s.heap.get? env.locals = none) (hcn : ∀ x, env.kindOf x = some .cell → ∃ c v, env.cells.lookup x = some c ∧ s.heap.get? c = none ∧ s1.heap.IsCell c v) (hca : ∀ x c, env.cells.lookup x = some c → ∃ o, s1.heap.get? c = some o)
    (hcd : ∀ x y c, env.cells.lookup x = some c → env.cells.lookup y = some c → x = y) (hm : s1.heap.Ns env.locals m) (hlen : xs.length = ps.length) (hden : DenL All s.heap xs vs)
    (hps : ∀ (i : Nat) x v, ps[i]? = some x → vs[i]? = some v → VarAt env m s1.heap x v) : StE (D.at s.heap) env vars (fun _ => []) (parR xs) s1 := by
  have tab : TabOk D.T s1.heap := dt.tab.keeps keep
  refine ⟨dt, fun b o _ e => keep b o e, tab, eo, gn, fun i j x h1 h2 => distinctV_ok dv i j x h1 h2, fun a ma => ?_, fun i a m => (nomatch m), fun i j a m => (nomatch m), fun i => .nil, fun i _ _ => rfl, fun x hx => ?_, hca, hcd, m, hm, fun i x sl hx hr => ?_⟩
  · rcases ma with rfl | ⟨x, hx, hc⟩ | ⟨i, m⟩
    · exact hl
    · obtain ⟨c, v, e, f, _⟩ := hcn x hx
      rw [hc] at e; cases e; exact f
    · cases m
  · obtain ⟨c, v, e, _, f⟩ := hcn x hx
    exact ⟨c, v, e, f⟩
  · unfold parR at hr
    obtain ⟨y, hy, rfl⟩ := Option.map_eq_some_iff.mp hr
    obtain ⟨v, hv', d⟩ := hden.get hy
    have hi : i < ps.length := by rw [← hlen]; exact (List.getElem?_eq_some_iff.mp hy).1
    have hp : ps[i]? = some x := by
      have e : (vars.take ps.length)[i]? = some (some x) := by rw [List.getElem?_take, if_pos hi]; exact hx
      rw [← hv, List.getElem?_map] at e
      obtain ⟨z, hz, ez⟩ := Option.map_eq_some_iff.mp e
      cases ez; exact hz
    refine ⟨v, hps i x v hp hv', ?_⟩
    exact d.imp fun b o _ _ e => ⟨keep b o e, fun i m => (nomatch m)⟩

noncomputable def flV : Flow → Value
  | .ret v => v
  | _ => .none
/-- what a body gives back -/
theorem out_ret {D : Dt} {env : Env} {vars : List (Option Str)} {s s1 s' : Shared} {o : Out} {fl : Flow} (t : TabOk D.T s.heap) (g : Grow D.T s s1) (S1 : StE (D.at s.heap) env vars (fun _ => []) (parR xs) s1) (h : OutOk (D.at s.heap) env vars (fun _ => []) s1 o fl s') :
    Grow D.T s s' ∧ Den (fun a => s.heap.get? a = none) s'.heap (outV o) (flV fl) := by
  have nm : ∀ b o, s.heap.get? b = some o → ¬ Mut env (fun _ => []) b := fun b o e m => by
    have := S1.mn b m
    have : s.heap.get? b = none := this
    rw [this] at e; cases e
  have fin : Gr D.T (Mut env fun _ => []) s1 s' → Grow D.T s s' := fun k => g.trans k t (fun _ h => h.elim) fun b o e m => (nm b o e m).elim
  cases o with
  | ret x =>
    cases fl with
    | ret v => exact ⟨fin h.1, h.2⟩
    | next => exact h.elim
    | brk => exact h.elim
    | cont => exact h.elim
  | next ρ' =>
    cases fl with
    | next => obtain ⟨own', S', tk⟩ := h; exact ⟨fin tk.g, den_none⟩
    | ret v => exact h.elim
    | brk => exact h.elim
    | cont => exact h.elim

theorem of_lenS {n : Nat} {P : List Value → Prop} (h : ∀ a t, t.length = n → P (a :: t)) : ∀ l : List Value, l.length = n + 1 → P l := fun l e => by
  cases l with
  | nil => cases e
  | cons a t => exact h a t (Nat.succ.inj e)
theorem of_len1 {P : List Value → Prop} (h : ∀ a, P [a]) : ∀ l : List Value, l.length = 1 → P l := of_lenS fun a _ e => List.eq_nil_of_length_eq_zero e ▸ h a
theorem of_len2 {P : List Value → Prop} (h : ∀ a b, P [a, b]) : ∀ l : List Value, l.length = 2 → P l := of_lenS fun a => of_len1 (P := fun t => P (a :: t)) (h a)
theorem of_len3 {P : List Value → Prop} (h : ∀ a b c, P [a, b, c]) : ∀ l : List Value, l.length = 3 → P l := of_lenS fun a => of_len2 (P := fun t => P (a :: t)) (h a)
theorem of_len6 {P : List Value → Prop} (h : ∀ a b c d e f, P [a, b, c, d, e, f]) : ∀ l : List Value, l.length = 6 → P l := of_lenS fun a => of_lenS (P := fun t => P (a :: t)) fun b => of_lenS (P := fun t => P (a :: b :: t)) fun c => of_len3 (P := fun t => P (a :: b :: c :: t)) (h a b c)
/-- a function of the module's -/
theorem cn_fun {a : Addr} {fd : FuncData} {ps : List Str} {vars : List (Option Str)} {body : List Stmt} {f : Rho → Option Out} {n : Nat}
    (hfn : D.fn a = some fd) (hbody : fd.body = .stmts body) (hclo : fd.closure = []) (hok : funOk fd ps vars = true)
    (hbind : ∀ vals : List Value, vals.length = ps.length → bindArgs fd ⟨vals, []⟩ = pure (ps.zip vals))
    (hb : ∀ h, Sx (D.at h) n (sctOf fd) vars body f) : Cn D (n + 1) (.ref a) (funF ps.length f) := fun A s xs vs x hA dt d hF => by
  unfold funF at hF
  split at hF
  · rename_i hlen
    obtain ⟨o, ho, rfl⟩ := Option.map_eq_some_iff.mp hF
    simp only [funOk, Bool.and_eq_true, beq_iff_eq, Bool.not_eq_true', List.all_eq_true, Bool.or_eq_true, decide_eq_true_eq] at hok
    obtain ⟨⟨⟨⟨⟨⟨⟨⟨⟨⟨k1, k2⟩, k3⟩, k4⟩, k5⟩, k6⟩, k7⟩, k8⟩, k9⟩, k10⟩, k11⟩ := hok
    obtain ⟨fo, e, hd, hr⟩ := dt.fns a fd hfn
    have vlen : vs.length = ps.length := d.length.trans hlen
    have hz : (ps.zip vs).map (·.1) = ps := by rw [List.map_fst_zip]; exact Nat.le_of_eq (id (Eq.symm vlen))
    refine wpAny_call (codeAny_call_cells (vals := vs) (binds := ps.zip vs) (body := body) (fd := fd) ?_ e hd dt.lim hr hbody (hbind vs vlen) hclo (fun y hy => ?_) (fun s1 x1 => ?_) k2 k3 k1)
    · have := hA.2.1; unfold recursionLimit; grind
    · have := k10 y.1 (hz ▸ List.mem_map_of_mem hy)
      rcases this with q | q
      · exact .inl q
      · obtain ⟨c, hc⟩ := cellsFrom_has fd.scope.names (s.heap.objs.size + 1) [] (x := y.1) (.inl (mem_of_lookup q))
        obtain ⟨c', hc'⟩ := lookup_of_mem hc
        exact .inr ⟨q, by rw [hc']; rfl⟩
    · obtain ⟨h', tk, rfl⟩ := x1.toInCall.same
      have hS : StE (D.at s.heap) (callEnvC fd s.heap.objs.size a) vars (fun _ => []) (parR xs) { s with heap := h', toks := tk } := by
        refine StE.enter (ps := ps) (vs := vs) dt x1.toInCall.keep ⟨k1, k4, k5, k2⟩ k6 k7 k9 (fresh_at _) (fun y hy => ?_) (fun y c hc => ?_) (fun y z c h1 h2 => name_of_addr x1.apart (mem_of_lookup h1) (mem_of_lookup h2)) x1.toInCall.ns hlen d fun i y v hy hv => ?_
        · obtain ⟨c, hc⟩ := cellsFrom_has fd.scope.names (s.heap.objs.size + 1) [] (x := y) (.inl (mem_of_lookup hy))
          obtain ⟨c', hc'⟩ := lookup_of_mem hc
          refine ⟨c', _, hc', ?_, x1.cell y c' hc'⟩
          have : s.heap.objs.size < c' := x1.above y c' (mem_of_lookup hc')
          cases q : s.heap.get? c' with
          | none => rfl
          | some ob => exact absurd (Nat.lt_trans (Heap.lt_size q) this) (Nat.lt_irrefl _)
        · obtain ⟨ob, e, _⟩ := x1.cell y c hc; exact ⟨ob, e⟩
        · have hm : (y, v) ∈ ps.zip vs := by
            refine List.mem_of_getElem? (i := i) ?_
            rw [List.getElem?_zip_eq_some]; exact ⟨hy, hv⟩
          have nd : ((ps.zip vs).map (·.1)).Nodup := by rw [hz]; exact distinctV_ps k8
          unfold VarAt
          rcases k10 y (List.mem_of_getElem? hy) with q | q
          · have q' : (callEnvC fd s.heap.objs.size a).kindOf y = some .local := q
            rw [q']; exact bindL_at q' _ _ nd hm
          · have q' : (callEnvC fd s.heap.objs.size a).kindOf y = some .cell := q
            rw [q']
            obtain ⟨c, hc⟩ := cellsFrom_has fd.scope.names (s.heap.objs.size + 1) [] (x := y) (.inl (mem_of_lookup q))
            obtain ⟨c', hc'⟩ := lookup_of_mem hc
            refine ⟨c', hc', ?_⟩
            have := x1.cell y c' hc'
            rw [bindC_at (by rw [q']; decide) _ _ nd hm] at this
            exact this
      have gr : Grow D.T s { s with heap := h', toks := tk } := .of dt.tab x1.toInCall.keep
      refine wpAny_mono (hb s.heap _ _ _ _ _ _ ⟨rfl, rfl, rfl, fun _ h => nomatch h⟩ (hA.deeper (Nat.lt_succ_self n)) hS ho) (fun fl s' h => ?_) fun _ _ q => q.elim
      have q := out_ret dt.tab gr hS h
      cases fl <;> exact q
  · cases hF
end
end Mine
end
section
namespace Mine

noncomputable def genOk (fd : FuncData) (xa : Str) (vars : List (Option Str)) : Bool :=
  fd.scope.kind == .function && !fd.scope.isCoroutine && fd.scope.isGenerator && fd.globals == mainGlobals && fd.builtins == builtinsNs && goodNames vars fd.scope && distinctV vars &&
  fd.scope.names.all (fun x => x.2 != .cell) && fd.scope.names.lookup xa == some .local
noncomputable def toEsc : PV → Option (List PV)
  | .str x => some (escV x)
  | _ => none
noncomputable def genIt (f : Rho → Option PV) : Rho → Option (List PV) := fun ρ => (f ρ).bind toEsc

section
variable {D : Dt} {c : Sct} {vars varsG : List (Option Str)} {n : Nat} {fd : FuncData} {av : Addr}
variable {st5 st6 : Stmt} {elts : List Expr} {kT : Nat} {pT : Pos} {eEsc eEsc2 eCmp t1 t2 t3 e1 e2 : Expr} {y1 y1' y2 y2' y3 y3' pIf1 pIf2 pIf3 pF q1 q2 q3 u1 u2 u3 u4 : Pos} {xa xp xe : Str}

theorem it_gen0 {id : Str} {p pos : Pos} {e : Expr} {f : Rho → Option PV} (h : Ex D n c vars .raw e f) (hv : Gv D id (.ref av)) (hk : c.sc.names.lookup id = some .globalImplicit) (hn : 6 ≤ n) (hfn : D.fn av = some fd)
    (Z : GParts D (sctOf fd) varsG xa xp xe st5 st6 elts kT pT eEsc eEsc2 eCmp t1 t2 t3 e1 e2)
    (hbody : fd.body = .stmts (gBody xa xp xe st5 st6 elts kT pT eEsc eEsc2 eCmp t1 t2 t3 e1 e2 y1 y1' y2 y2' y3 y3' pIf1 pIf2 pIf3 pF q1 q2 q3 u1 u2 u3 u4)) (hclo : fd.closure = [])
    (hok : genOk fd xa varsG = true) (hbind : ∀ v : Value, bindArgs fd ⟨[v], []⟩ = pure [(xa, v)]) (hs : ∀ env, starEach [e] env = (false, eval e env) :: starEach [] env := by intro _; rfl)
    (hd : (id == ("__debug__" : Str)) = false := by rfl) : ItE D n c vars (.Call (.Name id p) [e] [] pos) (genIt f) := fun env0 A own ρ s ys hc hA S hf => by
  obtain ⟨y, hy, hf⟩ := Option.bind_eq_some_iff.mp hf
  cases y with
  | str x =>
    cases hf
    simp only [genOk, Bool.and_eq_true, beq_iff_eq, Bool.not_eq_true', List.all_eq_true, bne_iff_ne] at hok
    obtain ⟨⟨⟨⟨⟨⟨⟨⟨k1, k2⟩, k3⟩, k4⟩, k5⟩, k6⟩, k7⟩, k8⟩, k9⟩ := hok
    refine wpAny_Call_NameR (glob_ok hc S hk hv (callee_ok (.inr (.inr ⟨av, fd, rfl, hfn⟩)) (.cons h hs .nil) hc hA S (xs := [.str x]) (by simp [argsF, hy]) fun vs s1 g1 d1 => ?_) hd)
    have S1 := S.grow g1
    obtain ⟨w, rfl⟩ : ∃ t, vs = [.str x t] := by
      simp only [DenL, Den] at d1
      obtain ⟨v, r, rfl, ⟨t, rfl⟩, rfl⟩ := d1; exact ⟨t, rfl⟩
    obtain ⟨fo, eo, hdt, hr⟩ := S1.dt.fns av fd hfn
    show wpAny D.M A (call (.ref av) [.str x w] []) _ _ s1
    refine wpAny_call (codeAny_call_generator (by have := hA.2.1; unfold recursionLimit; grind) eo hdt k2 k3 hbody hr ?_)
    rw [hbind, hclo]
    refine wpAny_pure (wpAny_newFunctionEnv (fun z hz => k8 z hz) (fun z hz => by rcases List.mem_singleton.mp hz with rfl; exact k9) (fun h' hns hsb => ?_) k1)
    have keep : ∀ b o, s1.heap.get? b = some o → h'.get? b = some o := fun b o e => hsb.extBut b o (Nat.ne_of_lt (Heap.lt_size e)) (Heap.get?_push_of_some _ e)
    refine ⟨S1.dt.lim.keeps keep, ?_⟩
    -- the generator stands
    generalize hG : ({ cls := .type "generator", data := .fields #[.int s1.gens.size 0, .str fd.name (s1.toks + [(xa, Value.str x w)].length), .str fd.qualname (s1.toks + [(xa, Value.str x w)].length + 1)] } : Obj) = go
    have keep2 : ∀ b o, s1.heap.get? b = some o → (h'.push go).get? b = some o := fun b o e => Heap.get?_push_of_some _ (keep b o e)
    have hgen : (h'.push go).IsGen h'.objs.size s1.gens.size := ⟨go, _, _, Heap.get?_push_size _ (by rw [← hG]; rfl), by rw [← hG], by rw [← hG], by rw [← hG]⟩
    refine wpAny_pyIter_gen hgen ?_
    have hL : s1.heap.objs.size < h'.objs.size := by rw [hsb.1, Heap.size_push]; exact Nat.lt_succ_self _
    have n1 : s.heap.get? s1.heap.objs.size = none := g1.none S.tab (fresh_at _)
    have n2 : s.heap.get? h'.objs.size = none := g1.none S.tab (getNone (Nat.le_of_lt hL))
    have X : GStat D (sctOf fd) varsG (newEnv fd.scope s1.heap.objs.size fd.globals [] (fd.qualname ++ ".<locals>.") (some av) fd.code none fd.builtins) := by
      refine ⟨⟨k1, k4, k5, k2⟩, k6, fun i j x h1 h2 => distinctV_ok k7 i j x h1 h2, S1.new0 (fresh_at _), fun z hz => ?_, rfl, ⟨rfl, rfl, rfl, fun _ h => nomatch h⟩, ?_⟩
      · exact k8 (z, .cell) (mem_of_lookup hz) rfl
      · unfold interactive; rw [show (newEnv fd.scope s1.heap.objs.size fd.globals [] (fd.qualname ++ ".<locals>.") (some av) fd.code none fd.builtins).scope.kind = .function from k1]; rfl
    refine ⟨⟨fun b o nt _ e => keep2 b o (g1.kp b o nt (fun q => q) e), g1.tab.keeps keep2, g1.os, fun i hi => ?_, ?_, fun hb => (g1.gb hb).push rfl, fun _ _ f _ => f.elim⟩, No, _, _, (· = s1.gens.size), _, wd_gen (y1 := y1) (y1' := y1') (y2 := y2) (y2' := y2') (y3 := y3) (y3' := y3') (pIf1 := pIf1) (pIf2 := pIf2) (pIf3 := pIf3) (pF := pF) (q1 := q1) (q2 := q2) (q3 := q3) (u1 := u1) (u2 := u2) (u3 := u3) (u4 := u4) X Z (hA.mono hn) (Nat.ne_of_gt hL) n1 n2, .new _ (fun i => if i = 0 then some (.fz (.str x)) else none) hgen ?_ ⟨_, hns.push _, fun i z sl hz hr' => ?_⟩ (fun i sl e => ?_) rfl, fun b hb => ?_, fun g' e => ?_, fun b q => q.elim⟩
    · show (s1.gens.push _)[i]? = s.gens[i]?
      rw [Array.getElem?_push, if_neg (Nat.ne_of_lt (Nat.lt_of_lt_of_le hi g1.gs))]
      exact g1.gk i hi
    · show s.gens.size ≤ (s1.gens.push _).size
      rw [Array.size_push]; exact Nat.le_succ_of_le g1.gs
    · exact Array.getElem?_push_size ..
    · dsimp only at hr'
      have hi0 : i = 0 := by
        by_cases h : i = 0
        · exact h
        · rw [if_neg h] at hr'; cases hr'
      subst hi0
      rw [if_pos rfl] at hr'; cases hr'
      have hza : z = xa := by rw [Z.va] at hz; exact (Option.some.inj (Option.some.inj hz)).symm
      subst hza
      refine ⟨.str x w, ?_, (den_str : Den (Clean fun _ => []) (h'.push go) (.str x) (.str x w))⟩
      unfold VarAt
      rw [show (newEnv fd.scope s1.heap.objs.size fd.globals [] (fd.qualname ++ ".<locals>.") (some av) fd.code none fd.builtins).kindOf z = some .local from k9]
      simp
    · dsimp only at e
      obtain ⟨_, rfl⟩ := ite_some e
      exact ⟨_, rfl, rfl⟩
    · rcases hb with rfl | rfl
      · exact .inl n1
      · exact .inl n2
    · rw [show g' = s1.gens.size from e]; exact g1.gs
  | _ => cases hf
end
end Mine
end
section
namespace Mine

section
variable {D : Dt}
/-- a frame begins, whatever its names -/
theorem StE.enterG {env : Env} {vars : List (Option Str)} {ρ : Rho} {s s1 : Shared} {m : Str → Option Value}
    (dt : DtOk (D.at s.heap)) (keep : ∀ b o, s.heap.get? b = some o → s1.heap.get? b = some o) (eo : EnvOk env) (gn : goodNames vars env.scope = true) (dv : distinctV vars = true)
    (hl : s.heap.get? env.locals = none) (hkc : ∀ x, env.kindOf x ≠ some .cell) (hca : ∀ x c, env.cells.lookup x = some c → ∃ o, s1.heap.get? c = some o)
    (hcd : ∀ x y c, env.cells.lookup x = some c → env.cells.lookup y = some c → x = y) (hm : s1.heap.Ns env.locals m)
    (hv : ∀ i x sl, vars[i]? = some (some x) → ρ i = some sl → ∃ y v, sl = .fz y ∧ Den All s.heap y v ∧ VarAt env m s1.heap x v) : StE (D.at s.heap) env vars (fun _ => []) ρ s1 where
  ok := dt
  base := fun b o _ e => keep b o e
  tab := dt.tab.keeps keep
  eo := eo
  gn := gn
  vd := fun i j x h1 h2 => distinctV_ok dv i j x h1 h2
  mn := fun a ma => by
    rcases ma with rfl | ⟨x, hx, hc⟩ | ⟨i, m⟩
    · exact hl
    · exact absurd hx (hkc x)
    · cases m
  oe := fun i a m => (nomatch m)
  od := fun i j a m => (nomatch m)
  on := fun i => .nil
  ob := fun i _ _ => rfl
  ce := fun x hx => absurd hx (hkc x)
  ca := hca
  cd := hcd
  vars := ⟨m, hm, fun i x sl hx hr => by
    obtain ⟨y, v, rfl, d, va⟩ := hv i x sl hx hr
    exact ⟨v, va, d.imp fun b o _ _ e => ⟨keep b o e, fun i m => (nomatch m)⟩⟩⟩

theorem lookup_nodup {α : Type} {x : Str} {v : α} : ∀ {l : List (Str × α)}, (l.map (·.1)).Nodup → (x, v) ∈ l → l.lookup x = some v
  | (y, w) :: r, nd, m => by
    obtain ⟨h1, h2⟩ := List.nodup_cons.mp nd
    rw [List.lookup_cons]
    rcases List.mem_cons.mp m with e | m
    · cases e; simp
    · have : (x == y) = false := by
        cases hb : x == y with
        | false => rfl
        | true => rw [beq_iff_eq.mp hb] at m; exact absurd (List.mem_map_of_mem (f := (·.1)) m) h1
      rw [this]; exact lookup_nodup h2 m
theorem out_retG {env : Env} {vars : List (Option Str)} {s s1 s' : Shared} {o : Out} {fl : Flow} (t : TabOk D.T s.heap) (g : Grow D.T s s1) (mn : ∀ a, Mut env (fun _ => []) a → s.heap.get? a = none) (h : OutOk (D.at s.heap) env vars (fun _ => []) s1 o fl s') :
    Grow D.T s s' ∧ Den (fun a => s.heap.get? a = none) s'.heap (outV o) (flV fl) := by
  have nm : ∀ b o, s.heap.get? b = some o → ¬ Mut env (fun _ => []) b := fun b o e m => by
    rw [mn b m] at e; cases e
  have fin : Gr D.T (Mut env fun _ => []) s1 s' → Grow D.T s s' := fun k => g.trans k t (fun _ h => h.elim) fun b o e m => (nm b o e m).elim
  cases o with
  | ret x =>
    cases fl with
    | ret v => exact ⟨fin h.1, h.2⟩
    | _ => exact h.elim
  | next ρ' =>
    cases fl with
    | next => obtain ⟨own', S', tk⟩ := h; exact ⟨fin tk.g, den_none⟩
    | _ => exact h.elim

/-- a nested function's contract: I tells what it finds in its cells -/
noncomputable def CnI (D : Dt) (n : Nat) (f : Addr) (I : Heap → Prop) (F : List PV → Option PV) : Prop :=
  ∀ (A : Around) (s : Shared) (xs : List PV) (vs : List Value) (x : PV), OkA n A → DtOk (D.at s.heap) → I s.heap → DenL All s.heap xs vs → F xs = some x →
    wpAny D.M A (call (.ref f) vs []) (fun r s' => Grow D.T s s' ∧ Den (fun a => s.heap.get? a = none) s'.heap x r) (fun _ _ => False) s

/-- what stands whatever grows -/
noncomputable def Firm (T : List Tb) (I : Heap → Prop) : Prop := ∀ h h', TabOk T h → I h → (∀ b o, ¬ TA T b → h.get? b = some o → h'.get? b = some o) → I h'

variable {c : Sct} {vars : List (Option Str)} {n : Nat} {k : Kd}
theorem ex_callI {id : Str} {p pos : Pos} {es : List Expr} {fs : List (Rho → Option PV)} {f ci : Addr} {fd : FuncData} {cl : List (Str × Addr)} {I : Heap → Prop} {F : List PV → Option PV} {m : Nat} (hC : CnI D m f I F) (hcl : c.cl = some cl) (hci : cl.lookup id = some ci) (hk : c.sc.names.lookup id = some .free)
    (hI : I D.h1) (hF : Firm D.T I) (hc1 : D.h1.IsCell ci (some (.ref f))) (hfn : D.fn f = some fd) (hn : m ≤ n) (ha : ArgsX D n c vars es fs) (hd : (id == ("__debug__" : Str)) = false := by rfl) (hd2 : (id == ("__classdict__" : Str)) = false := by rfl) :
    Ex D n c vars k (.Call (.Name id p) es [] pos) (callF F fs) := fun env A own ρ s x hc hA S hf => by
  obtain ⟨xs, hx, hF'⟩ := Option.bind_eq_some_iff.mp hf
  have tb1 : TabOk D.T D.h1 := S.ok.tab
  have keepC : ∀ {h : Heap}, (∀ b o, ¬ TA D.T b → D.h1.get? b = some o → h.get? b = some o) → h.IsCell ci (some (.ref f)) := fun kb => by
    obtain ⟨o, e, d⟩ := hc1
    exact ⟨o, kb _ _ (tb1.ne e (by rintro ps rfl; cases d)) e, d⟩
  refine wpAny_Call_NameR (wpAny_Name (wpAny_loadName_free S.eo.kind (by unfold Env.kindOf; rw [hc.1]; exact hk) (by rw [hc.2.2.2 _ hcl]; exact hci) (keepC S.base) (callee_ok (.inr (.inr ⟨f, fd, rfl, hfn⟩)) ha hc hA S hx fun vs s1 g1 d1 => ?_) hd2) hd)
  have S1 := S.grow g1
  refine wpAny_mono (hC A s1 xs vs x (hA.mono hn) S1.dt (hF _ _ tb1 hI S1.base) d1 hF') (fun r s2 hd2 => ?_) fun _ _ y => y
  exact ⟨g1.then hd2.1, hd2.2.to fun a o p _ _ => KP.new S1 p⟩

noncomputable def sctIn (fd : FuncData) : Sct := ⟨fd.scope, fd.code, fd.qualname ++ ".<locals>.", some fd.closure⟩
noncomputable def exR (k : Nat) (ex : Nat → Option PV) (xs : List PV) : Rho := fun i => if i < k then (xs[i]?).map .fz else (ex i).map .fz
noncomputable def funX (k : Nat) (ex : Nat → Option PV) (fr : Rho → Option Out) : List PV → Option PV := fun xs => if xs.length = k then (fr (exR k ex xs)).map outV else none
noncomputable def inOk (fd : FuncData) (ps : List Str) (vars : List (Option Str)) : Bool :=
  fd.scope.kind == .function && !fd.scope.isCoroutine && !fd.scope.isGenerator && fd.globals == mainGlobals && fd.builtins == builtinsNs && goodNames vars fd.scope && distinctV vars && distinctV (ps.map some) &&
  decide (ps.map some = vars.take ps.length) && ps.all (fun x => fd.scope.names.lookup x == some .local) && fd.scope.names.all (fun x => x.2 != .cell)

theorem cni_fun {f : Addr} {fd : FuncData} {ps : List Str} {vars : List (Option Str)} {body : List Stmt} {fr : Rho → Option Out} {n : Nat} {I : Heap → Prop} {ex : Nat → Option PV}
    (hfn : D.fn f = some fd) (hbody : fd.body = .stmts body) (hok : inOk fd ps vars = true) (hbind : ∀ vals : List Value, vals.length = ps.length → bindArgs fd ⟨vals, []⟩ = pure (ps.zip vals))
    (hfree : ∀ h, I h → ∀ i x y, ps.length ≤ i → ex i = some y → vars[i]? = some (some x) → fd.scope.names.lookup x = some .free ∧ ∃ cc v, fd.closure.lookup x = some cc ∧ h.IsCell cc (some v) ∧ Den All h y v)
    (hclo : ∀ h, I h → ∀ x c, fd.closure.lookup x = some c → ∃ o, h.get? c = some o) (hcd : ∀ x y c, fd.closure.lookup x = some c → fd.closure.lookup y = some c → x = y)
    (hb : ∀ h, I h → Sx (D.at h) n (sctIn fd) vars body fr) : CnI D (n + 1) f I (funX ps.length ex fr) := fun A s xs vs x hA dt hI d hF => by
  unfold funX at hF
  split at hF
  · rename_i hlen
    obtain ⟨o, ho, rfl⟩ := Option.map_eq_some_iff.mp hF
    simp only [inOk, Bool.and_eq_true, beq_iff_eq, Bool.not_eq_true', List.all_eq_true, decide_eq_true_eq, bne_iff_ne] at hok
    obtain ⟨⟨⟨⟨⟨⟨⟨⟨⟨⟨k1, k2⟩, k3⟩, k4⟩, k5⟩, k6⟩, k7⟩, k8⟩, k9⟩, k10⟩, k11⟩ := hok
    obtain ⟨fo, e, hd, hr⟩ := dt.fns f fd hfn
    have vlen : vs.length = ps.length := d.length.trans hlen
    have hz : (ps.zip vs).map (·.1) = ps := by rw [List.map_fst_zip]; exact Nat.le_of_eq (id (Eq.symm vlen))
    refine wpAny_call (codeAny_call_function (by have := hA.2.1; unfold recursionLimit; grind) e hd k2 k3 hbody hr ?_)
    rw [hbind vs vlen]
    refine wpAny_pure (wpAny_newFunctionEnv (fun z hz => k11 z hz) (fun z hzz => k10 z.1 (hz ▸ List.mem_map_of_mem hzz)) (fun h' hns hsb => ?_) k1)
    have keep : ∀ b o, s.heap.get? b = some o → h'.get? b = some o := fun b o e => hsb.extBut b o (Nat.ne_of_lt (Heap.lt_size e)) (Heap.get?_push_of_some _ e)
    refine ⟨dt.lim.keeps keep, codeAny_func ?_⟩
    have hS : StE (D.at s.heap) (newEnv fd.scope s.heap.objs.size fd.globals fd.closure (fd.qualname ++ ".<locals>.") (some f) fd.code none fd.builtins) vars (fun _ => []) (exR ps.length ex xs) { s with heap := h', toks := s.toks + (ps.zip vs).length } := by
      refine StE.enterG dt keep ⟨k1, k4, k5, k2⟩ k6 k7 (fresh_at _) (fun z hz => k11 (z, .cell) (mem_of_lookup hz) rfl) (fun z cc hzc => ?_) hcd hns (fun i z sl hx hr => ?_)
      · obtain ⟨oo, eo⟩ := hclo _ hI z cc hzc; exact ⟨oo, keep _ _ eo⟩
      · unfold exR at hr
        split at hr
        · rename_i hi
          obtain ⟨y, hy, rfl⟩ := Option.map_eq_some_iff.mp hr
          obtain ⟨v, hv', dv⟩ := d.get hy
          have hp : ps[i]? = some z := by
            have e2 : (vars.take ps.length)[i]? = some (some z) := by rw [List.getElem?_take, if_pos hi]; exact hx
            rw [← k9, List.getElem?_map] at e2
            obtain ⟨u, hu, eu⟩ := Option.map_eq_some_iff.mp e2
            cases eu; exact hu
          refine ⟨y, v, rfl, dv, ?_⟩
          have q : (newEnv fd.scope s.heap.objs.size fd.globals fd.closure (fd.qualname ++ ".<locals>.") (some f) fd.code none fd.builtins).kindOf z = some .local := k10 z (List.mem_of_getElem? hp)
          unfold VarAt; rw [q]
          show (ps.zip vs).reverse.lookup z = some v
          have nd := distinctV_ps k8
          have hm : (z, v) ∈ (ps.zip vs).reverse := by
            rw [List.mem_reverse]
            refine List.mem_of_getElem? (i := i) ?_
            rw [List.getElem?_zip_eq_some]; exact ⟨hp, hv'⟩
          have nd2 : ((ps.zip vs).reverse.map (·.1)).Nodup := by rw [List.map_reverse, hz]; exact (List.reverse_perm ps).nodup_iff.mpr nd
          exact lookup_nodup nd2 hm
        · rename_i hi
          obtain ⟨y, hy, rfl⟩ := Option.map_eq_some_iff.mp hr
          obtain ⟨q, cc, v, h1, h2, h3⟩ := hfree _ hI i z y (Nat.le_of_not_lt hi) hy hx
          refine ⟨y, v, rfl, h3, ?_⟩
          have q' : (newEnv fd.scope s.heap.objs.size fd.globals fd.closure (fd.qualname ++ ".<locals>.") (some f) fd.code none fd.builtins).kindOf z = some .free := q
          unfold VarAt; rw [q']
          exact ⟨cc, h1, h2.keeps keep⟩
    have gr : Grow D.T s { s with heap := h', toks := s.toks + (ps.zip vs).length } := .of dt.tab keep
    refine wpAny_mono (hb s.heap hI _ _ _ _ _ _ ⟨rfl, rfl, rfl, fun l hl => Option.some.inj hl⟩ (hA.deeper (Nat.lt_succ_self n)) hS ho) (fun fl s' h => ?_) fun _ _ q => q.elim
    have q := out_retG dt.tab gr hS.mn h
    cases fl <;> exact q
  · cases hF
end
end Mine
end
section
namespace Mine

section
variable {D : Dt} {env : Env} {vars : List (Option Str)} {own : Own} {ρ : Rho} {s s' : Shared} {c : Sct}
/-- a cell that no variable of ours stands for is written -/
theorem StE.cellW {name : Str} {ci : Addr} {v' : Option Value} (S : StE D env vars own ρ s) (hk : env.kindOf name = some .cell) (hci : env.cells.lookup name = some ci) (hn : ∀ i : Nat, vars[i]? ≠ some (some name))
    (kp : ∀ b o, ¬ TA D.T b → b ≠ ci → s.heap.get? b = some o → s'.heap.get? b = some o) (tab : TabOk D.T s'.heap) (hc' : s'.heap.IsCell ci v') : StE D env vars own ρ s' := by
  have hci1 : D.h1.get? ci = none := S.mn ci (.inr (.inl ⟨name, hk, hci⟩))
  have cell0 : ∃ v, s.heap.IsCell ci v := by obtain ⟨c, v, e, f⟩ := S.ce name hk; rw [hci] at e; cases e; exact ⟨v, f⟩
  obtain ⟨v0, o0, e0, d0⟩ := cell0
  have lt : ∀ b o, LT o → s.heap.get? b = some o → s'.heap.get? b = some o := fun b o l e => kp b o (S.tab.ltne e l) (by rintro rfl; rw [e0] at e; cases e; exact l.notCell d0) e
  have cells : ∀ x cc v, env.cells.lookup x = some cc → x ≠ name → s.heap.IsCell cc v → s'.heap.IsCell cc v := fun x cc v h hx ⟨o, e, d⟩ =>
    ⟨o, kp _ _ (S.tab.ne e (by rintro ps rfl; cases d)) (by rintro rfl; exact hx (S.cd x name cc h hci)) e, d⟩
  obtain ⟨m, ⟨o, es, ep, e, hd, r⟩, hv⟩ := S.vars
  have hloc : env.locals ≠ ci := by rintro h; rw [h, e0] at e; cases e; rw [d0] at hd; cases hd
  exact {
    ok := S.ok, base := fun b o n e => kp b o n (by rintro rfl; rw [hci1] at e; cases e) (S.base b o n e), tab := tab, eo := S.eo, gn := S.gn, vd := S.vd, mn := S.mn,
    oe := fun i a ha => let ⟨o, e, l⟩ := S.oe i a ha; ⟨o, lt a o l e, l⟩, od := S.od, on := S.on, ob := S.ob,
    ce := fun x hx => by
      by_cases h : x = name
      · subst h; exact ⟨ci, v', hci, hc'⟩
      · obtain ⟨cc, v, e1, f⟩ := S.ce x hx; exact ⟨cc, v, e1, cells x cc v e1 h f⟩,
    ca := fun x cc h => by
      by_cases hx : cc = ci
      · subst hx; obtain ⟨o, e, _⟩ := hc'; exact ⟨o, e⟩
      · obtain ⟨o, e⟩ := S.ca x cc h
        by_cases t : TA D.T cc
        · obtain ⟨ps, e⟩ := tab.obj t; exact ⟨_, e⟩
        · exact ⟨o, kp _ _ t hx e⟩,
    cd := S.cd,
    vars := ⟨m, ⟨o, es, ep, kp _ _ (S.tab.ne e (by rintro ps rfl; cases hd)) hloc e, hd, r⟩, fun i x sl hx hr => by
      obtain ⟨v, v1, v2⟩ := hv i x sl hx hr
      have hxn : x ≠ name := by rintro rfl; exact hn i hx
      refine ⟨v, ?_, v2.imp (fun b o p l e => ⟨lt b o l e, p⟩) fun b _ o l e => lt b o l e⟩
      unfold VarAt at v1 ⊢
      cases hkx : env.kindOf x with
      | none => rw [hkx] at v1; exact v1.elim
      | some kk =>
        rw [hkx] at v1
        cases kk <;> first | exact v1 | exact v1.elim | (obtain ⟨cc, e1, f⟩ := v1; exact ⟨cc, e1, cells x cc _ e1 hxn f⟩)⟩ }

/-- what a def leaves -/
noncomputable def DefDone (name qual : Str) (params : Arguments) (body : List Stmt) (scope : Scope) (clos : List (Str × Addr)) (ci : Addr) (s : Shared) (s' : Shared) : Prop :=
  ∃ f cv ctv doc pm fo, s'.heap.IsCell ci (some (.ref f)) ∧ s.heap.get? f = none ∧ s'.heap.get? f = some fo ∧ fo.data = .func (fnX name qual params body scope clos .none .none doc pm none cv ctv) ∧ s'.heap.CodeRec cv qual

theorem def_ok {A : Around} {name : Str} {params : Arguments} {body : List Stmt} {scope : Scope} {pos : Pos} {tb : Tb} {ci : Addr} {clos : List (Str × Addr)} (S : StE D env vars own ρ s)
    (hcode : env.code = .ref tb.c) (htb : tb ∈ D.T) (hdist : ∀ t ∈ D.T, t.P = tb.P → t = tb) (hl : tb.line = pos.line) (hcl : tb.col = pos.col) (hq : tb.qual = qualnameIn env name name)
    (hk : env.kindOf name = some .cell) (hci : env.cells.lookup name = some ci) (hn : ∀ i : Nat, vars[i]? ≠ some (some name)) (hclos : closureFor scope env = pure clos)
    (hd0 : params.defaults = []) (hk0 : params.kw_defaults = []) (ha : annTrees params none env = []) :
    wpAny D.M A (exec (.FunctionDef name params body [] none [] scope none name pos) env) (fun fl s' => fl = .next ∧ StE D env vars own ρ s' ∧ Gr D.T (Mut env own) s s' ∧ DefDone name (qualnameIn env name name) params body scope clos ci s s') (fun _ _ => False) s := by
  have dt := S.dt
  have hg : s.heap.Ns mainGlobals D.mg := dt.g
  obtain ⟨C, hP⟩ := S.tab tb htb
  have hnP : ∀ {b : Addr} {o : Obj}, s.heap.get? b = some o → (∀ ps, o ≠ tabObj ps) → b ≠ tb.P := fun e q h => S.tab.ne e q ⟨tb, htb, h.symm⟩
  have hgP : mainGlobals ≠ tb.P := by obtain ⟨o, es, ep, e, hd, _⟩ := hg; exact hnP e (by rintro ps rfl; cases hd)
  have hbm : s.heap.BuiltinsAt D.mg tb.P := by
    obtain ⟨bm, o, h1, h2, h3, h4, h5, h6, h7⟩ := dt.bm
    exact ⟨bm, o, h1, h2, h3, hnP h4 (by rintro ps rfl; cases h5), h4, h5, h6, h7⟩
  obtain ⟨v0, o0, e0, d0⟩ : ∃ v, s.heap.IsCell ci v := by obtain ⟨c, v, e, f⟩ := S.ce name hk; rw [hci] at e; cases e; exact ⟨v, f⟩
  have hcP : ci ≠ tb.P := hnP e0 (by rintro ps rfl; cases d0)
  -- the name is bound
  have fin : ∀ (h2 : Heap) (tk : Nat) (cv ctv doc pm : Value), (∀ b o, b ≠ tb.P → s.heap.get? b = some o → h2.get? b = some o) → s.heap.objs.size ≤ h2.objs.size → TabOk D.T h2 → h2.CodeRec cv (qualnameIn env name name) →
      wpAny D.M A (storeName env name (.ref h2.objs.size)) (fun _ s'' => StE D env vars own ρ s'' ∧ Gr D.T (Mut env own) s s'' ∧ DefDone name (qualnameIn env name name) params body scope clos ci s s'') (fun _ _ => False)
        { s with heap := h2.push { cls := .type "function", data := .func (fnX name (qualnameIn env name name) params body scope clos .none .none doc pm none cv ctv) }, toks := tk } := by
    intro h2 tk cv ctv doc pm k2 hsz t2 hrec
    have k3 : ∀ b o, h2.get? b = some o → (h2.push { cls := .type "function", data := .func (fnX name (qualnameIn env name name) params body scope clos .none .none doc pm none cv ctv) }).get? b = some o := fun b o e => Heap.get?_push_of_some _ e
    have hf : s.heap.get? h2.objs.size = none := getNone hsz
    have cell3 := k3 _ _ (k2 _ _ hcP e0)
    refine wpAny_storeName_cell S.eo.kind hk hci ⟨o0, cell3, d0⟩ fun h4 c4 sb4 => ?_
    have k4 : ∀ b o, b ≠ ci → (h2.push { cls := .type "function", data := .func (fnX name (qualnameIn env name name) params body scope clos .none .none doc pm none cv ctv) }).get? b = some o → h4.get? b = some o := fun b o hb e => sb4.extBut b o hb e
    have kk : ∀ b o, ¬ TA D.T b → b ≠ ci → s.heap.get? b = some o → h4.get? b = some o := fun b o n1 n2 e => k4 b o n2 (k3 b o (k2 b o (fun q => n1 ⟨tb, htb, q.symm⟩) e))
    have t4 : TabOk D.T h4 := (t2.keeps k3).but cell3 (.cell d0) k4
    refine ⟨S.cellW hk hci hn kk t4 c4, ⟨fun b o n1 n2 e => kk b o n1 (fun q => n2 (.inr (.inl ⟨name, hk, q ▸ hci⟩))) e, t4, rfl, fun _ _ => rfl, Nat.le_refl _, id, fun b o m e => ?_⟩, ?_⟩
    · by_cases hb : b = ci
      · subst hb; obtain ⟨o', e', _⟩ := c4; exact ⟨o', e'⟩
      · by_cases ht : TA D.T b
        · obtain ⟨ps, e'⟩ := t4.obj ht; exact ⟨_, e'⟩
        · exact ⟨o, kk b o ht hb e⟩
    · have hfc : h2.objs.size ≠ ci := fun q => by rw [← q, hf] at e0; cases e0
      refine ⟨h2.objs.size, cv, ctv, doc, pm, _, c4, hf, k4 _ _ hfc (Heap.get?_push_size _ rfl), rfl, ?_⟩
      obtain ⟨cc, oc, ws, tkk, h1, h2', h3, h4'⟩ := hrec
      refine ⟨cc, oc, ws, tkk, h1, k4 _ _ (fun q => ?_) (k3 _ _ h2'), h3, h4'⟩
      have := k2 _ _ hcP e0
      rw [q, this] at h2'; cases h2'; rw [d0] at h3; cases h3
  refine nestDef_K hd0 hk0 ha ?_
  rcases hP with hP | ⟨c', hP, hr⟩
  · refine makeFunction_K (mg := D.mg) (ps := #[]) hclos S.eo.glob hg hcode C hP trivial rfl hgP hbm fun c' ctv doc h' tk hx hge hlt hrec htb' => ?_
    have hd : ∀ {t : Tb}, CodeHd s.heap t.c t.P → CodeHd h' t.c t.P := fun ⟨o, vs, file, tf, flags, tg, inF, text, tt, e, e2, e3, e4, r⟩ =>
      ⟨o, vs, file, tf, flags, tg, inF, text, tt, hx _ _ (fun q => by rw [q, hP] at e; cases e; cases e3; grind) e, e2, e3, e4, r⟩
    have t2 : TabOk D.T h' := fun t ht => by
      by_cases htp : t = tb
      · subst htp
        refine ⟨hd C, .inr ⟨c', ?_, hq ▸ hrec⟩⟩
        rw [hl, hcl]; simpa using htb'
      · have hne : t.P ≠ tb.P := fun q => htp (hdist t ht q)
        obtain ⟨C2, h2⟩ := S.tab t ht
        refine ⟨hd C2, h2.imp (fun e => hx _ _ hne e) fun ⟨c2, e, cc, oc, ws, tk2, f1, f2, f3, f4⟩ => ⟨c2, hx _ _ hne e, cc, oc, ws, tk2, f1, hx _ _ (fun q => ?_) f2, f3, f4⟩⟩
        rw [q, hP] at f2; cases f2; cases f3; simp at f4
    exact wpAny_mono (fin h' tk (.ref c') ctv doc ((D.mg "__name__").getD .none) (fun b o hb e => hx b o hb e) (Nat.le_trans hge (Nat.le_of_lt hlt)) t2 hrec) (fun _ s'' q => ⟨rfl, q⟩) fun _ _ q => q
  · refine makeFunction_hit (mg := D.mg) (cv := .ref c') hclos S.eo.glob hg hcode C hP trivial (by simp [codeAmong, rawInt, hl, hcl]) hbm fun ctv doc h' tk hx hsz => ?_
    exact wpAny_mono (fin h' tk (.ref c') ctv doc ((D.mg "__name__").getD .none) (fun b o _ e => hx b o e) hsz (S.tab.keeps hx) (hq ▸ hr.keeps hx)) (fun _ s'' q => ⟨rfl, q⟩) fun _ _ q => q
end
end Mine
end
section
set_option maxRecDepth 100000
set_option maxHeartbeats 8000000
namespace Mine

/-! the head: what the top has left, told of the program's own text -/
noncomputable abbrev RR : OpenRow := PySem.Challenge.rw_rw0093_01.row
noncomputable def qv : Program := view RR.prog [1, 2, 3, 4, 5, 7, 8, 9, 10, 11, 12, 13, 15, 16, 17, 19, 20, 21, 22, 23, 24, 25]
noncomputable def stAt (i : Nat) : Stmt := match RR.prog.main.body[i]? with
  | some st => st
  | none => .Pass ⟨0, 0, 0, 0⟩
noncomputable def recOfSt : Stmt → DefRec
  | .FunctionDef name params body _ _ _ scope _ _ pos => ⟨name, params, body, scope, pos⟩
  | _ => ⟨"", default, [], default, ⟨0, 0, 0, 0⟩⟩
noncomputable def mkFd (d : DefRec) (m : Str) (t : Tok) (c : Addr) : FuncData := { name := d.name, qualname := d.name, params := d.params, body := .stmts d.body, scope := d.scope, globals := 3, closure := [], defaults := .none, kwdefaults := .none, doc := .none, pyModule := .str m t, annotations := none, code := .ref c, closureTuple := .none, builtins := 0 }
/-- where each def of the text lies, its module's name -/
noncomputable def defTab : List (Addr × Nat × Nat) := [(21, 4, 0), (28, 5, 0), (35, 8, 1), (42, 9, 1), (49, 10, 1), (56, 11, 1), (63, 12, 1), (70, 13, 1), (77, 15, 2), (84, 16, 2), (91, 17, 2), (96, 19, 3), (101, 20, 3), (106, 21, 3), (113, 22, 3), (118, 23, 3), (123, 24, 3), (128, 25, 3)]
noncomputable def modOf : Nat → Str × Tok
  | 0 => ("cpy313.traceback", 187)
  | 1 => ("cpy313._pylong", 223)
  | 2 => ("cpy313.email.utils", 305)
  | _ => ("law_rw0093_01", 339)
noncomputable def fdAt (P : Params) (a : Addr) : FuncData := match defTab.lookup a with
  | some (i, m) => mkFd (recOfSt (stAt i)) (modOf m).1 (modOf m).2 (a - 1)
  | none => default
noncomputable def bodyAt (P : Params) (a : Addr) : List Stmt := match (fdAt P a).body with
  | .stmts b => b
  | _ => []
noncomputable def fnAddrs : List Addr := [21, 28, 35, 42, 49, 56, 63, 70, 77, 84, 91, 96, 101, 106, 113, 118, 123, 128]
noncomputable abbrev gr (x : String) (a : Addr) : Str × Option Value := (Str.ofString x, some (.ref a))
noncomputable abbrev gi (x : String) (i : Int) (t : Tok) : Str × Option Value := (Str.ofString x, some (.int i t))
noncomputable abbrev gn (x : String) : Str × Option Value := (Str.ofString x, none)
noncomputable def gl : List (Str × Option Value) := [gi "_MAX_STRING_SIZE" 40 189, gi "_MOVE_COST" 2 191, gi "_CASE_COST" 1 193, gi "_DIV_LIMIT" 4000 225,
  gr "_substitution_cost" 21, gr "_levenshtein_distance" 28, gr "_div2n1n" 35, gr "_div3n2n" 42, gr "_int2digits" 49, gr "_digits2int" 56, gr "_divmod_pos" 63, gr "int_divmod" 70,
  gr "_iter_escaped_chars" 77, gr "_strip_quoted_realnames" 84, gr "_check_parenthesis" 91, gr "_law_cells" 96, gr "_law_row" 101, gr "_law_units" 106, gr "_law_mate" 113, gr "_law_legs" 118, gr "_law_near" 123, gr "law" 128,
  gn "len", gn "abs", gn "divmod", gn "max", gn "min", gn "sum", gn "reversed", gn "range", gn "isinstance", gn "bool", gn "list", gn "enumerate"]

noncomputable def obFn (h : Heap) (a : Addr) : Option FuncData := match h.get? a with
  | some o => (match o.data with | .func fd => some fd | _ => none)
  | none => none
noncomputable def obCode (h : Heap) (c : Addr) : Option (Option Value) := match h.get? c with
  | some o => (match o.data with | .fields vs => some (match (vs[1]? : Option Value) with | some (.str q _) => some (.str q 0) | _ => none) | _ => none)
  | none => none
noncomputable def obTab (h : Heap) (c : Addr) : Option Value := match h.get? c with
  | some o => (match o.data with | .fields vs => vs[11]? | _ => none)
  | none => none
noncomputable def SaysFn (P : Params) (h : Heap) (a : Addr) : Prop := ∃ o c oc vs t, h.get? a = some o ∧ o.data = .func (fdAt P a) ∧ (fdAt P a).code = .ref c ∧ h.get? c = some oc ∧ oc.data = .fields vs ∧ vs[1]? = some (.str (fdAt P a).qualname t)
noncomputable def SaysTab (h : Heap) (c : Addr) (v : Value) : Prop := ∃ o vs, h.get? c = some o ∧ o.data = .fields vs ∧ vs[11]? = some v
noncomputable def SaysGl (h : Heap) : Prop := ∃ o es n, h.get? 3 = some o ∧ o.data = .dict es n ∧ ∀ x ∈ gl, nsFind es x.1 = x.2
theorem obFn_ok {h : Heap} {a : Addr} {fd : FuncData} (e : obFn h a = some fd) : ∃ o, h.get? a = some o ∧ o.data = .func fd := by
  unfold obFn at e
  split at e
  · rename_i o ho
    split at e
    · rename_i f hf; cases e; exact ⟨o, ho, hf⟩
    · cases e
  · cases e
theorem obCode_ok {h : Heap} {c : Addr} {q : Str} (e : obCode h c = some (some (.str q 0))) : ∃ oc vs t, h.get? c = some oc ∧ oc.data = .fields vs ∧ vs[1]? = some (.str q t) := by
  unfold obCode at e
  split at e
  · rename_i o ho
    split at e
    · rename_i vs hv
      injection e with e
      split at e
      · rename_i q' t hq; cases e; exact ⟨o, vs, t, ho, hv, hq⟩
      · cases e
    · cases e
  · cases e
theorem obTab_ok {h : Heap} {c : Addr} {v : Value} (e : obTab h c = some v) : SaysTab h c v := by
  unfold obTab at e
  split at e
  · rename_i o ho
    split at e
    · rename_i vs hv; exact ⟨o, vs, ho, hv, e⟩
    · cases e
  · cases e
theorem obGl_ok {h : Heap} (e : gl.map (fun x => h.nsMap 3 x.1) = gl.map (·.2)) : SaysGl h := by
  have hx : ∀ x ∈ gl, h.nsMap 3 x.1 = x.2 := fun x hx => List.map_inj_left.mp e x hx
  have h0 := hx _ (.head _)
  cases ho : h.get? 3 with
  | none => unfold Heap.nsMap at h0; rw [ho] at h0; cases h0
  | some o =>
    cases hd : o.data with
    | dict es n =>
      refine ⟨o, es, n, ho, hd, fun x hm => ?_⟩
      have := hx x hm
      unfold Heap.nsMap at this
      rw [ho] at this
      simp only [hd] at this
      exact this
    | _ => unfold Heap.nsMap at h0; rw [ho] at h0; simp only [hd] at h0; cases h0

noncomputable def hk : Hook where
  α := List (Option FuncData) × List (Option (Option Value)) × List (Option Value) × List (Option Value)
  obs := fun s => (fnAddrs.map (obFn s.heap), fnAddrs.map (fun a => obCode s.heap (a - 1)), [obTab s.heap 48, obTab s.heap 55], gl.map (fun x => s.heap.nsMap 3 x.1))
  val := fun w => (fnAddrs.map (fun a => some (fdAt w.params a)), fnAddrs.map (fun a => some (some (.str (fdAt w.params a).qualname 0))), [some (.ref 44), some (.ref 51)], gl.map (·.2))
  says := fun w h => (∀ a ∈ fnAddrs, SaysFn w.params h a) ∧ SaysTab h 48 (.ref 44) ∧ SaysTab h 55 (.ref 51) ∧ SaysGl h
  of := fun w s e => by
    obtain ⟨e1, e⟩ := Prod.mk.inj e
    obtain ⟨e2, e⟩ := Prod.mk.inj e
    obtain ⟨e3, e4⟩ := Prod.mk.inj e
    injection e3 with e3 e5
    injection e5 with e5
    have hc : ∀ a ∈ fnAddrs, (fdAt w.params a).code = .ref (a - 1) := by
      simp only [fnAddrs, List.forall_mem_cons]
      exact ⟨rfl, rfl, rfl, rfl, rfl, rfl, rfl, rfl, rfl, rfl, rfl, rfl, rfl, rfl, rfl, rfl, rfl, rfl, fun _ h => nomatch h⟩
    refine ⟨fun a ha => ?_, obTab_ok e3, obTab_ok e5, obGl_ok e4⟩
    obtain ⟨o, h1, h2⟩ := obFn_ok (List.map_inj_left.mp e1 a ha)
    obtain ⟨oc, vs, t, h3, h4, h5⟩ := obCode_ok (List.map_inj_left.mp e2 a ha)
    exact ⟨o, a - 1, oc, vs, t, h1, h2, hc a ha, h3, h4, h5⟩
  keeps := fun w h h' x k => ⟨fun a ha => by
      obtain ⟨o, c, oc, vs, t, h1, h2, h3, h4, h5, h6⟩ := x.1 a ha
      exact ⟨o, c, oc, vs, t, k _ _ h1, h2, h3, k _ _ h4, h5, h6⟩,
    by obtain ⟨o, vs, h1, h2⟩ := x.2.1; exact ⟨o, vs, k _ _ h1, h2⟩,
    by obtain ⟨o, vs, h1, h2⟩ := x.2.2.1; exact ⟨o, vs, k _ _ h1, h2⟩,
    by obtain ⟨o, es, n, h1, h2⟩ := x.2.2.2; exact ⟨o, es, n, k _ _ h1, h2⟩⟩

noncomputable def dLaw : DefRec := recOfSt (stAt 25)
theorem left_ok : LeftO RR.prog qv [] (fun s => xlAt qv [] s && recOk (RowW.records RR.toRowW) s) hk.obs hk.val 1406 := by
  intro w
  kernel_rfl
noncomputable abbrev hdLaw : OpenLaw := PySem.Challenge.rw_rw0093_01
theorem hdLook1 : namesResolve hdLaw.prog = true := by decide +kernel
theorem hdLook2 : noRoadLSs { strict := !(importedModules hdLaw.prog.main.body).all cThrough.contains, foot := none, bare := (["vars", "dir", "locals"] : List PySem.Str).filter (readsOut hdLaw.prog hdLaw.prog.main.body) } hdLaw.prog.main.body = true := by decide +kernel
theorem hdLook3 : (namesMeet hdLaw.prog hdLaw.prog.main.body fun _ n => attrL n) = true := by decide +kernel
theorem hdLooks : looksOpen hdLaw.prog = true := by
  unfold looksOpen
  exact look_both (look_both (look_both (look_both (by decide +kernel) hdLook1) (by decide +kernel)) hdLook2) hdLook3
theorem hdPart : hdLaw.row.partSaid = true := by
  unfold OpenRow.partSaid
  iterate 13 refine look_both ?_ (by decide +kernel)
  exact hdLooks
theorem hdRow : hdLaw.row.wellSaid = true := by
  unfold OpenRow.wellSaid
  exact look_both (look_both hdPart (by decide +kernel)) (by decide +kernel)
theorem hdSaid : hdLaw.wellSaid = true := by
  unfold OpenLaw.wellSaid
  iterate 18 refine look_both ?_ (by decide +kernel)
  exact hdRow
theorem head (hc : WalkO qv [] (XL qv []) hk.says RR.toRowW dLaw [] fun f vs => PySem.call f vs) : PySem.Challenge.rw_rw0093_01.Holds := by
  refine holds_law hdSaid fun said => ?_
  refine holds_open (q := qv) (loose := []) (Xt := fun s => xlAt qv [] s && recOk (RowW.records RR.toRowW) s) (XP := XL qv []) (Yf := hk.obs) (Ya := hk.val) (YP := hk.says) (N := 1406) left_ok hk.of hk.keeps (fun s e => xl_of s (Bool.and_eq_true_iff.mp e).1) XL.keeps (by kernel_rfl) (by kernel_rfl) (by kernel_rfl) (fun s e => recFacts_of (Bool.and_eq_true_iff.mp e).2) (by decide +kernel) said (by decide +kernel) ⟨rfl, rfl, rfl, rfl, rfl, by decide +kernel⟩ ?hw hc
  case hw => w_witness2
end Mine
end
section
namespace Mine

noncomputable def defBody : List Stmt → List Stmt
  | .FunctionDef _ _ b _ _ _ _ _ _ _ :: _ => b
  | _ => []
noncomputable def defParams : List Stmt → Arguments
  | .FunctionDef _ p _ _ _ _ _ _ _ _ :: _ => p
  | _ => default
noncomputable def defScope : List Stmt → Scope
  | .FunctionDef _ _ _ _ _ _ sc _ _ _ :: _ => sc
  | _ => default

noncomputable def defPos : List Stmt → Pos
  | .FunctionDef _ _ _ _ _ _ _ _ _ p :: _ => p
  | _ => ⟨0, 0, 0, 0⟩
/-- the code tables of the two functions that make others -/
noncomputable def tbs (P : Params) : List Tb := [⟨44, 48, (defPos ((bodyAt P 49).drop 1)).line, (defPos ((bodyAt P 49).drop 1)).col, "_int2digits.<locals>.inner"⟩, ⟨51, 55, (defPos (bodyAt P 56)).line, (defPos (bodyAt P 56)).col, "_digits2int.<locals>.inner"⟩]
/-- the ground of this program -/
structure DD (D : Dt) : Prop where
  tb : D.T = tbs D.w.params
  mg : ∀ x ∈ gl, D.mg x.1 = x.2
  fn : D.fn = fun a => if a ∈ fnAddrs then some (fdAt D.w.params a) else none
theorem DD.at {D : Dt} (x : DD D) (h : Heap) : DD (D.at h) := ⟨x.tb, x.mg, x.fn⟩
theorem DD.gv {D : Dt} (x : DD D) {id : Str} {v : Value} (h : gl.lookup id = some (some v)) : Gv D id v := .inl (x.mg (id, some v) (mem_of_lookup h))
theorem DD.bv {D : Dt} (x : DD D) {id : Str} {v : Value} (h : gl.lookup id = some none) (hn : id ≠ "__name__") (hb : bootBuiltins id = some v) : Gv D id v := .inr ⟨x.mg (id, none) (mem_of_lookup h), hn, hb⟩
theorem DD.f {D : Dt} (x : DD D) {a : Addr} (h : a ∈ fnAddrs) : D.fn a = some (fdAt D.w.params a) := by rw [x.fn]; exact if_pos h

section
variable {D : Dt} {n : Nat} {c : Sct} {vars : List (Option Str)} {k : Kd}

inductive ArgsK (D : Dt) (n : Nat) (c : Sct) (vars : List (Option Str)) (k : Kd) : List Expr → List (Rho → Option PV) → Prop where
  | nil : ArgsK D n c vars k [] []
  | cons {e : Expr} {es : List Expr} {f : Rho → Option PV} {fs : List (Rho → Option PV)} : Ex D n c vars k e f → (∀ env, starEach (e :: es) env = (false, eval e env) :: starEach es env) → ArgsK D n c vars k es fs → ArgsK D n c vars k (e :: es) (f :: fs)
theorem argsK_cons {e : Expr} {es : List Expr} {f : Rho → Option PV} {fs : List (Rho → Option PV)} (h : Ex D n c vars k e f) (t : ArgsK D n c vars k es fs) (hs : ∀ env, starEach (e :: es) env = (false, eval e env) :: starEach es env := by intro _; rfl) : ArgsK D n c vars k (e :: es) (f :: fs) := .cons h hs t
theorem argsK_ok {es : List Expr} {fs : List (Rho → Option PV)} (h : ArgsK D n c vars k es fs) : ∀ {env : Env} {A : Around} {own : Own} {ρ : Rho} {s : Shared} {xs : List PV} {pos : Pos}, InC c env → OkA n A → StE D env vars own ρ s → argsF fs ρ = some xs →
    wpAny D.M A (spliced (backTo pos (starEach es env))) (fun vs s' => Grow D.T s s' ∧ DenL (KP D k own) s'.heap xs vs) (fun _ _ => False) s := by
  induction h with
  | nil => intro env A own ρ s xs pos hc hA S hf; cases hf; exact Calls.spliced_nil ⟨.refl S.tab, by simp [DenL]⟩
  | @cons e es f fs h1 hs _ ih =>
    intro env A own ρ s xs pos hc hA S hf
    obtain ⟨x, hx, hf⟩ := Option.bind_eq_some_iff.mp hf
    obtain ⟨ys, hy, rfl⟩ := Option.map_eq_some_iff.mp hf
    rw [hs env]
    show wpAny _ _ (spliced ((false, eval e env) :: backTo pos (starEach es env))) _ _ _
    refine Calls.spliced_cons (wpAny_mono (h1 env A own ρ s x hc hA S hx) (fun v s1 hd => ?_) fun _ _ y => y)
    refine wpAny_mono (ih hc hA (S.grow hd.1) hy) (fun vs s2 hd2 => ?_) fun _ _ y => y
    exact ⟨hd.1.then hd2.1, by simp only [DenL]; exact ⟨v, vs, rfl, Den.grow hd2.1 hd.1.tab hd.2, hd2.2⟩⟩
/-- a tuple of whatever -/
noncomputable def tupKF (fs : List (Rho → Option PV)) : Rho → Option PV := fun ρ => (argsF fs ρ).bind fun xs => if xs.length ≤ 1000 then some (.tuple xs) else none
theorem ex_tupK {es : List Expr} {m : Nat} {pos : Pos} {fs : List (Rho → Option PV)} (ha : ArgsK D n c vars k es fs) : Ex D n c vars k (.Tuple es m pos) (tupKF fs) := fun env A own ρ s x hc hA S hf => by
  obtain ⟨xs, hx, hf⟩ := Option.bind_eq_some_iff.mp hf
  obtain ⟨hq, rfl⟩ := ite_some hf
  refine wpAny_Tuple (wpAny_mono (argsK_ok ha hc hA S hx) (fun vs s1 hd => ?_) fun _ _ y => y)
  have S1 := S.grow hd.1
  have g2 : Grow D.T s1 { s1 with heap := s1.heap.push { cls := .type "tuple", dict := none, data := .seq vs.toArray } } := .of hd.1.tab fun b o e => Heap.get?_push_of_some _ e
  refine ⟨by rw [hd.2.length, sizeLine_eq]; grind, hd.1.then (.of hd.1.tab fun b o e => Heap.get?_push_of_some _ e), den_tup (KP.new S1 (fresh_at _)) ⟨_, Heap.get?_push_size _ rfl, rfl, _, rfl⟩ (hd.2.imp fun b o p l e => ⟨Heap.get?_push_of_some _ e, p⟩)⟩

/-- two tests in a row -/
noncomputable def cmp2F (o1 o2 : CmpOp) (f g h : Rho → Option PV) : Rho → Option PV := fun ρ => (f ρ).bind fun x => (g ρ).bind fun y => (cmpV o1 x y).bind fun b => if b then (h ρ).bind fun z => (cmpV o2 y z).map .bool else some (.bool false)
theorem ex_cmp2 {o1 o2 : CmpOp} {e1 e2 e3 : Expr} {pos : Pos} {f g h : Rho → Option PV} (h1 : Ex D n c vars .raw e1 f) (h2 : Ex D n c vars .raw e2 g) (h3 : Ex D n c vars .raw e3 h)
    (hm : ∀ env, markedEach [o1, o2] [e2, e3] (evalEach [e2, e3] env) = [eval e2 env, eval e3 env] := by intro _; rfl) :
    Ex D n c vars k (.Compare e1 [o1, o2] [e2, e3] pos) (cmp2F o1 o2 f g h) := fun env A own ρ s z hc hA S hf => by
  obtain ⟨x, hx, hf⟩ := Option.bind_eq_some_iff.mp hf
  obtain ⟨y, hy, hf⟩ := Option.bind_eq_some_iff.mp hf
  obtain ⟨b, hb, hf⟩ := Option.bind_eq_some_iff.mp hf
  show wpAny _ _ (do compareChain pos (← eval e1 env) [o1, o2] (markedEach [o1, o2] [e2, e3] (evalEach [e2, e3] env))) _ _ _
  rw [hm env]
  refine wpAny_bind (wpAny_mono (h1 env A own ρ s x hc hA S hx) (fun v s1 ⟨g1, d1⟩ => ?_) fun _ _ q => q)
  have S1 := S.grow g1
  refine wpAny_bind (wpAny_holding (wpAny_mono (h2 env A own ρ s1 y hc hA S1 hy) (fun w s2 ⟨g2, d2⟩ => ?_) fun _ _ q => q))
  have S2 := S1.grow g2
  refine wpAny_bind (wpAny_standAt (wpAny_bind (wpAny_holding (wpAny_mono (cmpV_ok g2.tab (d1.grow g2 S1.tab) d2 hb) (fun r s3 ⟨g3, e3⟩ => ?_) fun _ _ q => q))))
  subst e3
  have S3 := S2.grow g3
  refine wpAny_bind (wpAny_release (wpAny_bind (wpAny_holding (wpAny_truthy_bool (wpAny_ite ?_)))))
  cases b with
  | false =>
    cases hf
    simp only [Bool.false_eq_true, if_false]
    exact wpAny_pure ⟨(g1.then g2).then g3, den_bool⟩
  | true =>
    simp only [if_true] at hf ⊢
    obtain ⟨u, hu, hf⟩ := Option.bind_eq_some_iff.mp hf
    obtain ⟨b2, hb2, rfl⟩ := Option.map_eq_some_iff.mp hf
    refine wpAny_bind (wpAny_holding (wpAny_mono (h3 env A own ρ s3 u hc hA S3 hu) (fun w2 s4 ⟨g4, d4⟩ => ?_) fun _ _ q => q))
    refine wpAny_bind (wpAny_standAt (wpAny_operateT (wpAny_mono (cmpV_ok g4.tab ((d2.grow g3 S2.tab).grow g4 S3.tab) d4 hb2) (fun r s5 ⟨g5, e5⟩ => ?_) fun _ _ q => q)))
    subst e5
    exact ⟨((g1.then g2).then g3).then (g4.then g5), den_bool⟩

noncomputable def isboolF (f : Rho → Option PV) : Rho → Option PV := fun ρ => (f ρ).bind fun x => match x with | .int _ => some (.bool false) | _ => none
noncomputable def toL : PV → Option (List PV)
  | .list xs => some xs
  | _ => none
noncomputable def toRevL : PV → Option (List PV)
  | .list xs => some xs.reverse
  | _ => none
noncomputable def toSigns : PV → Option (List PV)
  | .str x => some (signsOf x)
  | _ => none
noncomputable def listIt (f : Rho → Option PV) : Rho → Option (List PV) := fun ρ => (f ρ).bind toL
noncomputable def revIt (f : Rho → Option PV) : Rho → Option (List PV) := fun ρ => (f ρ).bind toRevL
noncomputable def strIt (f : Rho → Option PV) : Rho → Option (List PV) := fun ρ => (f ρ).bind toSigns
noncomputable def exF (f : Rho → Option (List PV)) : Rho → Option PV := fun ρ => (f ρ).map .list
theorem it_list {e : Expr} {f : Rho → Option PV} (h : Ex D n c vars .cl e f) : ItE D n c vars e (listIt f) := itE_list h
theorem it_str {e : Expr} {f : Rho → Option PV} (h : Ex D n c vars .raw e f) : ItE D n c vars e (strIt f) := itE_str h
theorem it_rev {p pos : Pos} {e : Expr} {f : Rho → Option PV} (h : Ex D n c vars .cl e f) (hv : Gv D "reversed" (.type "reversed")) (hk : c.sc.names.lookup ("reversed" : Str) = some .globalImplicit) (hs : ∀ env, starEach [e] env = [(false, eval e env)] := by intro _; rfl) :
    ItE D n c vars (.Call (.Name "reversed" p) [e] [] pos) (revIt f) := itE_rev h hv hk hs
theorem ex_n {e : Expr} {f : Rho → Option (List PV)} (h : ExN D n c vars e f) : Ex D n c vars .cl e (exF f) := h.toEx
theorem ex_nr {e : Expr} {f : Rho → Option (List PV)} (h : ExN D n c vars e f) : Ex D n c vars .raw e (exF f) := h.toEx.toRaw
end
end Mine
end
section
namespace Mine
noncomputable def vars21 : List (Option Str) := [some "ch_a", some "ch_b"]
noncomputable def f21 : Rho → Option Out :=
  (seqF (ifF (cmpF .Eq (getAny 0) (getAny 1)) (retF (intF 0)) passF)
  (seqF (ifF (cmpF .Eq (callF lowerV [(getAny 0)]) (callF lowerV [(getAny 1)])) (retF (intF 1)) passF)
  (retF (intF 2))))
theorem sx21 {D : Dt} (hD : DD D) : Sx D 0 (sctOf (fdAt D.w.params 21)) vars21 (bodyAt D.w.params 21) f21 :=
  (sx_cons (s1_if (tx_cmp (ex_name 0 rfl) (ex_name 1 rfl)) (sx_one (s1_ret ex_int)) sx_nil)
  (sx_cons (s1_if (tx_cmp (ex_lower (ex_name 0 rfl)) (ex_lower (ex_name 1 rfl))) (sx_one (s1_ret (ex_glob (hD.gv rfl) rfl))) sx_nil)
  (sx_one (s1_ret (ex_glob (hD.gv rfl) rfl)))))
noncomputable def F21 : List PV → Option PV := funF 2 f21
theorem cn21 {D : Dt} (hD : DD D) : Cn D (0 + 1) (.ref 21) F21 :=
  cn_fun (fd := fdAt D.w.params 21) (ps := ["ch_a", "ch_b"]) (vars := vars21) (hD.f (by exact List.mem_of_elem_eq_true rfl)) rfl rfl rfl (of_len2 fun _ _ => rfl) fun h => sx21 (hD.at h)

noncomputable def vars28 : List (Option Str) := [some "a", some "b", some "max_cost", some "pre", some "post", some "row", some "result", some "bindex", some "bchar", some "distance", some "minimum", some "index", some "substitute", some "insert_delete"]
noncomputable def f28 : Rho → Option Out :=
  (seqF (ifF (cmpF .Eq (getAny 0) (getAny 1)) (retF (intF 0)) passF)
  (seqF (assignF 3 (intF 0))
  (seqF (whileF (andL [(tstF (sliceSF (getAny 0) (some (getAny 3)) none)), (tstF (sliceSF (getAny 1) (some (getAny 3)) none)), (cmpF .Eq (subF (getAny 0) (getAny 3)) (subF (getAny 1) (getAny 3)))]) (augF 3 .Add (intF 1)) 1000)
  (seqF (assignF 0 (sliceSF (getAny 0) (some (getAny 3)) none))
  (seqF (assignF 1 (sliceSF (getAny 1) (some (getAny 3)) none))
  (seqF (assignF 4 (intF 0))
  (seqF (whileF (andL [(tstF (sliceSF (getAny 0) none (some (orF (getAny 4) noneF)))), (tstF (sliceSF (getAny 1) none (some (orF (getAny 4) noneF)))), (cmpF .Eq (subF (getAny 0) (binF .Sub (getAny 4) (intF 1))) (subF (getAny 1) (binF .Sub (getAny 4) (intF 1))))]) (augF 4 .Sub (intF 1)) 1000)
  (seqF (assignF 0 (sliceSF (getAny 0) none (some (orF (getAny 4) noneF))))
  (seqF (assignF 1 (sliceSF (getAny 1) none (some (orF (getAny 4) noneF))))
  (seqF (ifF (orL [(notF (tstF (getAny 0))), (notF (tstF (getAny 1)))]) (retF (binF .Mult (intF 2) (binF .Add (callF lenV [(getAny 0)]) (callF lenV [(getAny 1)])))) passF)
  (seqF (ifF (orL [(cmpF .Gt (callF lenV [(getAny 0)]) (intF 40)), (cmpF .Gt (callF lenV [(getAny 1)]) (intF 40))]) (retF (binF .Add (getAny 2) (intF 1))) passF)
  (seqF (ifF (cmpF .Lt (callF lenV [(getAny 1)]) (callF lenV [(getAny 0)])) (swapF [0, 1] (tupF [(getAny 1), (getAny 0)])) passF)
  (seqF (ifF (cmpF .Gt (binF .Mult (binF .Sub (callF lenV [(getAny 1)]) (callF lenV [(getAny 0)])) (intF 2)) (getAny 2)) (retF (binF .Add (getAny 2) (intF 1))) passF)
  (seqF (assignN 5 (listRangeF (intF 2) (binF .Mult (intF 2) (binF .Add (callF lenV [(getAny 0)]) (intF 1))) (intF 2)))
  (seqF (assignF 6 (intF 0))
  (seqF (forE (rangeF [(callF lenV [(getAny 1)])]) (nameU 7) (seqF (assignF 8 (scF (subF (getAny 1) (getAny 7))))
  (seqF (assign2F 9 6 (binF .Mult (getAny 7) (intF 2)))
  (seqF (assignF 10 (intF 9223372036854775807))
  (seqF (forE (rangeF [(callF lenV [(getAny 0)])]) (nameU 11) (seqF (assignF 12 (binF .Add (getAny 9) (callF F21 [(getAny 8), (subF (getAny 0) (getAny 11))])))
  (seqF (assignF 9 (scF (subF (getAny 5) (getAny 11))))
  (seqF (assignF 13 (binF .Add (callF minV [(getAny 6), (getAny 9)]) (intF 2)))
  (seqF (assignF 6 (callF minV [(getAny 13), (getAny 12)]))
  (seqF (setF 5 (getAny 11) (getAny 6))
  (ifF (cmpF .Lt (getAny 6) (getAny 10)) (assignF 10 (getFz 6)) passF)))))))
  (ifF (cmpF .Gt (getAny 10) (getAny 2)) (retF (binF .Add (getAny 2) (intF 1))) passF))))))
  (retF (getRt 6))))))))))))))))))
theorem sx28 {D : Dt} (hD : DD D) : Sx D 1 (sctOf (fdAt D.w.params 28)) vars28 (bodyAt D.w.params 28) f28 :=
  (sx_cons (s1_if (tx_cmp (ex_name 0 rfl) (ex_name 1 rfl)) (sx_one (s1_ret ex_int)) sx_nil)
  (sx_cons (s1_assign 3 rfl rfl ex_int)
  (sx_cons (s1_while 1000 (tx_and (.cons (tx_plain (ex_sliceS (ex_name 0 rfl) (.some (ex_name 3 rfl)) .none)) (.cons (tx_plain (ex_sliceS (ex_name 1 rfl) (.some (ex_name 3 rfl)) .none)) (.cons (tx_cmp (ex_sub (ex_name 0 rfl) (ex_name 3 rfl)) (ex_sub (ex_name 1 rfl) (ex_name 3 rfl))) .nil)))) (sx_one (s1_aug 3 rfl rfl ex_int)))
  (sx_cons (s1_assign 0 rfl rfl (ex_sliceS (ex_name 0 rfl) (.some (ex_name 3 rfl)) .none))
  (sx_cons (s1_assign 1 rfl rfl (ex_sliceS (ex_name 1 rfl) (.some (ex_name 3 rfl)) .none))
  (sx_cons (s1_assign 4 rfl rfl ex_int)
  (sx_cons (s1_while 1000 (tx_and (.cons (tx_plain (ex_sliceS (ex_name 0 rfl) .none (.some (ex_or (ex_name 4 rfl) ex_none)))) (.cons (tx_plain (ex_sliceS (ex_name 1 rfl) .none (.some (ex_or (ex_name 4 rfl) ex_none)))) (.cons (tx_cmp (ex_sub (ex_name 0 rfl) (ex_bin (ex_name 4 rfl) ex_int)) (ex_sub (ex_name 1 rfl) (ex_bin (ex_name 4 rfl) ex_int))) .nil)))) (sx_one (s1_aug 4 rfl rfl ex_int)))
  (sx_cons (s1_assign 0 rfl rfl (ex_sliceS (ex_name 0 rfl) .none (.some (ex_or (ex_name 4 rfl) ex_none))))
  (sx_cons (s1_assign 1 rfl rfl (ex_sliceS (ex_name 1 rfl) .none (.some (ex_or (ex_name 4 rfl) ex_none))))
  (sx_cons (s1_if (tx_or (.cons (tx_not (tx_plain (ex_name 0 rfl))) (.cons (tx_not (tx_plain (ex_name 1 rfl))) .nil))) (sx_one (s1_ret (ex_bin (ex_glob (hD.gv rfl) rfl) (ex_bin (ex_call cn_len (hD.bv rfl (by decide) rfl) (.inl ⟨_, rfl⟩) (Nat.zero_le _) (argsX_cons (ex_name 0 rfl) .nil) rfl) (ex_call cn_len (hD.bv rfl (by decide) rfl) (.inl ⟨_, rfl⟩) (Nat.zero_le _) (argsX_cons (ex_name 1 rfl) .nil) rfl))))) sx_nil)
  (sx_cons (s1_if (tx_or (.cons (tx_cmp (ex_call cn_len (hD.bv rfl (by decide) rfl) (.inl ⟨_, rfl⟩) (Nat.zero_le _) (argsX_cons (ex_name 0 rfl) .nil) rfl) (ex_glob (hD.gv rfl) rfl)) (.cons (tx_cmp (ex_call cn_len (hD.bv rfl (by decide) rfl) (.inl ⟨_, rfl⟩) (Nat.zero_le _) (argsX_cons (ex_name 1 rfl) .nil) rfl) (ex_glob (hD.gv rfl) rfl)) .nil))) (sx_one (s1_ret (ex_bin (ex_name 2 rfl) ex_int))) sx_nil)
  (sx_cons (s1_if (tx_cmp (ex_call cn_len (hD.bv rfl (by decide) rfl) (.inl ⟨_, rfl⟩) (Nat.zero_le _) (argsX_cons (ex_name 1 rfl) .nil) rfl) (ex_call cn_len (hD.bv rfl (by decide) rfl) (.inl ⟨_, rfl⟩) (Nat.zero_le _) (argsX_cons (ex_name 0 rfl) .nil) rfl)) (sx_one (s1_swap (ns := ["a", "b"]) (.cons rfl rfl (.cons rfl rfl .nil)) (ex_tup (argsX_cons (ex_name 1 rfl) (argsX_cons (ex_name 0 rfl) .nil))) (fun _ h => by unfold swappedStores Env.blockKind Env.kindOf; rw [h.1]; rfl))) sx_nil)
  (sx_cons (s1_if (tx_cmp (ex_bin (ex_bin (ex_call cn_len (hD.bv rfl (by decide) rfl) (.inl ⟨_, rfl⟩) (Nat.zero_le _) (argsX_cons (ex_name 1 rfl) .nil) rfl) (ex_call cn_len (hD.bv rfl (by decide) rfl) (.inl ⟨_, rfl⟩) (Nat.zero_le _) (argsX_cons (ex_name 0 rfl) .nil) rfl)) (ex_glob (hD.gv rfl) rfl)) (ex_name 2 rfl)) (sx_one (s1_ret (ex_bin (ex_name 2 rfl) ex_int))) sx_nil)
  (sx_cons (s1_assignN 5 rfl rfl (exn_listRange (ex_glob (hD.gv rfl) rfl) (ex_bin (ex_glob (hD.gv rfl) rfl) (ex_bin (ex_call cn_len (hD.bv rfl (by decide) rfl) (.inl ⟨_, rfl⟩) (Nat.zero_le _) (argsX_cons (ex_name 0 rfl) .nil) rfl) ex_int)) (ex_glob (hD.gv rfl) rfl) (hD.bv rfl (by decide) rfl) (hD.bv rfl (by decide) rfl) rfl rfl))
  (sx_cons (s1_assign 6 rfl rfl ex_int)
  (sx_cons (s1_for (itE_range (argsX_cons (ex_call cn_len (hD.bv rfl (by decide) rfl) (.inl ⟨_, rfl⟩) (Nat.zero_le _) (argsX_cons (ex_name 1 rfl) .nil) rfl) .nil) (hD.bv rfl (by decide) rfl) rfl) (tg_name 7 rfl rfl) (sx_cons (s1_assign 8 rfl rfl (Ex.ofSc (ex_sub (ex_name 1 rfl) (ex_name 7 rfl))))
  (sx_cons (s1_assign2 9 6 rfl rfl rfl rfl (ex_bin (ex_name 7 rfl) (ex_glob (hD.gv rfl) rfl)))
  (sx_cons (s1_assign 10 rfl rfl ex_int)
  (sx_cons (s1_for (itE_range (argsX_cons (ex_call cn_len (hD.bv rfl (by decide) rfl) (.inl ⟨_, rfl⟩) (Nat.zero_le _) (argsX_cons (ex_name 0 rfl) .nil) rfl) .nil) (hD.bv rfl (by decide) rfl) rfl) (tg_name 11 rfl rfl) (sx_cons (s1_assign 12 rfl rfl (ex_bin (ex_name 9 rfl) (ex_call (cn21 hD) (hD.gv rfl) (.inr (.inr ⟨_, _, rfl, hD.f (by decide)⟩)) (by decide) (argsX_cons (ex_name 8 rfl) (argsX_cons (ex_sub (ex_name 0 rfl) (ex_name 11 rfl)) .nil)) rfl)))
  (sx_cons (s1_assign 9 rfl rfl (Ex.ofSc (ex_sub (ex_name 5 rfl) (ex_name 11 rfl))))
  (sx_cons (s1_assign 13 rfl rfl (ex_bin (ex_call cn_min (hD.bv rfl (by decide) rfl) (.inl ⟨_, rfl⟩) (Nat.zero_le _) (argsX_cons (ex_name 6 rfl) (argsX_cons (ex_name 9 rfl) .nil)) rfl) (ex_glob (hD.gv rfl) rfl)))
  (sx_cons (s1_assign 6 rfl rfl (ex_call cn_min (hD.bv rfl (by decide) rfl) (.inl ⟨_, rfl⟩) (Nat.zero_le _) (argsX_cons (ex_name 13 rfl) (argsX_cons (ex_name 12 rfl) .nil)) rfl))
  (sx_cons (s1_setitem 5 rfl (ex_name 11 rfl) (ex_name 6 rfl))
  (sx_one (s1_if (tx_cmp (ex_name 6 rfl) (ex_name 10 rfl)) (sx_one (s1_assign 10 rfl rfl (ex_nameC 6 rfl))) sx_nil))))))))
  (sx_one (s1_if (tx_cmp (ex_name 10 rfl) (ex_name 2 rfl)) (sx_one (s1_ret (ex_bin (ex_name 2 rfl) ex_int))) sx_nil)))))))
  (sx_one (s1_ret (ex_nameR 6 rfl)))))))))))))))))))
noncomputable def F28 : List PV → Option PV := funF 3 f28
theorem cn28 {D : Dt} (hD : DD D) : Cn D (1 + 1) (.ref 28) F28 :=
  cn_fun (fd := fdAt D.w.params 28) (ps := ["a", "b", "max_cost"]) (vars := vars28) (hD.f (by decide)) rfl rfl rfl (of_len3 fun _ _ _ => rfl) fun h => sx28 (hD.at h)

end Mine
end
section
namespace Mine
set_option maxRecDepth 20000
noncomputable def vars35 : List (Option Str) := [some "a", some "b", some "n", some "pad", some "half_n", some "mask", some "b1", some "b2", some "q1", some "r", some "q2"]
noncomputable def f35 (G : List PV → Option PV) : Rho → Option Out :=
  (seqF (ifF (cmpF .LtE (binF .Sub (callF bitLenV [(getAny 0)]) (getAny 2)) (intF 4000)) (retF (callF divmodV [(getAny 0), (getAny 1)])) passF)
  (seqF (assignF 3 (binF .BitAnd (getAny 2) (intF 1)))
  (seqF (ifF (tstF (getAny 3)) (seqF (augF 0 .LShift (intF 1))
  (seqF (augF 1 .LShift (intF 1))
  (augF 2 .Add (intF 1)))) passF)
  (seqF (assignF 4 (binF .RShift (getAny 2) (intF 1)))
  (seqF (assignF 5 (binF .Sub (binF .LShift (intF 1) (getAny 4)) (intF 1)))
  (seqF (swapF [6, 7] (tupF [(binF .RShift (getAny 1) (getAny 4)), (binF .BitAnd (getAny 1) (getAny 5))]))
  (seqF (assignTF (tupU [8, 9]) (callF G [(binF .RShift (getAny 0) (getAny 2)), (binF .BitAnd (binF .RShift (getAny 0) (getAny 4)) (getAny 5)), (getAny 1), (getAny 6), (getAny 7), (getAny 4)]))
  (seqF (assignTF (tupU [10, 9]) (callF G [(getAny 9), (binF .BitAnd (getAny 0) (getAny 5)), (getAny 1), (getAny 6), (getAny 7), (getAny 4)]))
  (seqF (ifF (tstF (getAny 3)) (augF 9 .RShift (intF 1)) passF)
  (retF (tupF [(binF .BitOr (binF .LShift (getAny 8) (getAny 4)) (getAny 10)), (getAny 9)])))))))))))
theorem sx35 {D : Dt} (hD : DD D) {n : Nat} {G : List PV → Option PV} (hG : Cn D n (.ref 42) G) : Sx D n (sctOf (fdAt D.w.params 35)) vars35 (bodyAt D.w.params 35) (f35 G) :=
  (sx_cons (s1_if (tx_cmp (ex_bin (ex_bitLen (ex_name 0 rfl)) (ex_name 2 rfl)) (ex_glob (hD.gv rfl) rfl)) (sx_one (s1_ret (ex_call cn_divmod (hD.bv rfl (by decide) rfl) (.inl ⟨_, rfl⟩) (Nat.zero_le _) (argsX_cons (ex_name 0 rfl) (argsX_cons (ex_name 1 rfl) .nil)) rfl))) sx_nil)
  (sx_cons (s1_assign 3 rfl rfl (ex_bin (ex_name 2 rfl) ex_int))
  (sx_cons (s1_if (tx_plain (ex_name 3 rfl)) (sx_cons (s1_aug 0 rfl rfl ex_int)
  (sx_cons (s1_aug 1 rfl rfl ex_int)
  (sx_one (s1_aug 2 rfl rfl ex_int)))) sx_nil)
  (sx_cons (s1_assign 4 rfl rfl (ex_bin (ex_name 2 rfl) ex_int))
  (sx_cons (s1_assign 5 rfl rfl (ex_bin (ex_bin ex_int (ex_name 4 rfl)) ex_int))
  (sx_cons (s1_swap (ns := ["b1", "b2"]) (.cons rfl rfl (.cons rfl rfl .nil)) (ex_tup (argsX_cons (ex_bin (ex_name 1 rfl) (ex_name 4 rfl)) (argsX_cons (ex_bin (ex_name 1 rfl) (ex_name 5 rfl)) .nil))) (fun _ h => by unfold swappedStores Env.blockKind Env.kindOf; rw [h.1]; rfl))
  (sx_cons (s1_assignT (.cons rfl rfl (.cons rfl rfl .nil)) (ex_call hG (hD.gv rfl) (.inr (.inr ⟨_, _, rfl, hD.f (by decide)⟩)) (Nat.le_refl _) (argsX_cons (ex_bin (ex_name 0 rfl) (ex_name 2 rfl)) (argsX_cons (ex_bin (ex_bin (ex_name 0 rfl) (ex_name 4 rfl)) (ex_name 5 rfl)) (argsX_cons (ex_name 1 rfl) (argsX_cons (ex_name 6 rfl) (argsX_cons (ex_name 7 rfl) (argsX_cons (ex_name 4 rfl) .nil)))))) rfl))
  (sx_cons (s1_assignT (.cons rfl rfl (.cons rfl rfl .nil)) (ex_call hG (hD.gv rfl) (.inr (.inr ⟨_, _, rfl, hD.f (by decide)⟩)) (Nat.le_refl _) (argsX_cons (ex_name 9 rfl) (argsX_cons (ex_bin (ex_name 0 rfl) (ex_name 5 rfl)) (argsX_cons (ex_name 1 rfl) (argsX_cons (ex_name 6 rfl) (argsX_cons (ex_name 7 rfl) (argsX_cons (ex_name 4 rfl) .nil)))))) rfl))
  (sx_cons (s1_if (tx_plain (ex_name 3 rfl)) (sx_one (s1_aug 9 rfl rfl ex_int)) sx_nil)
  (sx_one (s1_ret (ex_tup (argsX_cons (ex_bin (ex_bin (ex_name 8 rfl) (ex_name 4 rfl)) (ex_name 10 rfl)) (argsX_cons (ex_name 9 rfl) .nil))))))))))))))
theorem cn35 {D : Dt} (hD : DD D) {n : Nat} {G : List PV → Option PV} (hG : Cn D n (.ref 42) G) : Cn D (n + 1) (.ref 35) (funF 3 (f35 G)) :=
  cn_fun (fd := fdAt D.w.params 35) (ps := ["a", "b", "n"]) (vars := vars35) (hD.f (by decide)) rfl rfl rfl (of_len3 fun _ _ _ => rfl) fun h => sx35 (hD.at h) (n := n) hG

noncomputable def vars42 : List (Option Str) := [some "a12", some "a3", some "b", some "b1", some "b2", some "n", some "q", some "r"]
noncomputable def f42 (G : List PV → Option PV) : Rho → Option Out :=
  (seqF (ifF (cmpF .Eq (binF .RShift (getAny 0) (getAny 5)) (getAny 3)) (swapF [6, 7] (tupF [(binF .Sub (binF .LShift (intF 1) (getAny 5)) (intF 1)), (binF .Add (binF .Sub (getAny 0) (binF .LShift (getAny 3) (getAny 5))) (getAny 3))])) (assignTF (tupU [6, 7]) (callF G [(getAny 0), (getAny 3), (getAny 5)])))
  (seqF (assignF 7 (binF .Sub (binF .BitOr (binF .LShift (getAny 7) (getAny 5)) (getAny 1)) (binF .Mult (getAny 6) (getAny 4))))
  (seqF (whileF (cmpF .Lt (getAny 7) (intF 0)) (seqF (augF 6 .Sub (intF 1))
  (augF 7 .Add (getAny 2))) 1000)
  (retF (tupF [(getAny 6), (getAny 7)])))))
theorem sx42 {D : Dt} (hD : DD D) {n : Nat} {G : List PV → Option PV} (hG : Cn D n (.ref 35) G) : Sx D n (sctOf (fdAt D.w.params 42)) vars42 (bodyAt D.w.params 42) (f42 G) :=
  (sx_cons (s1_if (tx_cmp (ex_bin (ex_name 0 rfl) (ex_name 5 rfl)) (ex_name 3 rfl)) (sx_one (s1_swap (ns := ["q", "r"]) (.cons rfl rfl (.cons rfl rfl .nil)) (ex_tup (argsX_cons (ex_bin (ex_bin ex_int (ex_name 5 rfl)) ex_int) (argsX_cons (ex_bin (ex_bin (ex_name 0 rfl) (ex_bin (ex_name 3 rfl) (ex_name 5 rfl))) (ex_name 3 rfl)) .nil))) (fun _ h => by unfold swappedStores Env.blockKind Env.kindOf; rw [h.1]; rfl))) (sx_one (s1_assignT (.cons rfl rfl (.cons rfl rfl .nil)) (ex_call hG (hD.gv rfl) (.inr (.inr ⟨_, _, rfl, hD.f (by decide)⟩)) (Nat.le_refl _) (argsX_cons (ex_name 0 rfl) (argsX_cons (ex_name 3 rfl) (argsX_cons (ex_name 5 rfl) .nil))) rfl))))
  (sx_cons (s1_assign 7 rfl rfl (ex_bin (ex_bin (ex_bin (ex_name 7 rfl) (ex_name 5 rfl)) (ex_name 1 rfl)) (ex_bin (ex_name 6 rfl) (ex_name 4 rfl))))
  (sx_cons (s1_while 1000 (tx_cmp (ex_name 7 rfl) ex_int) (sx_cons (s1_aug 6 rfl rfl ex_int)
  (sx_one (s1_aug 7 rfl rfl (ex_name 2 rfl)))))
  (sx_one (s1_ret (ex_tup (argsX_cons (ex_name 6 rfl) (argsX_cons (ex_name 7 rfl) .nil))))))))
theorem cn42 {D : Dt} (hD : DD D) {n : Nat} {G : List PV → Option PV} (hG : Cn D n (.ref 35) G) : Cn D (n + 1) (.ref 42) (funF 6 (f42 G)) :=
  cn_fun (fd := fdAt D.w.params 42) (ps := ["a12", "a3", "b", "b1", "b2", "n"]) (vars := vars42) (hD.f (by decide)) rfl rfl rfl (of_len6 fun _ _ _ _ _ _ => rfl) fun h => sx42 (hD.at h) (n := n) hG

noncomputable def vars96 : List (Option Str) := [some "script", some "own", some "count"]
noncomputable def f96 : Rho → Option Out :=
  (seqF (assignF 1 (exF (listF [(intF 120), (intF 229), (intF 24), (intF 205)])))
  (seqF (assignF 2 (iteF (cmpF .Gt (callF lenV [(getAny 0)]) (intF 3)) (intF 4) (intF 3)))
  (retF (listRt (compE 3 (rangeF [(getAny 2)]) (compG (nameU 3) yesF (emF (binF .Add (subF (getAny 1) (getAny 3)) (iteF (cmpF .Lt (getAny 3) (callF lenV [(getAny 0)])) (subF (getAny 0) (getAny 3)) (intF 0))))))))))
theorem sx96 {D : Dt} (hD : DD D) : Sx D 0 (sctOf (fdAt D.w.params 96)) vars96 (bodyAt D.w.params 96) f96 :=
  (sx_cons (s1_assign 1 rfl rfl (ex_n (exn_list (argsC_cons ex_int (argsC_cons ex_int (argsC_cons ex_int (argsC_cons ex_int .nil)))))))
  (sx_cons (s1_assign 2 rfl rfl (ex_ite (tx_cmp (ex_call cn_len (hD.bv rfl (by decide) rfl) (.inl ⟨_, rfl⟩) (Nat.zero_le _) (argsX_cons (ex_name 0 rfl) .nil) rfl) ex_int) ex_int ex_int))
  (sx_one (s1_ret ((exn_comp (R := fun _ _ => True) (N := fun _ _ => True) (vars' := [some "script", some "own", none, some "k"]) (itE_range (argsX_cons (ex_name 2 rfl) .nil) (hD.bv rfl (by decide) rfl) rfl) rfl (loop_one (tc_name 3 rfl rfl) if_none (fun _ => em_plain (k := .cl) (ex_bin (ex_sub (ex_name 1 rfl) (ex_name 3 rfl)) (ex_ite (tx_cmp (ex_name 3 rfl) (ex_call cn_len (hD.bv rfl (by decide) rfl) (.inl ⟨_, rfl⟩) (Nat.zero_le _) (argsX_cons (ex_name 0 rfl) .nil) rfl)) (ex_sub (ex_name 0 rfl) (ex_name 3 rfl)) ex_int)) fun _ _ h => ⟨h, trivial⟩)))).toRt))))
noncomputable def F96 : List PV → Option PV := funF 1 f96
theorem cn96 {D : Dt} (hD : DD D) : Cn D (0 + 1) (.ref 96) F96 :=
  cn_fun (fd := fdAt D.w.params 96) (ps := ["script"]) (vars := vars96) (hD.f (by decide)) rfl rfl rfl (of_len1 fun _ => rfl) fun h => sx96 (hD.at h)

noncomputable def vars101 : List (Option Str) := [some "cells", some "depths", some "dress", some "row", some "places", some "closes", some "open_ones", some "k", some "last"]
noncomputable def f101 : Rho → Option Out :=
  (seqF (assignF 2 (exF (listF [(strF ""), (strF "\\)"), (strF "\"(\""), (strF "\\\\"), (strF "a"), (strF "\\\"")])))
  (seqF (assignN 3 (listF [(strF "(")]))
  (seqF (assignN 4 (listF [(intF 0)]))
  (seqF (assignN 5 (compE 9 (listIt (getFz 1)) (compG (nameU 9) yesF (emF (intF 0)))))
  (seqF (assignN 6 (listF [(intF 0)]))
  (seqF (forE (rangeF [(intF 1), (callF lenV [(getAny 1)])]) (nameU 7) (seqF (whileF (cmpF .Gt (callF lenV [(getAny 6)]) (subF (getAny 1) (getAny 7))) (seqF (popV 6 8)
  (seqF (setF 5 (getAny 8) (callF lenV [(getAny 3)]))
  (appendF 3 (binF .Add (strF ")") (subF (getAny 2) (binF .Mod (binF .FloorDiv (subF (getAny 0) (binF .Sub (getAny 8) (intF 1))) (intF 72)) (intF 6))))))) 1000)
  (seqF (appendF 4 (callF lenV [(getAny 3)]))
  (seqF (appendF 6 (getAny 7))
  (appendF 3 (binF .Add (strF "(") (subF (getAny 2) (binF .Mod (binF .FloorDiv (subF (getAny 0) (binF .Sub (getAny 7) (intF 1))) (intF 12)) (intF 6)))))))))
  (seqF (whileF (cmpF .Gt (callF lenV [(getAny 6)]) (intF 1)) (seqF (popV 6 8)
  (seqF (setF 5 (getAny 8) (callF lenV [(getAny 3)]))
  (appendF 3 (binF .Add (strF ")") (subF (getAny 2) (binF .Mod (binF .FloorDiv (subF (getAny 0) (binF .Sub (getAny 8) (intF 1))) (intF 72)) (intF 6))))))) 1000)
  (seqF (setF 5 (intF 0) (callF lenV [(getAny 3)]))
  (seqF (appendF 3 (strF ")"))
  (retF (tupKF [(getRt 3), (getRt 4), (getRt 5)])))))))))))
theorem sx101 {D : Dt} (hD : DD D) : Sx D 0 (sctOf (fdAt D.w.params 101)) vars101 (bodyAt D.w.params 101) f101 :=
  (sx_cons (s1_assign 2 rfl rfl (ex_n (exn_list (argsC_cons ex_str (argsC_cons ex_str (argsC_cons ex_str (argsC_cons ex_str (argsC_cons ex_str (argsC_cons ex_str .nil)))))))))
  (sx_cons (s1_assignN 3 rfl rfl (exn_list (argsC_cons ex_str .nil)))
  (sx_cons (s1_assignN 4 rfl rfl (exn_list (argsC_cons ex_int .nil)))
  (sx_cons (s1_compN (R := fun _ _ => True) (N := fun _ _ => True) (vars' := [none, none, none, none, none, none, none, none, none, some "depth"]) 5 rfl rfl (it_list (ex_nameC 1 rfl)) rfl (loop_one (tc_name 9 rfl rfl) if_none (fun _ => em_plain (k := .cl) ex_int fun _ _ h => ⟨h, trivial⟩)) (fun _ h => by unfold swapsWith Env.blockKind Env.kindOf; rw [h.1]; rfl))
  (sx_cons (s1_assignN 6 rfl rfl (exn_list (argsC_cons ex_int .nil)))
  (sx_cons (s1_for (itE_range (argsX_cons ex_int (argsX_cons (ex_call cn_len (hD.bv rfl (by decide) rfl) (.inl ⟨_, rfl⟩) (Nat.zero_le _) (argsX_cons (ex_name 1 rfl) .nil) rfl) .nil)) (hD.bv rfl (by decide) rfl) rfl) (tg_name 7 rfl rfl) (sx_cons (s1_while 1000 (tx_cmp (ex_call cn_len (hD.bv rfl (by decide) rfl) (.inl ⟨_, rfl⟩) (Nat.zero_le _) (argsX_cons (ex_name 6 rfl) .nil) rfl) (ex_sub (ex_name 1 rfl) (ex_name 7 rfl))) (sx_cons (s1_pop 6 8 rfl rfl rfl)
  (sx_cons (s1_setitem 5 rfl (ex_name 8 rfl) (ex_call cn_len (hD.bv rfl (by decide) rfl) (.inl ⟨_, rfl⟩) (Nat.zero_le _) (argsX_cons (ex_name 3 rfl) .nil) rfl))
  (sx_one (s1_append 3 rfl (ex_bin ex_str (ex_sub (ex_name 2 rfl) (ex_bin (ex_bin (ex_sub (ex_name 0 rfl) (ex_bin (ex_name 8 rfl) ex_int)) ex_int) ex_int))) (hi := (fun _ h => by unfold interactive; rw [h.1]; rfl)))))))
  (sx_cons (s1_append 4 rfl (ex_call cn_len (hD.bv rfl (by decide) rfl) (.inl ⟨_, rfl⟩) (Nat.zero_le _) (argsX_cons (ex_name 3 rfl) .nil) rfl) (hi := (fun _ h => by unfold interactive; rw [h.1]; rfl)))
  (sx_cons (s1_append 6 rfl (ex_name 7 rfl) (hi := (fun _ h => by unfold interactive; rw [h.1]; rfl)))
  (sx_one (s1_append 3 rfl (ex_bin ex_str (ex_sub (ex_name 2 rfl) (ex_bin (ex_bin (ex_sub (ex_name 0 rfl) (ex_bin (ex_name 7 rfl) ex_int)) ex_int) ex_int))) (hi := (fun _ h => by unfold interactive; rw [h.1]; rfl))))))))
  (sx_cons (s1_while 1000 (tx_cmp (ex_call cn_len (hD.bv rfl (by decide) rfl) (.inl ⟨_, rfl⟩) (Nat.zero_le _) (argsX_cons (ex_name 6 rfl) .nil) rfl) ex_int) (sx_cons (s1_pop 6 8 rfl rfl rfl)
  (sx_cons (s1_setitem 5 rfl (ex_name 8 rfl) (ex_call cn_len (hD.bv rfl (by decide) rfl) (.inl ⟨_, rfl⟩) (Nat.zero_le _) (argsX_cons (ex_name 3 rfl) .nil) rfl))
  (sx_one (s1_append 3 rfl (ex_bin ex_str (ex_sub (ex_name 2 rfl) (ex_bin (ex_bin (ex_sub (ex_name 0 rfl) (ex_bin (ex_name 8 rfl) ex_int)) ex_int) ex_int))) (hi := (fun _ h => by unfold interactive; rw [h.1]; rfl)))))))
  (sx_cons (s1_setitem 5 rfl ex_int (ex_call cn_len (hD.bv rfl (by decide) rfl) (.inl ⟨_, rfl⟩) (Nat.zero_le _) (argsX_cons (ex_name 3 rfl) .nil) rfl))
  (sx_cons (s1_append 3 rfl ex_str (hi := (fun _ h => by unfold interactive; rw [h.1]; rfl)))
  (sx_one (s1_ret (ex_tupK (argsK_cons (ex_nameR 3 rfl) (argsK_cons (ex_nameR 4 rfl) (argsK_cons (ex_nameR 5 rfl) .nil)))))))))))))))
noncomputable def F101 : List PV → Option PV := funF 2 f101
theorem cn101 {D : Dt} (hD : DD D) : Cn D (0 + 1) (.ref 101) F101 :=
  cn_fun (fd := fdAt D.w.params 101) (ps := ["cells", "depths"]) (vars := vars101) (hD.f (by decide)) rfl rfl rfl (of_len2 fun _ _ => rfl) fun h => sx101 (hD.at h)

noncomputable def vars106 : List (Option Str) := [some "row", some "units"]
noncomputable def f106 : Rho → Option Out :=
  (seqF (assignF 1 (exF (compE 2 (listIt (getFz 0)) (compG (nameU 2) yesF (emL (listIt (exF (listF [(sliceSF (getAny 2) none (some (intF 1))), (sliceSF (getAny 2) (some (intF 1)) none)]))) (compG (nameU 3) (andL [(cmpF .NotEq (getAny 3) (strF "")), (cmpF .NotEq (getAny 3) (strF "\"(\""))]) (emF (getFz 3))))))))
  (retF (exF (compE 2 (rangeF [(callF lenV [(getAny 1)])]) (compG (nameU 2) yesF (emF (tupF [(binF .Sub (callF lenV [(callF joinV [(strF ""), (exF (sliceLF (getAny 1) none (some (binF .Add (getAny 2) (intF 1)))))])]) (intF 1)), (subF (getAny 1) (getAny 2))])))))))
theorem sx106 {D : Dt} (hD : DD D) : Sx D 0 (sctOf (fdAt D.w.params 106)) vars106 (bodyAt D.w.params 106) f106 :=
  (sx_cons (s1_assign 1 rfl rfl (ex_n (exn_comp (R := fun _ _ => True) (N := fun _ _ => True) (vars' := [none, none, some "cell", some "unit"]) (it_list (ex_nameC 0 rfl)) rfl (loop_two (tc_name 2 rfl rfl) (it_list (ex_n (exn_list (argsC_cons (ex_sliceS (ex_name 2 rfl) .none (.some ex_int)) (argsC_cons (ex_sliceS (ex_name 2 rfl) (.some ex_int) .none) .nil))))) (loop_last (tc_name 3 rfl rfl) (if_one (tx_and (.cons (tx_cmp (ex_name 3 rfl) ex_str) (.cons (tx_cmp (ex_name 3 rfl) ex_str) .nil)))) (fun _ => em_plain (k := .cl) (ex_nameC 3 rfl) fun _ _ h => ⟨h, trivial⟩))))) (fun _ h => by unfold swapsWith Env.blockKind Env.kindOf; rw [h.1]; rfl))
  (sx_one (s1_ret (ex_compRt (N := fun _ _ => True) (vars' := [none, some "units", some "k"]) (itE_range (argsX_cons (ex_call cn_len (hD.bv rfl (by decide) rfl) (.inl ⟨_, rfl⟩) (Nat.zero_le _) (argsX_cons (ex_name 1 rfl) .nil) rfl) .nil) (hD.bv rfl (by decide) rfl) rfl) rfl (loop_one (tc_name 2 rfl rfl) if_none (fun _ => em_plain (k := .nw) (ex_tup (argsX_cons (ex_bin (ex_call cn_len (hD.bv rfl (by decide) rfl) (.inl ⟨_, rfl⟩) (Nat.zero_le _) (argsX_cons (ex_join ex_str (ex_nr (exn_sliceL (ex_name 1 rfl) .none (.some (ex_bin (ex_name 2 rfl) ex_int))))) .nil) rfl) ex_int) (argsX_cons (ex_sub (ex_name 1 rfl) (ex_name 2 rfl)) .nil))) fun _ _ h => h))))))
noncomputable def F106 : List PV → Option PV := funF 1 f106
theorem cn106 {D : Dt} (hD : DD D) : Cn D (0 + 1) (.ref 106) F106 :=
  cn_fun (fd := fdAt D.w.params 106) (ps := ["row"]) (vars := vars106) (hD.f (by decide)) rfl rfl rfl (of_len1 fun _ => rfl) fun h => sx106 (hD.at h)

noncomputable def vars118 : List (Option Str) := [some "depths", some "i", some "j", some "low"]
noncomputable def f118 : Rho → Option Out :=
  (seqF (assignF 3 (callF minV [(exF (addLF (exF (listF [(scF (subF (getAny 0) (getAny 1)))])) (exF (compE 4 (rangeF [(binF .Add (getAny 1) (intF 1)), (binF .Add (getAny 2) (intF 1))]) (compG (nameU 4) yesF (emF (binF .Sub (subF (getAny 0) (getAny 4)) (intF 1))))))))]))
  (retF (tupF [(binF .Sub (subF (getAny 0) (getAny 1)) (getAny 3)), (binF .Sub (subF (getAny 0) (getAny 2)) (getAny 3))])))
theorem sx118 {D : Dt} (hD : DD D) : Sx D 0 (sctOf (fdAt D.w.params 118)) vars118 (bodyAt D.w.params 118) f118 :=
  (sx_cons (s1_assign 3 rfl rfl (ex_call cn_min (hD.bv rfl (by decide) rfl) (.inl ⟨_, rfl⟩) (Nat.zero_le _) (argsX_cons (ex_nr (exn_add (ex_n (exn_list (argsC_cons (Ex.ofSc (ex_sub (ex_name 0 rfl) (ex_name 1 rfl))) .nil))) (ex_n (exn_comp (R := fun _ _ => True) (N := fun _ _ => True) (vars' := [some "depths", none, none, none, some "k"]) (itE_range (argsX_cons (ex_bin (ex_name 1 rfl) ex_int) (argsX_cons (ex_bin (ex_name 2 rfl) ex_int) .nil)) (hD.bv rfl (by decide) rfl) rfl) rfl (loop_one (tc_name 4 rfl rfl) if_none (fun _ => em_plain (k := .cl) (ex_bin (ex_sub (ex_name 0 rfl) (ex_name 4 rfl)) ex_int) fun _ _ h => ⟨h, trivial⟩)))))) .nil) rfl))
  (sx_one (s1_ret (ex_tup (argsX_cons (ex_bin (ex_sub (ex_name 0 rfl) (ex_name 1 rfl)) (ex_name 3 rfl)) (argsX_cons (ex_bin (ex_sub (ex_name 0 rfl) (ex_name 2 rfl)) (ex_name 3 rfl)) .nil))))))
noncomputable def F118 : List PV → Option PV := funF 3 f118
theorem cn118 {D : Dt} (hD : DD D) : Cn D (0 + 1) (.ref 118) F118 :=
  cn_fun (fd := fdAt D.w.params 118) (ps := ["depths", "i", "j"]) (vars := vars118) (hD.f (by decide)) rfl rfl rfl (of_len3 fun _ _ _ => rfl) fun h => sx118 (hD.at h)

noncomputable def vars123 : List (Option Str) := [some "word", some "size", some "asked"]
noncomputable def f123 : Rho → Option Out :=
  (seqF (assignF 1 (callF lenV [(getAny 0)]))
  (seqF (assignF 2 (exF (listF [(tupF [(binF .Add (strF "-") (sliceSF (getAny 0) none (some (unF .USub (intF 1))))), (intF 4)]), (tupF [(binF .Add (sliceSF (getAny 0) (some (intF 1)) none) (strF "-")), (intF 4)]), (tupF [(binF .Add (binF .Add (binF .Add (binF .Add (sliceSF (getAny 0) none (some (intF 1))) (strF "-")) (sliceSF (getAny 0) (some (intF 1)) (some (intF 2)))) (strF "-")) (sliceSF (getAny 0) (some (intF 2)) none)), (intF 4)])])))
  (seqF (assignF 2 (exF (addLF (getFz 2) (exF (listF [(tupF [(binF .Add (sliceSF (getAny 0) none (some (intF 2))) (sliceSF (getAny 0) (some (intF 1)) none)), (intF 0)]), (tupF [(strF "--"), (binF .Mult (intF 2) (getAny 1))]), (tupF [(strF "--"), (binF .Sub (binF .Mult (intF 2) (getAny 1)) (intF 3))]), (tupF [(strF "-"), (intF 1)]), (tupF [(binF .Mult (strF "-") (intF 41)), (intF 99)])])))))
  (retF (listRt (compE 3 (listIt (getFz 2)) (compG (tupU [3, 4]) yesF (emF (callF F28 [(getAny 0), (getAny 3), (getAny 4)])))))))))
theorem sx123 {D : Dt} (hD : DD D) : Sx D 2 (sctOf (fdAt D.w.params 123)) vars123 (bodyAt D.w.params 123) f123 :=
  (sx_cons (s1_assign 1 rfl rfl (ex_call cn_len (hD.bv rfl (by decide) rfl) (.inl ⟨_, rfl⟩) (Nat.zero_le _) (argsX_cons (ex_name 0 rfl) .nil) rfl))
  (sx_cons (s1_assign 2 rfl rfl (ex_n (exn_list (argsC_cons (ex_tup (argsX_cons (ex_bin ex_str (ex_sliceS (ex_name 0 rfl) .none (.some (ex_un ex_int)))) (argsX_cons ex_int .nil))) (argsC_cons (ex_tup (argsX_cons (ex_bin (ex_sliceS (ex_name 0 rfl) (.some ex_int) .none) ex_str) (argsX_cons ex_int .nil))) (argsC_cons (ex_tup (argsX_cons (ex_bin (ex_bin (ex_bin (ex_bin (ex_sliceS (ex_name 0 rfl) .none (.some ex_int)) ex_str) (ex_sliceS (ex_name 0 rfl) (.some ex_int) (.some ex_int))) ex_str) (ex_sliceS (ex_name 0 rfl) (.some ex_int) .none)) (argsX_cons ex_int .nil))) .nil))))))
  (sx_cons (s1_assign 2 rfl rfl (ex_n (exn_add (ex_nameC 2 rfl) (ex_n (exn_list (argsC_cons (ex_tup (argsX_cons (ex_bin (ex_sliceS (ex_name 0 rfl) .none (.some ex_int)) (ex_sliceS (ex_name 0 rfl) (.some ex_int) .none)) (argsX_cons ex_int .nil))) (argsC_cons (ex_tup (argsX_cons ex_str (argsX_cons (ex_bin ex_int (ex_name 1 rfl)) .nil))) (argsC_cons (ex_tup (argsX_cons ex_str (argsX_cons (ex_bin (ex_bin ex_int (ex_name 1 rfl)) ex_int) .nil))) (argsC_cons (ex_tup (argsX_cons ex_str (argsX_cons ex_int .nil))) (argsC_cons (ex_tup (argsX_cons (ex_bin ex_str ex_int) (argsX_cons ex_int .nil))) .nil))))))))))
  (sx_one (s1_ret ((exn_comp (R := fun _ _ => True) (N := fun _ _ => True) (vars' := [some "word", none, none, some "other", some "bound"]) (it_list (ex_nameC 2 rfl)) rfl (loop_one (tc_tup (.cons rfl rfl (.cons rfl rfl .nil))) if_none (fun _ => em_plain (k := .cl) (ex_call (cn28 hD) (hD.gv rfl) (.inr (.inr ⟨_, _, rfl, hD.f (by decide)⟩)) (by decide) (argsX_cons (ex_name 0 rfl) (argsX_cons (ex_name 3 rfl) (argsX_cons (ex_name 4 rfl) .nil))) rfl) fun _ _ h => ⟨h, trivial⟩)))).toRt)))))
noncomputable def F123 : List PV → Option PV := funF 1 f123
theorem cn123 {D : Dt} (hD : DD D) : Cn D (2 + 1) (.ref 123) F123 :=
  cn_fun (fd := fdAt D.w.params 123) (ps := ["word"]) (vars := vars123) (hD.f (by decide)) rfl rfl rfl (of_len1 fun _ => rfl) fun h => sx123 (hD.at h)

end Mine
end
section
set_option maxRecDepth 20000
namespace Mine

noncomputable def vars77 : List (Option Str) := [some "addr", some "pos", some "escape", some "ch"]
theorem it_gen {D : Dt} {n : Nat} {c : Sct} {vars : List (Option Str)} (hD : DD D) {id : Str} {p pos : Pos} {e : Expr} {f : Rho → Option PV} (h : Ex D n c vars .raw e f) (hv : Gv D id (.ref 77)) (hk : c.sc.names.lookup id = some .globalImplicit) (hn : 6 ≤ n)
    (hs : ∀ env, starEach [e] env = (false, eval e env) :: starEach [] env := by intro _; rfl) (hd : (id == ("__debug__" : Str)) = false := by rfl) : ItE D n c vars (.Call (.Name id p) [e] [] pos) (genIt f) := by
  refine it_gen0 (fd := fdAt D.w.params 77) (av := 77) (varsG := vars77) (xa := "addr") (xp := "pos") (xe := "escape") (hbody := rfl) h hv hk hn (hD.f (by exact List.mem_of_elem_eq_true rfl)) ?_ rfl rfl (fun v => rfl) hs hd
  exact {
    va := rfl, vp := rfl, ve := rfl, kp := rfl, ke := rfl, ken := rfl, gen := hD.bv rfl (by decide) rfl, c1 := cx_int, c2 := cx_bool,
    s1 := fun _ _ _ _ => rfl, s2 := fun _ _ _ _ => rfl,
    hT := tg_tup (.cons rfl rfl (.cons rfl rfl .nil)),
    hEsc := tx_plain (ex_name 2 rfl), hEsc2 := tx_plain (ex_name 2 rfl), hCmp := tx_cmp (ex_name 3 rfl) ex_str,
    hY1 := tup_new (argsX_cons (ex_name 1 rfl) (argsX_cons (ex_bin ex_str (ex_name 3 rfl)) .nil)),
    hY2 := tup_new (argsX_cons (ex_name 1 rfl) (argsX_cons (ex_name 3 rfl) .nil)),
    hY3 := tup_new (argsX_cons (ex_name 1 rfl) (argsX_cons ex_str .nil)),
    h5 := s1_assign 2 rfl rfl ex_bool, h6 := s1_assign 2 rfl rfl ex_bool }
noncomputable def vars84 : List (Option Str) := [some "addr", some "start", some "open_pos", some "result", some "pos", some "ch"]
noncomputable def f84 : Rho → Option Out :=
  (seqF (ifF (cmpF .NotIn (strF "\"") (getAny 0)) (retF (getRt 0)) passF)
  (seqF (assignF 1 (intF 0))
  (seqF (assignF 2 noneF)
  (seqF (assignN 3 (listF []))
  (seqF (forE (genIt (getAny 0)) (tupU [4, 5]) (ifF (cmpF .Eq (getAny 5) (strF "\"")) (ifF (cmpF .Is (getAny 2) noneF) (assignF 2 (getFz 4)) (seqF (ifF (cmpF .NotEq (getAny 1) (getAny 2)) (appendF 3 (sliceSF (getAny 0) (some (getAny 1)) (some (getAny 2)))) passF)
  (seqF (assignF 1 (binF .Add (getAny 4) (intF 1)))
  (assignF 2 noneF)))) passF))
  (seqF (ifF (cmpF .Lt (getAny 1) (callF lenV [(getAny 0)])) (appendF 3 (sliceSF (getAny 0) (some (getAny 1)) none)) passF)
  (retF (callF joinV [(strF ""), (getAny 3)]))))))))
theorem sx84 {D : Dt} (hD : DD D) : Sx D 6 (sctOf (fdAt D.w.params 84)) vars84 (bodyAt D.w.params 84) f84 :=
  (sx_cons (s1_if (tx_cmp ex_str (ex_name 0 rfl)) (sx_one (s1_ret (ex_nameR 0 rfl))) sx_nil)
  (sx_cons (s1_assign 1 rfl rfl ex_int)
  (sx_cons (s1_assign 2 rfl rfl ex_none)
  (sx_cons (s1_assignN 3 rfl rfl (exn_list .nil))
  (sx_cons (s1_for (it_gen hD (ex_name 0 rfl) (hD.gv rfl) rfl (by decide)) (tg_tup (.cons rfl rfl (.cons rfl rfl .nil))) (sx_one (s1_if (tx_cmp (ex_name 5 rfl) ex_str) (sx_one (s1_if (tx_cmp (ex_name 2 rfl) ex_none) (sx_one (s1_assign 2 rfl rfl (ex_nameC 4 rfl))) (sx_cons (s1_if (tx_cmp (ex_name 1 rfl) (ex_name 2 rfl)) (sx_one (s1_append 3 rfl (ex_sliceS (ex_name 0 rfl) (.some (ex_name 1 rfl)) (.some (ex_name 2 rfl))) (hi := (fun _ h => by unfold interactive; rw [h.1]; rfl)))) sx_nil)
  (sx_cons (s1_assign 1 rfl rfl (ex_bin (ex_name 4 rfl) ex_int))
  (sx_one (s1_assign 2 rfl rfl ex_none)))))) sx_nil)))
  (sx_cons (s1_if (tx_cmp (ex_name 1 rfl) (ex_call cn_len (hD.bv rfl (by decide) rfl) (.inl ⟨_, rfl⟩) (Nat.zero_le _) (argsX_cons (ex_name 0 rfl) .nil) rfl)) (sx_one (s1_append 3 rfl (ex_sliceS (ex_name 0 rfl) (.some (ex_name 1 rfl)) .none) (hi := (fun _ h => by unfold interactive; rw [h.1]; rfl)))) sx_nil)
  (sx_one (s1_ret (ex_join ex_str (ex_name 3 rfl))))))))))
noncomputable def F84 : List PV → Option PV := funF 1 f84
theorem cn84 {D : Dt} (hD : DD D) : Cn D (6 + 1) (.ref 84) F84 :=
  cn_fun (fd := fdAt D.w.params 84) (ps := ["addr"]) (vars := vars84) (hD.f (by decide)) rfl rfl rfl (of_len1 fun _ => rfl) fun h => sx84 (hD.at h)

noncomputable def vars91 : List (Option Str) := [some "addr", some "opens", some "pos", some "ch"]
noncomputable def f91 : Rho → Option Out :=
  (seqF (assignF 0 (callF F84 [(getAny 0)]))
  (seqF (assignF 1 (intF 0))
  (seqF (forE (genIt (getAny 0)) (tupU [2, 3]) (ifF (cmpF .Eq (getAny 3) (strF "(")) (augF 1 .Add (intF 1)) (ifF (cmpF .Eq (getAny 3) (strF ")")) (seqF (augF 1 .Sub (intF 1))
  (ifF (cmpF .Lt (getAny 1) (intF 0)) (retF (boolF false)) passF)) passF)))
  (retF (cmpB .Eq (getAny 1) (intF 0))))))
theorem sx91 {D : Dt} (hD : DD D) : Sx D 7 (sctOf (fdAt D.w.params 91)) vars91 (bodyAt D.w.params 91) f91 :=
  (sx_cons (s1_assign 0 rfl rfl (ex_call (cn84 hD) (hD.gv rfl) (.inr (.inr ⟨_, _, rfl, hD.f (by decide)⟩)) (by decide) (argsX_cons (ex_name 0 rfl) .nil) rfl))
  (sx_cons (s1_assign 1 rfl rfl ex_int)
  (sx_cons (s1_for (it_gen hD (ex_name 0 rfl) (hD.gv rfl) rfl (by decide)) (tg_tup (.cons rfl rfl (.cons rfl rfl .nil))) (sx_one (s1_if (tx_cmp (ex_name 3 rfl) ex_str) (sx_one (s1_aug 1 rfl rfl ex_int)) (sx_one (s1_if (tx_cmp (ex_name 3 rfl) ex_str) (sx_cons (s1_aug 1 rfl rfl ex_int)
  (sx_one (s1_if (tx_cmp (ex_name 1 rfl) ex_int) (sx_one (s1_ret ex_bool)) sx_nil))) sx_nil)))))
  (sx_one (s1_ret (ex_cmp (ex_name 1 rfl) ex_int))))))
noncomputable def F91 : List PV → Option PV := funF 1 f91
theorem cn91 {D : Dt} (hD : DD D) : Cn D (7 + 1) (.ref 91) F91 :=
  cn_fun (fd := fdAt D.w.params 91) (ps := ["addr"]) (vars := vars91) (hD.f (by decide)) rfl rfl rfl (of_len1 fun _ => rfl) fun h => sx91 (hD.at h)

noncomputable def vars113 : List (Option Str) := [some "row", some "place", some "end", some "told"]
noncomputable def f113 : Rho → Option Out :=
  (seqF (forE (rangeF [(binF .Add (getAny 1) (intF 1)), (callF lenV [(getAny 0)]), (intF 2)]) (nameU 2) (seqF (assignF 3 (callF F91 [(callF joinV [(strF ""), (exF (sliceLF (getAny 0) (some (getAny 1)) (some (binF .Add (getAny 2) (intF 1)))))])]))
  (ifF (cmpF .IsNot (getAny 3) (boolF false)) (retF (iteF (cmpF .Is (getAny 3) (boolF true)) (getRt 2) (unF .USub (intF 1)))) passF)))
  (retF (unF .USub (intF 1))))
theorem sx113 {D : Dt} (hD : DD D) : Sx D 8 (sctOf (fdAt D.w.params 113)) vars113 (bodyAt D.w.params 113) f113 :=
  (sx_cons (s1_for (itE_range (argsX_cons (ex_bin (ex_name 1 rfl) ex_int) (argsX_cons (ex_call cn_len (hD.bv rfl (by decide) rfl) (.inl ⟨_, rfl⟩) (Nat.zero_le _) (argsX_cons (ex_name 0 rfl) .nil) rfl) (argsX_cons ex_int .nil))) (hD.bv rfl (by decide) rfl) rfl) (tg_name 2 rfl rfl) (sx_cons (s1_assign 3 rfl rfl (ex_call (cn91 hD) (hD.gv rfl) (.inr (.inr ⟨_, _, rfl, hD.f (by decide)⟩)) (by decide) (argsX_cons (ex_join ex_str (ex_nr (exn_sliceL (ex_name 0 rfl) (.some (ex_name 1 rfl)) (.some (ex_bin (ex_name 2 rfl) ex_int))))) .nil) rfl))
  (sx_one (s1_if (tx_cmp (ex_name 3 rfl) ex_bool) (sx_one (s1_ret (ex_ite (tx_cmp (ex_name 3 rfl) ex_bool) (ex_nameR 2 rfl) (ex_un ex_int)))) sx_nil))))
  (sx_one (s1_ret (ex_un ex_int))))
noncomputable def F113 : List PV → Option PV := funF 2 f113
theorem cn113 {D : Dt} (hD : DD D) : Cn D (8 + 1) (.ref 113) F113 :=
  cn_fun (fd := fdAt D.w.params 113) (ps := ["row", "place"]) (vars := vars113) (hD.f (by decide)) rfl rfl rfl (of_len2 fun _ _ => rfl) fun h => sx113 (hD.at h)

end Mine
end
section
set_option maxRecDepth 20000
namespace Mine

noncomputable def withFn (D : Dt) (f : Addr) (fd : FuncData) : Dt := { D with fn := fun b => if b = f then some fd else D.fn b }
theorem dt_with {D : Dt} {f : Addr} {fd : FuncData} {h : Heap} (x : DtOk (D.at h)) (hf : ∃ o, h.get? f = some o ∧ o.data = .func fd ∧ h.CodeRec fd.code fd.qualname) : DtOk ((withFn D f fd).at h) :=
  ⟨x.g, x.b, x.bi, x.lim, x.tab, x.bm, fun a fd2 e => by
    show ∃ o, h.get? a = some o ∧ o.data = .func fd2 ∧ h.CodeRec fd2.code fd2.qualname
    have e' : (if a = f then some fd else D.fn a) = some fd2 := e
    split at e'
    · rename_i q; cases e'; rw [q]; exact hf
    · exact x.fns a fd2 e'⟩

/-- the nested function of a module's function -/
noncomputable abbrev inFd (P : Params) (a : Addr) (b : List Stmt) (qual : Str) (clos : List (Str × Addr)) (doc pm cv ctv : Value) : FuncData :=
  fnX "inner" qual (defParams b) (defBody b) (defScope b) clos .none .none doc pm none cv ctv

section
variable {D : Dt}
noncomputable def vars56i : List (Option Str) := [some "L", some "R", some "mid", some "shift", some "digits", some "n"]
noncomputable def f56i (G : List PV → Option PV) : Rho → Option Out :=
  seqF (ifF (cmpF .Eq (binF .Add (getAny 0) (intF 1)) (getAny 1)) (retF (scF (subF (getAny 4) (getAny 0)))) passF) <|
  seqF (assignF 2 (binF .RShift (binF .Add (getAny 0) (getAny 1)) (intF 1))) <|
  seqF (assignF 3 (binF .Mult (binF .Sub (getAny 2) (getAny 0)) (getAny 5))) <|
  retF (binF .Add (binF .LShift (callF G [getAny 2, getAny 1]) (getAny 3)) (callF G [getAny 0, getAny 2]))
noncomputable def ex56 (ds : List PV) (n : Int) : Nat → Option PV := fun i => if i = 4 then some (.list ds) else if i = 5 then some (.int n) else none
noncomputable def F56i (ds : List PV) (n : Int) : Nat → List PV → Option PV
  | 0 => fun _ => none
  | k + 1 => funX 2 (ex56 ds n) (f56i (F56i ds n k))

theorem sx56i {P : Params} {k : Nat} {f ci : Addr} {qual : Str} {clos : List (Str × Addr)} {doc pm cv ctv : Value} {I : Heap → Prop} {G : List PV → Option PV} {fd : FuncData} (hC : CnI D k f I G) (hci : clos.lookup ("inner" : Str) = some ci) (hI : I D.h1) (hF : Firm D.T I) (hc1 : D.h1.IsCell ci (some (.ref f))) (hfn : D.fn f = some fd) :
    Sx D k (sctIn (inFd P 56 (bodyAt P 56) qual clos doc pm cv ctv)) vars56i (defBody (bodyAt P 56)) (f56i G) :=
  sx_cons (s1_if (tx_cmp (ex_bin (ex_name 0 rfl) ex_int) (ex_name 1 rfl)) (sx_one (s1_ret (Ex.ofSc (ex_sub (ex_name 4 rfl) (ex_name 0 rfl))))) sx_nil) <|
  sx_cons (s1_assign 2 rfl rfl (ex_bin (ex_bin (ex_name 0 rfl) (ex_name 1 rfl)) ex_int)) <|
  sx_cons (s1_assign 3 rfl rfl (ex_bin (ex_bin (ex_name 2 rfl) (ex_name 0 rfl)) (ex_name 5 rfl))) <|
  sx_one (s1_ret (ex_bin (ex_bin (ex_callI hC rfl hci rfl hI hF hc1 hfn (Nat.le_refl _) (argsX_cons (ex_name 2 rfl) (argsX_cons (ex_name 1 rfl) .nil))) (ex_name 3 rfl)) (ex_callI hC rfl hci rfl hI hF hc1 hfn (Nat.le_refl _) (argsX_cons (ex_name 0 rfl) (argsX_cons (ex_name 2 rfl) .nil)))))

theorem closureFor_eqGo {env : Env} {g : Str → Addr} : ∀ (names : List (Str × NameKind)) (acc : List (Str × Addr)), (∀ x ∈ names, x.2 = .free → env.cells.lookup x.1 = some (g x.1)) →
    (forIn names acc fun x __s => match x with
        | (name, kind) => if (kind == NameKind.free) = true then do
            let __do_lift ← cellOf env name
            pure (ForInStep.yield ((name, __do_lift) :: __s))
          else pure (ForInStep.yield __s) : Sem (List (Str × Addr))) = pure (((names.filter fun x => x.2 == .free).map fun x => (x.1, g x.1)).reverse ++ acc)
  | [], acc, _ => rfl
  | (name, kind) :: r, acc, h => by
    have hr : ∀ x ∈ r, x.2 = .free → env.cells.lookup x.1 = some (g x.1) := fun x hx => h x (.tail _ hx)
    rw [List.forIn_cons]
    by_cases hk : kind = .free
    · subst hk
      simp only [beq_self_eq_true, if_true]
      have e := closureFor_eqGo r ((name, g name) :: acc) hr
      unfold cellOf
      rw [h (name, .free) (.head _) rfl]
      refine Eq.trans e ?_
      simp
    · have hb : (kind == NameKind.free) = false := by simpa using hk
      have e := closureFor_eqGo r acc hr
      simp only [hb, Bool.false_eq_true, if_false]
      refine Eq.trans e ?_
      simp [hb]
theorem closureFor_eq {scope : Scope} {env : Env} (g : Str → Addr) (h : ∀ x ∈ scope.names, x.2 = .free → env.cells.lookup x.1 = some (g x.1)) :
    closureFor scope env = pure ((scope.names.filter fun x => x.2 == .free).map fun x => (x.1, g x.1)).reverse := by
  unfold closureFor
  have e := closureFor_eqGo scope.names [] h
  rw [List.append_nil] at e
  exact congrArg (· >>= pure) e

noncomputable def clos56 (cd cn ci : Addr) : List (Str × Addr) := [("n", cn), ("inner", ci), ("digits", cd)]
/-- what the cells of inner hold -/
noncomputable def I56 (ds : List PV) (n : Int) (cd cn ci f : Addr) (vd vn : Value) (h : Heap) : Prop :=
  h.IsCell cd (some vd) ∧ Den All h (.list ds) vd ∧ h.IsCell cn (some vn) ∧ Den All h (.int n) vn ∧ h.IsCell ci (some (.ref f))
theorem firm_cell {T : List Tb} {h h' : Heap} {c : Addr} {v : Option Value} (t : TabOk T h) (x : h.IsCell c v) (k : ∀ b o, ¬ TA T b → h.get? b = some o → h'.get? b = some o) : h'.IsCell c v := by
  obtain ⟨o, e, d⟩ := x
  exact ⟨o, k _ _ (t.ne e (by rintro ps rfl; cases d)) e, d⟩
theorem firm_den {T : List Tb} {h h' : Heap} {x : PV} {v : Value} (t : TabOk T h) (d : Den All h x v) (k : ∀ b o, ¬ TA T b → h.get? b = some o → h'.get? b = some o) : Den All h' x v :=
  d.imp fun b o _ l e => ⟨k b o (t.ltne e l) e, trivial⟩
theorem firm56 {T : List Tb} {ds : List PV} {n : Int} {cd cn ci f : Addr} {vd vn : Value} : Firm T (I56 ds n cd cn ci f vd vn) := fun h h' t x k =>
  ⟨firm_cell t x.1 k, firm_den t x.2.1 k, firm_cell t x.2.2.1 k, firm_den t x.2.2.2.1 k, firm_cell t x.2.2.2.2 k⟩

theorem cni56 {P : Params} {f cd cn ci : Addr} {qual : Str} {doc pm cv ctv vd vn : Value} {ds : List PV} {n : Int} (hfn : D.fn f = some (inFd P 56 (bodyAt P 56) qual (clos56 cd cn ci) doc pm cv ctv)) (h1 : cd ≠ cn) (h2 : cd ≠ ci) (h3 : cn ≠ ci) :
    ∀ k, CnI D k f (I56 ds n cd cn ci f vd vn) (F56i ds n k)
  | 0 => fun A s xs vs x _ _ _ _ hF => by cases hF
  | k + 1 => by
    refine cni_fun (ps := ["L", "R"]) (vars := vars56i) (ex := ex56 ds n) hfn rfl rfl (of_len2 fun _ _ => rfl) (fun h hI i x y hi hy hx => ?_) (fun h hI x c hx => ?_) (fun x y c hx hy => ?_) (fun h hI => ?_)
    · unfold ex56 at hy
      split at hy
      · rename_i q; subst q; cases hy; cases hx
        exact ⟨rfl, cd, vd, rfl, hI.1, hI.2.1⟩
      · split at hy
        · rename_i q; subst q; cases hy; cases hx
          exact ⟨rfl, cn, vn, rfl, hI.2.2.1, hI.2.2.2.1⟩
        · cases hy
    · have hx' : (clos56 cd cn ci).lookup x = some c := hx
      have : c = cn ∨ c = ci ∨ c = cd := by
        have m := mem_of_lookup hx'
        simp [clos56] at m
        rcases m with ⟨_, m⟩ | ⟨_, m⟩ | ⟨_, m⟩ <;> simp [m]
      rcases this with rfl | rfl | rfl
      · obtain ⟨o, e, _⟩ := hI.2.2.1; exact ⟨o, e⟩
      · obtain ⟨o, e, _⟩ := hI.2.2.2.2; exact ⟨o, e⟩
      · obtain ⟨o, e, _⟩ := hI.1; exact ⟨o, e⟩
    · have m1 := mem_of_lookup (show (clos56 cd cn ci).lookup x = some c from hx)
      have m2 := mem_of_lookup (show (clos56 cd cn ci).lookup y = some c from hy)
      simp [clos56] at m1 m2
      rcases m1 with ⟨a1, b1⟩ | ⟨a1, b1⟩ | ⟨a1, b1⟩ <;> rcases m2 with ⟨a2, b2⟩ | ⟨a2, b2⟩ | ⟨a2, b2⟩ <;> first | (rw [a1, a2]; done) | (exfalso; first | exact h1 (b1.symm.trans b2) | exact h1 (b2.symm.trans b1) | exact h2 (b1.symm.trans b2) | exact h2 (b2.symm.trans b1) | exact h3 (b1.symm.trans b2) | exact h3 (b2.symm.trans b1))
    · exact sx56i (D := D.at h) (cni56 hfn h1 h2 h3 k) rfl hI firm56 hI.2.2.2.2 hfn

theorem call_cell {c : Sct} {vars : List (Option Str)} {n : Nat} {env : Env} {A : Around} {own : Own} {ρ : Rho} {s : Shared} {id : Str} {p pos : Pos} {es : List Expr} {fs : List (Rho → Option PV)} {xs : List PV} {f ci : Addr} {fo : Obj} {fd : FuncData} {Q : Value → Shared → Prop}
    (S : StE D env vars own ρ s) (hc : InC c env) (hA : OkA n A) (hk : env.kindOf id = some .cell) (hci : env.cells.lookup id = some ci) (hcell : s.heap.IsCell ci (some (.ref f))) (hf : s.heap.get? f = some fo) (hfd : fo.data = .func fd)
    (ha : ArgsX D n c vars es fs) (hx : argsF fs ρ = some xs) (hq : ∀ vs s1, Grow D.T s s1 → DenL All s1.heap xs vs → wpAny D.M A (call (.ref f) vs []) Q (fun _ _ => False) s1) (hd : (id == ("__debug__" : Str)) = false := by rfl) :
    wpAny D.M A (eval (.Call (.Name id p) es [] pos) env) Q (fun _ _ => False) s := by
  refine wpAny_Call_NameR (wpAny_Name (wpAny_loadName_cell S.eo.kind hk hci hcell ?_) hd)
  refine Calls.callWith_function (o := fo) (fd := fd) ?_
  refine wpAny_mono (evalArgs_ok ha hc hA S hx) (fun x s1 hd => ?_) fun _ _ y => y
  exact ⟨⟨hd.2.1.kp f fo (S.tab.ne hf (by rintro ps rfl; cases hfd)) (fun q => q) hf, hfd⟩, by rw [hd.1]; exact hq _ _ hd.2.1 hd.2.2⟩
end
end Mine
end
section
set_option maxRecDepth 20000
namespace Mine

noncomputable def vars56 : List (Option Str) := [some "digits", some "n"]
noncomputable def f56 : Rho → Option Out := fun ρ => match ρ 0, ρ 1 with
  | some (.fz (.list ds)), some (.fz (.int n)) => retF (iteF (tstF (getAny 0)) (callF (F56i ds n 50) [intF 0, callF lenV [getAny 0]]) (intF 0)) ρ
  | _, _ => none
theorem sx56 {D : Dt} (hD : DD D) : Sx D 58 (sctOf (fdAt D.w.params 56)) vars56 (bodyAt D.w.params 56) f56 := fun env A own ρ s o hc hA S hf => by
  unfold f56 at hf
  split at hf
  · rename_i ds n e0 e1
    have kd : env.kindOf "digits" = some .cell := by unfold Env.kindOf; rw [hc.1]; rfl
    have kn : env.kindOf "n" = some .cell := by unfold Env.kindOf; rw [hc.1]; rfl
    have ki : env.kindOf "inner" = some .cell := by unfold Env.kindOf; rw [hc.1]; rfl
    obtain ⟨m, hm, hv⟩ := S.vars
    obtain ⟨vd, va, da⟩ := hv 0 "digits" _ rfl e0
    obtain ⟨vn, vb, db⟩ := hv 1 "n" _ rfl e1
    unfold VarAt at va vb
    rw [kd] at va; rw [kn] at vb
    obtain ⟨cd, cd1, cd2⟩ := va
    obtain ⟨cn, cn1, cn2⟩ := vb
    obtain ⟨ci, vi, ci1, ci2⟩ := S.ce "inner" ki
    have ndn : cd ≠ cn := fun q => absurd (S.cd "digits" "n" cd cd1 (q ▸ cn1)) (by decide)
    have ndi : cd ≠ ci := fun q => absurd (S.cd "digits" "inner" cd cd1 (q ▸ ci1)) (by decide)
    have nni : cn ≠ ci := fun q => absurd (S.cd "n" "inner" cn cn1 (q ▸ ci1)) (by decide)
    have hclos : closureFor (defScope (bodyAt D.w.params 56)) env = pure (clos56 cd cn ci) := by
      refine (closureFor_eq (fun x => if x = "n" then cn else if x = "inner" then ci else cd) ?_).trans rfl
      intro x hx hfree
      have hx' : x ∈ [(("L" : Str), NameKind.local), ("R", .local), ("mid", .local), ("shift", .local), ("digits", .free), ("inner", .free), ("n", .free)] := hx
      simp only [List.mem_cons, List.not_mem_nil, or_false] at hx'
      rcases hx' with rfl | rfl | rfl | rfl | rfl | rfl | rfl
      · cases hfree
      · cases hfree
      · cases hfree
      · cases hfree
      · exact cd1
      · exact ci1
      · exact cn1
    obtain ⟨z, hz, rfl⟩ := Option.map_eq_some_iff.mp hf
    refine wpAny_execs_cons (wpAny_mono (def_ok (tb := ⟨51, 55, (defPos (bodyAt D.w.params 56)).line, (defPos (bodyAt D.w.params 56)).col, "_digits2int.<locals>.inner"⟩) S (by rw [hc.2.1]; rfl) (by rw [hD.tb]; exact .tail _ (.head _)) (fun t ht hp => by
      rw [hD.tb] at ht
      rcases List.mem_cons.mp ht with rfl | ht
      · exact absurd (show (44 : Nat) = 51 from hp) (by decide)
      · exact List.mem_singleton.mp ht) rfl rfl ?_ ki ci1 ?_ hclos rfl rfl rfl) (fun fl s1 q => ?_) fun _ _ q => q)
    · unfold qualnameIn; rw [ki, hc.2.2.1]; rfl
    · intro i hi
      match i, hi with
      | 0, hi => exact absurd hi (by decide)
      | 1, hi => exact absurd hi (by decide)
      | i + 2, hi => cases hi
    obtain ⟨rfl, S1, g1, f, cv, ctv, doc, pm, fo, hcell, hf0, hfo, hfd, hrec⟩ := q
    obtain ⟨m', hm', hv'⟩ := S1.vars
    obtain ⟨vd', va', da'⟩ := hv' 0 "digits" _ rfl e0
    obtain ⟨vn', vb', db'⟩ := hv' 1 "n" _ rfl e1
    unfold VarAt at va' vb'
    rw [kd] at va'; rw [kn] at vb'
    obtain ⟨cd', cd1', cd2'⟩ := va'
    obtain ⟨cn', cn1', cn2'⟩ := vb'
    rw [cd1] at cd1'; cases cd1'
    rw [cn1] at cn1'; cases cn1'
    have hI : I56 ds n cd cn ci f vd' vn' s1.heap := ⟨cd2', Den.raw (P := Clean own) da', cn2', Den.raw (P := Clean own) db', hcell⟩
    obtain ⟨b, hb, hz⟩ := Option.bind_eq_some_iff.mp hz
    refine wpAny_execs_cons (wpAny_Return_some (wpAny_mono (Q := fun v s' => Grow D.T s1 s' ∧ Den (fun a => D.h1.get? a = none) s'.heap z v) ?_ (fun v s2 h2 => ?_) fun _ _ q => q))
    · skip
      refine wpAny_IfExp (wpAny_mono ((tx_plain (ex_name (n := 58) (c := sctOf (fdAt D.w.params 56)) (vars := vars56) 0 rfl)) env A own ρ s1 b hc hA S1 hb) (fun v s2 ⟨g2, e2⟩ => ?_) fun _ _ q => q)
      subst e2
      have S2 := S1.grow g2
      cases v with
      | false =>
        simp only [Bool.false_eq_true, if_false] at hz ⊢
        exact wpAny_mono (ex_int (k := .rt) env A own ρ s2 z hc hA S2 hz) (fun r s3 ⟨g3, e3⟩ => ⟨g2.then g3, e3⟩) fun _ _ q => q
      | true =>
        simp only [if_true] at hz ⊢
        obtain ⟨xs, hx, hF⟩ := Option.bind_eq_some_iff.mp hz
        have tb1 := S1.tab
        refine call_cell (fd := inFd D.w.params 56 (bodyAt D.w.params 56) (qualnameIn env "inner" "inner") (clos56 cd cn ci) doc pm cv ctv) S2 hc hA ki ci1 (firm_cell tb1 hcell fun b o n e => g2.kp b o n (fun q => q) e) (g2.kp f fo (tb1.ne hfo (by rintro ps rfl; cases hfd)) (fun q => q) hfo) hfd (argsX_cons ex_int (argsX_cons (ex_call cn_len (hD.bv rfl (by decide) rfl) (.inl ⟨_, rfl⟩) (Nat.zero_le _) (argsX_cons (ex_name 0 rfl) .nil) rfl) .nil)) hx fun vs s3 g3 d3 => ?_
        have S3 := S2.grow g3
        have g13 := g2.then g3
        have k13 : ∀ b o, ¬ TA D.T b → s1.heap.get? b = some o → s3.heap.get? b = some o := fun b o n e => g13.kp b o n (fun q => q) e
        have hfo3 := k13 f fo (tb1.ne hfo (by rintro ps rfl; cases hfd)) hfo
        have dt3 : DtOk ((withFn D f (inFd D.w.params 56 (bodyAt D.w.params 56) (qualnameIn env "inner" "inner") (clos56 cd cn ci) doc pm cv ctv)).at s3.heap) := dt_with S3.dt ⟨fo, hfo3, hfd, tb1.recKeep hrec k13⟩
        refine wpAny_mono (cni56 (D := withFn D f (inFd D.w.params 56 (bodyAt D.w.params 56) (qualnameIn env "inner" "inner") (clos56 cd cn ci) doc pm cv ctv)) (P := D.w.params) (ds := ds) (n := n) (vd := vd') (vn := vn') (if_pos rfl) ndn ndi nni 50 A s3 xs vs z (hA.mono (by decide)) dt3 (firm56 _ _ tb1 hI k13) d3 hF) (fun r s4 h4 => ?_) fun _ _ q => q
        exact ⟨g13.then h4.1, h4.2.to fun a o p _ _ => S3.new0 p⟩
    · have g2 : Gr D.T (Mut env own) s s2 := g1.trans h2.1 S.tab (fun _ h => h) fun _ _ _ h => h.elim
      exact ⟨g2, h2.2⟩
  · cases hf
noncomputable def F56 : List PV → Option PV := funF 2 f56
theorem cn56 {D : Dt} (hD : DD D) : Cn D (58 + 1) (.ref 56) F56 :=
  cn_fun (fd := fdAt D.w.params 56) (ps := ["digits", "n"]) (vars := vars56) (hD.f (by decide)) rfl rfl rfl (of_len2 fun _ _ => rfl) fun h => sx56 (hD.at h)
end Mine
end
section
set_option maxRecDepth 20000
namespace Mine
section
variable {D : Dt} {env : Env} {vars : List (Option Str)} {own : Own} {ρ : Rho} {s s' : Shared}
/-- an owned list is changed by somebody else, who may also have made new things -/
theorem StE.mutG {i : Nat} {x : Str} {a : Addr} {sl sl' : Slot} (S : StE D env vars own ρ s) (hx : vars[i]? = some (some x)) (hr : ρ i = some sl) (ha : a ∈ own i) (g : Gr D.T (fun b => b = a) s s')
    (hl : ∃ o, s'.heap.get? a = some o ∧ LT o) (hv : ∀ v, SlotOk own s.heap (own i) sl v → SlotOk own s'.heap (own i) sl' v) : StE D env vars own (upd ρ i sl') s' := by
  obtain ⟨oa, ea, la⟩ := S.oe i a ha
  obtain ⟨o', ea', la'⟩ := hl
  have kb : ∀ b o, ¬ TA D.T b → b ≠ a → s.heap.get? b = some o → s'.heap.get? b = some o := fun b o n hb e => g.kp b o n hb e
  have kc : ∀ {cc : Addr} {v : Option Value}, s.heap.IsCell cc v → s'.heap.IsCell cc v := fun ⟨o, e, d⟩ => ⟨o, kb _ o (S.tab.ne e (by rintro ps rfl; cases d)) (by rintro rfl; rw [ea] at e; cases e; exact la.notCell d) e, d⟩
  obtain ⟨m, n, k⟩ := S.vars
  have n' : s'.heap.Ns env.locals m := by
    obtain ⟨o, es, ep, e, hd, r⟩ := n
    exact ⟨o, es, ep, kb _ _ (S.tab.ne e (by rintro ps rfl; cases hd)) (by rintro rfl; rw [ea] at e; cases e; exact la.notDict hd) e, hd, r⟩
  exact {
    ok := S.ok, base := fun b o n e => kb b o n (by rintro rfl; rw [S.mn _ (.inr (.inr ⟨i, ha⟩))] at e; cases e) (S.base b o n e), tab := g.tab, eo := S.eo, gn := S.gn, vd := S.vd, mn := S.mn,
    oe := fun j b m => by
      by_cases q : b = a
      · exact ⟨o', q ▸ ea', la'⟩
      · obtain ⟨o, e, l⟩ := S.oe j b m; exact ⟨o, kb b o (S.tab.ltne e l) q e, l⟩,
    od := S.od, on := S.on, ob := S.ob,
    ce := fun y hy => by obtain ⟨c, v, e1, f⟩ := S.ce y hy; exact ⟨c, v, e1, kc f⟩,
    ca := fun y c hy => (S.ca y c hy).elim fun o e => g.exAll S.tab e, cd := S.cd,
    vars := ⟨m, n', fun j y sj hj hrj => by
      have vk : ∀ w, VarAt env m s.heap y w → VarAt env m s'.heap y w := fun w q => q.imp (fun _ => rfl) fun c _ _ f => kc f
      by_cases q : j = i
      · subst q
        rw [upd_self] at hrj; cases hrj
        obtain ⟨w, w1, w2⟩ := k j y sl hj hr
        exact ⟨w, vk w w1, hv w w2⟩
      · rw [upd_ne q] at hrj
        obtain ⟨w, w1, w2⟩ := k j y sj hj hrj
        exact ⟨w, vk w w1, w2.imp (fun b o p l e => ⟨kb b o (S.tab.ltne e l) (by rintro rfl; exact p i ha) e, p⟩) fun b hb o l e => kb b o (S.tab.ltne e l) (by rintro rfl; exact q (S.od j i b hb ha)) e⟩⟩ }

theorem hide_keep {h : Heap} {la b : Addr} {o : Obj} (hb : b ≠ la) (e : h.get? b = some o) : (h.hide la).get? b = some o := (Heap.hide_ne h hb).trans e
theorem dt_hide {h : Heap} {la : Addr} {oa : Obj} (x : DtOk (D.at h)) (e : h.get? la = some oa) (l : LT oa) : DtOk (D.at (h.hide la)) := by
  have ns : ∀ {a : Addr} {m : Str → Option Value}, h.Ns a m → (h.hide la).Ns a m := fun ⟨o, es, ep, eo, hd, r⟩ => ⟨o, es, ep, hide_keep (by rintro rfl; rw [e] at eo; cases eo; exact l.notDict hd) eo, hd, r⟩
  refine ⟨ns x.g, ns x.b, x.bi, let ⟨mc, a, b⟩ := x.lim; ⟨mc, ns a, b⟩, TabOk.but x.tab e l.nt fun b o hb eb => hide_keep hb eb, ?_, fun a fd hf => ?_⟩
  · obtain ⟨bm, o, h1, h2, h3, h4, h5, h6, h7⟩ := x.bm
    exact ⟨bm, o, h1, h2, h3, hide_keep (by rintro rfl; have h4' : h.get? bm = some o := h4; rw [e] at h4'; cases h4'; obtain ⟨_, _, _, d⟩ := l; rw [d] at h7; cases h7) h4, h5, h6, h7⟩
  · obtain ⟨o, eo, d, c, oc, ws, tk, f1, f2, f3, f4⟩ := x.fns a fd hf
    exact ⟨o, hide_keep (by rintro rfl; have eo' : h.get? a = some o := eo; rw [e] at eo'; cases eo'; obtain ⟨_, _, _, d2⟩ := l; rw [d2] at d; cases d) eo, d, c, oc, ws, tk, f1, hide_keep (by rintro rfl; have f2' : h.get? c = some oc := f2; rw [e] at f2'; cases f2'; exact l.notFields f3) f2, f3, f4⟩

noncomputable def clos49 (ca cn ci : Addr) : List (Str × Addr) := [("n", cn), ("inner", ci), ("a_digits", ca)]
noncomputable def I49 (n : Int) (ca cn ci f la : Addr) (vn : Value) (h : Heap) : Prop :=
  h.IsCell ca (some (.ref la)) ∧ h.IsCell cn (some vn) ∧ Den All h (.int n) vn ∧ h.IsCell ci (some (.ref f))
theorem firm49 {T : List Tb} {n : Int} {ca cn ci f la : Addr} {vn : Value} : Firm T (I49 n ca cn ci f la vn) := fun h h' t x k =>
  ⟨firm_cell t x.1 k, firm_cell t x.2.1 k, firm_den t x.2.2.1 k, firm_cell t x.2.2.2 k⟩
/-- the list at la bears ds -/
noncomputable def ListAt (h : Heap) (la : Addr) (ds : List PV) : Prop := ∃ ws : List Value, h.PlainList la ws.toArray ∧ DenL All h ds ws
/-- a nested function that writes a list -/
noncomputable def CnW (D : Dt) (n : Nat) (f la : Addr) (I : Heap → Prop) (F : List PV → List PV → Option (List PV)) : Prop :=
  ∀ (A : Around) (s : Shared) (xs : List PV) (vs : List Value) (ds ds' : List PV), OkA n A → DtOk (D.at s.heap) → I s.heap → DenL All s.heap xs vs → ListAt s.heap la ds → ds.all PV.sc = true → F xs ds = some ds' →
    wpAny D.M A (call (.ref f) vs []) (fun r s' => Gr D.T (fun b => b = la) s s' ∧ r = .none ∧ ListAt s'.heap la ds' ∧ ds'.all PV.sc = true) (fun _ _ => False) s

noncomputable def vars49i : List (Option Str) := [some "x", some "L", some "R", some "mid", some "shift", some "upper", some "lower", some "n", some "a_digits"]
noncomputable def r49 (x L R n : Int) (ds : List PV) : Rho := fun i => match i with
  | 0 => some (.fz (.int x))
  | 1 => some (.fz (.int L))
  | 2 => some (.fz (.int R))
  | 7 => some (.fz (.int n))
  | 8 => some (.ow ds)
  | _ => none
noncomputable def own49 (la : Addr) : Own := fun i => if i = 8 then [la] else []
theorem of_hide {h : Heap} {la b : Addr} {o : Obj} (e : (h.hide la).get? b = some o) : h.get? b = some o := of_hideAll [la] e
theorem hide_gone {h : Heap} {la : Addr} : (h.hide la).get? la = none := hideAll_none [la] (.head _)
theorem enter49 {s s1 : Shared} {env : Env} {m : Str → Option Value} {x L R n : Int} {ds : List PV} {ca cn ci f la : Addr} {vn vx vL vR : Value} (dt : DtOk (D.at s.heap)) (keep : ∀ b o, s.heap.get? b = some o → s1.heap.get? b = some o) (eo : EnvOk env) (gn : goodNames vars49i env.scope = true)
    (hl : s.heap.get? env.locals = none) (hkc : ∀ x, env.kindOf x ≠ some .cell) (hcells : env.cells = clos49 ca cn ci) (h1 : ca ≠ cn) (h2 : ca ≠ ci) (h3 : cn ≠ ci) (hm : s1.heap.Ns env.locals m) (hI : I49 n ca cn ci f la vn s.heap) (hla : ListAt s.heap la ds) (hds : ds.all PV.sc = true)
    (k0 : env.kindOf "x" = some .local) (k1 : env.kindOf "L" = some .local) (k2 : env.kindOf "R" = some .local) (k7 : env.kindOf "n" = some .free) (k8 : env.kindOf "a_digits" = some .free)
    (m0 : m "x" = some vx) (m1 : m "L" = some vL) (m2 : m "R" = some vR) (d0 : Den All s.heap (.int x) vx) (d1 : Den All s.heap (.int L) vL) (d2 : Den All s.heap (.int R) vR) :
    StE (D.at (s.heap.hide la)) env vars49i (own49 la) (r49 x L R n ds) s1 := by
  obtain ⟨ws, pl, dl⟩ := hla
  obtain ⟨oa, ea, lt⟩ := LT.plain pl
  have own8 : ∀ {i a}, a ∈ own49 la i → i = 8 ∧ a = la := fun {i a} h => by
    unfold own49 at h; split at h
    · exact ⟨‹_›, List.mem_singleton.mp h⟩
    · cases h
  have hkeep : ∀ {c : Addr} {v : Option Value}, s.heap.IsCell c v → s1.heap.IsCell c v := fun ⟨o, e, d⟩ => ⟨o, keep _ _ e, d⟩
  have pl1 : s1.heap.PlainList la ws.toArray := by obtain ⟨nn, e⟩ := pl; exact ⟨nn, keep _ _ e⟩
  refine ⟨dt_hide dt ea lt, fun b o _ e => keep b o (of_hide e), dt.tab.keeps keep, eo, gn, fun i j z a b => distinctV_ok (l := vars49i) rfl i j z a b, fun a ma => ?_, fun i a h => ?_, fun i j a h1 h2 => ?_, fun i => ?_, fun i h _ => ?_, fun z hz => absurd hz (hkc z), fun z cc hz => ?_, fun z y cc hz hy => ?_, m, hm, fun i z sl hz hr => ?_⟩
  · rcases ma with rfl | ⟨z, hz, _⟩ | ⟨i, h⟩
    · cases q : (s.heap.hide la).get? env.locals with
      | none => exact q
      | some o => have := of_hide q; rw [hl] at this; cases this
    · exact absurd hz (hkc z)
    · rw [(own8 h).2]; exact hide_gone
  · rw [(own8 h).2]; exact ⟨oa, keep _ _ ea, lt⟩
  · rw [(own8 h1).1, (own8 h2).1]
  · unfold own49; split <;> simp
  · unfold own49
    rw [if_neg]; rintro rfl; exact absurd h (by decide)
  · rw [hcells] at hz
    have mm := mem_of_lookup hz
    simp [clos49] at mm
    rcases mm with ⟨_, rfl⟩ | ⟨_, rfl⟩ | ⟨_, rfl⟩
    · obtain ⟨o, e, _⟩ := hkeep hI.2.1; exact ⟨o, e⟩
    · obtain ⟨o, e, _⟩ := hkeep hI.2.2.2; exact ⟨o, e⟩
    · obtain ⟨o, e, _⟩ := hkeep hI.1; exact ⟨o, e⟩
  · rw [hcells] at hz hy
    have m1 := mem_of_lookup hz
    have m2 := mem_of_lookup hy
    simp [clos49] at m1 m2
    rcases m1 with ⟨a1, b1⟩ | ⟨a1, b1⟩ | ⟨a1, b1⟩ <;> rcases m2 with ⟨a2, b2⟩ | ⟨a2, b2⟩ | ⟨a2, b2⟩ <;> first | (rw [a1, a2]; done) | (exfalso; first | exact h1 (b1.symm.trans b2) | exact h1 (b2.symm.trans b1) | exact h2 (b1.symm.trans b2) | exact h2 (b2.symm.trans b1) | exact h3 (b1.symm.trans b2) | exact h3 (b2.symm.trans b1))
  · have loc : ∀ {w : Str} {v : Value} {y : PV}, env.kindOf w = some .local → m w = some v → Den All s.heap y v → y.sc = true → ∃ v, VarAt env m s1.heap w v ∧ SlotOk (own49 la) s1.heap (own49 la i) (.fz y) v := fun hk hv d hy => ⟨_, by unfold VarAt; rw [hk]; exact hv, Den.sc hy d⟩
    match i, hz, hr with
    | 0, hz, hr => cases hz; cases hr; exact loc k0 m0 d0 rfl
    | 1, hz, hr => cases hz; cases hr; exact loc k1 m1 d1 rfl
    | 2, hz, hr => cases hz; cases hr; exact loc k2 m2 d2 rfl
    | 7, hz, hr => cases hz; cases hr; exact ⟨vn, by unfold VarAt; rw [k7]; exact ⟨cn, by rw [hcells]; rfl, hkeep hI.2.1⟩, Den.sc rfl hI.2.2.1⟩
    | 8, hz, hr => cases hz; cases hr; exact ⟨.ref la, by unfold VarAt; rw [k8]; exact ⟨ca, by rw [hcells]; rfl, hkeep hI.1⟩, la, ws, rfl, rfl, pl1, dl.sc hds⟩
    | 3, hz, hr => cases hr
    | 4, hz, hr => cases hr
    | 5, hz, hr => cases hr
    | 6, hz, hr => cases hr
    | i + 9, hz, hr => cases hr
end
end Mine
end
section
set_option maxRecDepth 20000
namespace Mine
section
variable {D : Dt}
theorem own8_eq {la : Addr} : own49 la 8 = [la] := rfl

/-- what the frame of inner knows of its list -/
theorem list_of {env : Env} {vars : List (Option Str)} {own : Own} {ρ : Rho} {s : Shared} {ds : List PV} {la ca : Addr} (S : StE D env vars own ρ s) (hx : vars[8]? = some (some ("a_digits" : Str))) (hk : env.kindOf "a_digits" = some .free) (hc : env.cells.lookup ("a_digits" : Str) = some ca) (hcell : D.h1.IsCell ca (some (.ref la))) (hr : ρ 8 = some (.ow ds)) :
    own 8 = [la] ∧ ListAt s.heap la ds := by
  obtain ⟨m, hm, hv⟩ := S.vars
  obtain ⟨v, va, a, ws, rfl, ho, pl, dl⟩ := hv 8 _ _ hx hr
  unfold VarAt at va
  rw [hk] at va
  obtain ⟨cc, e1, o, e2, e3⟩ := va
  rw [hc] at e1; cases e1
  obtain ⟨o2, e4, e5⟩ := hcell
  have := S.base _ _ (S.ok.tab.ne e4 (by rintro ps rfl; cases e5)) e4
  rw [this] at e2; cases e2
  rw [e5] at e3; cases e3
  exact ⟨ho, ws, pl, dl.raw⟩

/-- a call that writes the owned list in slot 8 -/
noncomputable def callWF (G : List PV → List PV → Option (List PV)) (fs : List (Rho → Option PV)) : Rho → Option Out := fun ρ => match ρ 8 with
  | some (.ow ds) => if ds.all PV.sc then (argsF fs ρ).bind fun xs => (G xs ds).map fun ds' => .next (upd ρ 8 (.ow ds')) else none
  | _ => none
theorem s1_callW {c : Sct} {vars : List (Option Str)} {n m : Nat} {p pos epos : Pos} {es : List Expr} {fs : List (Rho → Option PV)} {f ca ci la : Addr} {fd : FuncData} {cl : List (Str × Addr)} {I : Heap → Prop} {G : List PV → List PV → Option (List PV)}
    (hC : CnW D m f la I G) (hcl : c.cl = some cl) (hci : cl.lookup ("inner" : Str) = some ci) (hca : cl.lookup ("a_digits" : Str) = some ca) (hk : c.sc.names.lookup ("inner" : Str) = some .free) (hka : c.sc.names.lookup ("a_digits" : Str) = some .free)
    (hI : I D.h1) (hF : Firm D.T I) (hc1 : D.h1.IsCell ci (some (.ref f))) (hc2 : D.h1.IsCell ca (some (.ref la))) (hfn : D.fn f = some fd) (hn : m ≤ n) (ha : ArgsX D n c vars es fs) (hx : vars[8]? = some (some ("a_digits" : Str))) (hi : ∀ env, InC c env → interactive env = false) :
    S1 D n c vars (.Expr (.Call (.Name "inner" p) es [] pos) epos) (callWF G fs) := fun env A own ρ s o hc hA S hf => by
  unfold callWF at hf
  split at hf
  · rename_i ds hr
    split at hf
    · rename_i hds
      obtain ⟨xs, hxs, hf⟩ := Option.bind_eq_some_iff.mp hf
      obtain ⟨ds', hds', rfl⟩ := Option.map_eq_some_iff.mp hf
      have tb1 : TabOk D.T D.h1 := S.ok.tab
      have keepC : ∀ {h : Heap}, (∀ b o, ¬ TA D.T b → D.h1.get? b = some o → h.get? b = some o) → h.IsCell ci (some (.ref f)) := fun kb => by
        obtain ⟨o, e, d⟩ := hc1
        exact ⟨o, kb _ _ (tb1.ne e (by rintro ps rfl; cases d)) e, d⟩
      refine wpAny_Expr ?_ (hi env hc) rfl
      refine wpAny_Call_NameR (wpAny_Name (wpAny_loadName_free S.eo.kind (by unfold Env.kindOf; rw [hc.1]; exact hk) (by rw [hc.2.2.2 _ hcl]; exact hci) (keepC S.base) (callee_ok (.inr (.inr ⟨f, fd, rfl, hfn⟩)) ha hc hA S hxs fun vs s1 g1 d1 => ?_) rfl) rfl)
      have S1 := S.grow g1
      obtain ⟨h8, hl⟩ := list_of S1 hx (by unfold Env.kindOf; rw [hc.1]; exact hka) (by rw [hc.2.2.2 _ hcl]; exact hca) hc2 hr
      refine wpAny_mono (hC A s1 xs vs ds ds' (hA.mono hn) S1.dt (hF _ _ tb1 hI S1.base) d1 hl hds hds') (fun r s2 hd2 => ?_) fun _ _ y => y
      obtain ⟨g2, rfl, hl2, hds2⟩ := hd2
      have hm : la ∈ own 8 := by rw [h8]; exact .head _
      obtain ⟨ws2, pl2, dl2⟩ := hl2
      have S2 := S1.mutG (sl' := .ow ds') hx hr hm g2 (LT.plain pl2) fun v q => by
        obtain ⟨a', vs', rfl, hm', l', d'⟩ := q
        rw [h8] at hm'; cases hm'
        exact ⟨la, ws2, rfl, h8, pl2, dl2.sc hds2⟩
      refine ⟨own, S2, (Trk.ofGrow g1 S.tab).trans ⟨g2.up S1.tab (fun b e => by rw [e]; exact .inr (.inr ⟨8, hm⟩)), fun i a h => .inl ⟨i, h⟩⟩ S.tab⟩
    · cases hf
  · cases hf

noncomputable def mid49 (G : List PV → List PV → Option (List PV)) : Rho → Option Out :=
  seqF (assignF 3 (binF .RShift (binF .Add (getAny 1) (getAny 2)) (intF 1))) <|
  seqF (assignF 4 (binF .Mult (binF .Sub (getAny 3) (getAny 1)) (getAny 7))) <|
  seqF (assignF 5 (binF .RShift (getAny 0) (getAny 4))) <|
  seqF (assignF 6 (binF .BitXor (getAny 0) (binF .LShift (getAny 5) (getAny 4)))) <|
  seqF (callWF G [getAny 6, getAny 1, getAny 3]) (callWF G [getAny 5, getAny 3, getAny 2])
noncomputable def stTail : List Stmt → List Stmt
  | _ :: r => r
  | [] => []
theorem sx_mid49 {P : Params} {k : Nat} {f la ca cn ci : Addr} {qual : Str} {doc pm cv ctv : Value} {I : Heap → Prop} {G : List PV → List PV → Option (List PV)} {fd : FuncData}
    (hC : CnW D k f la I G) (hI : I D.h1) (hF : Firm D.T I) (hc1 : D.h1.IsCell ci (some (.ref f))) (hc2 : D.h1.IsCell ca (some (.ref la))) (hfn : D.fn f = some fd) :
    Sx D k (sctIn (inFd P 49 ((bodyAt P 49).drop 1) qual (clos49 ca cn ci) doc pm cv ctv)) vars49i (stTail (defBody ((bodyAt P 49).drop 1))) (mid49 G) :=
  sx_cons (s1_assign 3 rfl rfl (ex_bin (ex_bin (ex_name 1 rfl) (ex_name 2 rfl)) ex_int)) <|
  sx_cons (s1_assign 4 rfl rfl (ex_bin (ex_bin (ex_name 3 rfl) (ex_name 1 rfl)) (ex_name 7 rfl))) <|
  sx_cons (s1_assign 5 rfl rfl (ex_bin (ex_name 0 rfl) (ex_name 4 rfl))) <|
  sx_cons (s1_assign 6 rfl rfl (ex_bin (ex_name 0 rfl) (ex_bin (ex_name 5 rfl) (ex_name 4 rfl)))) <|
  sx_cons (s1_callW hC rfl rfl rfl rfl rfl hI hF hc1 hc2 hfn (Nat.le_refl _) (argsX_cons (ex_name 6 rfl) (argsX_cons (ex_name 1 rfl) (argsX_cons (ex_name 3 rfl) .nil))) rfl (fun _ h => by unfold interactive; rw [h.1]; rfl)) <|
  sx_one (s1_callW hC rfl rfl rfl rfl rfl hI hF hc1 hc2 hfn (Nat.le_refl _) (argsX_cons (ex_name 5 rfl) (argsX_cons (ex_name 3 rfl) (argsX_cons (ex_name 2 rfl) .nil))) rfl (fun _ h => by unfold interactive; rw [h.1]; rfl))
noncomputable def getOw (i : Nat) : Out → Option (List PV)
  | .next ρ => (match ρ i with | some (.ow ds) => some ds | _ => none)
  | .ret _ => none
noncomputable def F49i (n : Int) : Nat → List PV → List PV → Option (List PV)
  | 0 => fun _ _ => none
  | k + 1 => fun xs ds => match xs with
    | [.int x, .int L, .int R] =>
      if L + 1 = R then (if 0 ≤ L ∧ L < ds.length ∧ ds.length ≤ 1000000 then some (ds.set L.toNat (.int x)) else none)
      else (mid49 (F49i n k) (r49 x L R n ds)).bind fun o => (getOw 8 o).bind fun ds' => if ds'.all PV.sc then some ds' else none
    | _ => none
end
end Mine
end
section
set_option maxRecDepth 20000
namespace Mine
section
variable {D : Dt}
theorem cnw49 {P : Params} {f la ca cn ci : Addr} {qual : Str} {doc pm cv ctv vn : Value} {n : Int} (hfn : D.fn f = some (inFd P 49 ((bodyAt P 49).drop 1) qual (clos49 ca cn ci) doc pm cv ctv)) (h1 : ca ≠ cn) (h2 : ca ≠ ci) (h3 : cn ≠ ci) :
    ∀ k, CnW D k f la (I49 n ca cn ci f la vn) (F49i n k)
  | 0 => fun A s xs vs ds ds' _ _ _ _ _ _ hF => by cases hF
  | k + 1 => fun A s xs vs ds ds' hA dt hI d hla hds hF => by
    unfold F49i at hF
    split at hF
    · rename_i x L R
      simp only [DenL] at d
      obtain ⟨v0, r0, rfl, d0, v1, r1, rfl, d1, v2, r2, rfl, d2, rfl⟩ := d
      obtain ⟨fo, e, hd, hr⟩ := dt.fns f _ hfn
      have hnames : (defScope ((bodyAt P 49).drop 1)).names.all (fun x => x.2 != .cell) = true := rfl
      refine wpAny_call (codeAny_call_function (by have := hA.2.1; unfold recursionLimit; grind) e hd rfl rfl rfl hr ?_)
      rw [show bindArgs (inFd P 49 ((bodyAt P 49).drop 1) qual (clos49 ca cn ci) doc pm cv ctv) ⟨[v0, v1, v2], []⟩ = (pure [(("x" : Str), v0), (("L" : Str), v1), (("R" : Str), v2)] : Sem (List (Str × Value))) from rfl]
      refine wpAny_pure (wpAny_newFunctionEnv (fun z hz => by simpa using List.all_eq_true.mp hnames z hz) (fun z hz => by
        simp only [List.mem_cons, List.not_mem_nil, or_false] at hz
        rcases hz with rfl | rfl | rfl <;> rfl) (fun h' hns hsb => ?_) rfl)
      have keep : ∀ b o, s.heap.get? b = some o → h'.get? b = some o := fun b o e => hsb.extBut b o (Nat.ne_of_lt (Heap.lt_size e)) (Heap.get?_push_of_some _ e)
      refine ⟨dt.lim.keeps keep, codeAny_func ?_⟩
      let fd := inFd P 49 ((bodyAt P 49).drop 1) qual (clos49 ca cn ci) doc pm cv ctv
      let env := newEnv fd.scope s.heap.objs.size fd.globals fd.closure (fd.qualname ++ ".<locals>.") (some f) fd.code none fd.builtins
      have hc : InC (sctIn fd) env := ⟨rfl, rfl, rfl, fun l hl => Option.some.inj hl⟩
      have S : StE (D.at (s.heap.hide la)) env vars49i (own49 la) (r49 x L R n ds) { s with heap := h', toks := s.toks + 3 } :=
        enter49 dt keep ⟨rfl, rfl, rfl, rfl⟩ rfl (fresh_at _) (fun z hz => by simpa using List.all_eq_true.mp hnames (z, .cell) (mem_of_lookup hz)) rfl h1 h2 h3 hns hI hla hds rfl rfl rfl rfl rfl rfl rfl rfl d0 d1 d2
      have hA' : OkA k (A.deeper env) := hA.deeper (Nat.lt_succ_self k)
      have keepD : ∀ b o, s.heap.get? b = some o → ({ s with heap := h', toks := s.toks + 3 } : Shared).heap.get? b = some o := keep
      have gr0 : Grow D.T s { s with heap := h', toks := s.toks + 3 } := .of dt.tab keep
      have mutOld : ∀ {own' : Own}, own' 8 = [la] → (∀ i a, a ∈ own' i → (∃ j, a ∈ own49 la j) ∨ h'.get? a = none) → ∀ b o, s.heap.get? b = some o → Mut env own' b → b = la := fun {own'} h8 ho b o eb m => by
        rcases m with rfl | ⟨z, hz, _⟩ | ⟨i, hm⟩
        · rw [show s.heap.get? env.locals = none from fresh_at _] at eb; cases eb
        · exact absurd (mem_of_lookup hz) (fun q => by have := List.all_eq_true.mp hnames _ q; simp at this)
        · rcases ho i b hm with ⟨j, hj⟩ | q
          · unfold own49 at hj; split at hj
            · exact List.mem_singleton.mp hj
            · cases hj
          · rw [keep b o eb] at q; cases q
      refine wpAny_mono (E := fun _ _ => False) (Q := fun fl s' => Gr D.T (fun b => b = la) s s' ∧ flV fl = .none ∧ ListAt s'.heap la ds' ∧ ds'.all PV.sc = true) ?_ (fun fl s' h => by cases fl <;> exact h) (fun _ _ q => q.elim)
      refine wpAny_execs_cons (wpAny_If (wpAny_mono ((tx_cmp (D := D.at (s.heap.hide la)) (n := k) (c := sctIn fd) (vars := vars49i) (ex_bin (ex_name 1 rfl) ex_int) (ex_name 2 rfl)) env _ _ _ _ (L + 1 == R) hc hA' S (by exact rfl)) (fun b s2 q => ?_) fun _ _ q => q))
      obtain ⟨g2, hbb⟩ := q
      have S2 := S.grow g2
      have kf : env.kindOf "a_digits" = some .free := rfl
      have kl : env.cells.lookup ("a_digits" : Str) = some ca := rfl
      have hcl : (D.at (s.heap.hide la)).h1.IsCell ca (some (.ref la)) := by
        obtain ⟨o, eo, d⟩ := hI.1
        obtain ⟨ws, pl, _⟩ := hla
        exact ⟨o, hide_keep (by rintro rfl; obtain ⟨nn, e2⟩ := pl; rw [eo] at e2; cases e2; cases d) eo, d⟩
      cases b with
      | true =>
        have hL : L + 1 = R := by simpa using hbb.symm
        rw [if_pos hL] at hF
        obtain ⟨hq, rfl⟩ := ite_some hF
        rw [if_pos rfl]
        refine wpAny_execs_cons (wpAny_mono ((s1_setitem (D := D.at (s.heap.hide la)) (n := k) (c := sctIn fd) (vars := vars49i) 8 rfl (ex_name 1 rfl) (ex_name 0 rfl)) env _ _ _ s2 (.next (upd (r49 x L R n ds) 8 (.ow (ds.set L.toNat (.int x))))) hc hA' S2 (by simp [setF, getAny, r49, setV, hq, PV.sc])) (fun fl s3 h3 => ?_) fun _ _ q => q)
        cases fl <;> first | exact h3.elim | skip
        obtain ⟨own3, S3, k3⟩ := h3
        obtain ⟨h8, hl3⟩ := list_of S3 rfl kf kl hcl (upd_self _ _ _)
        refine wpAny_execs_cons (wpAny_Return_none ?_)
        exact ⟨(gr0.then g2).trans k3.g dt.tab (fun _ h => h.elim) fun b o eb m => mutOld rfl (fun i a h => .inl ⟨i, h⟩) b o eb m, rfl, hl3, by
          rw [List.all_eq_true] at hds ⊢
          intro z hz
          rcases List.mem_or_eq_of_mem_set hz with h | rfl
          · exact hds z h
          · rfl⟩
      | false =>
        have hL : ¬ L + 1 = R := by intro h; simp [h] at hbb
        rw [if_neg hL] at hF
        obtain ⟨oo, ho, hF⟩ := Option.bind_eq_some_iff.mp hF
        obtain ⟨ds1, ho1, hF⟩ := Option.bind_eq_some_iff.mp hF
        obtain ⟨hds1, hF⟩ := ite_some hF
        cases hF
        rw [if_neg (by simp)]
        refine wpAny_execs_nil ?_
        have hci : (D.at (s.heap.hide la)).h1.IsCell ci (some (.ref f)) := by
          obtain ⟨o, eo, d⟩ := hI.2.2.2
          obtain ⟨ws, pl, _⟩ := hla
          exact ⟨o, hide_keep (by rintro rfl; obtain ⟨nn, e2⟩ := pl; rw [eo] at e2; cases e2; cases d) eo, d⟩
        have hcn : (D.at (s.heap.hide la)).h1.IsCell cn (some vn) := by
          obtain ⟨o, eo, d⟩ := hI.2.1
          obtain ⟨ws, pl, _⟩ := hla
          exact ⟨o, hide_keep (by rintro rfl; obtain ⟨nn, e2⟩ := pl; rw [eo] at e2; cases e2; cases d) eo, d⟩
        have hIh : I49 n ca cn ci f la vn (D.at (s.heap.hide la)).h1 := ⟨hcl, hcn, Den.sc rfl hI.2.2.1, hci⟩
        have q := sx_mid49 (D := D.at (s.heap.hide la)) (P := P) (qual := qual) (doc := doc) (pm := pm) (cv := cv) (ctv := ctv) (cn := cn) (I := I49 n ca cn ci f la vn) (G := F49i n k) (f := f) (la := la) (k := k) (cnw49 hfn h1 h2 h3 k) hIh firm49 hci hcl hfn
        refine wpAny_mono (q env _ _ _ _ oo hc hA' S2 ho) (fun fl s3 h3 => ?_) fun _ _ q => q
        cases oo with
        | ret x => cases ho1
        | next ρ' =>
          replace ho1 : (match ρ' 8 with | some (.ow ds) => some ds | _ => none) = some ds' := ho1
          split at ho1
          · rename_i dd hr3
            cases ho1
            cases fl <;> first | exact h3.elim | skip
            obtain ⟨own3, S3, k3⟩ := h3
            obtain ⟨h8, hl3⟩ := list_of S3 rfl kf kl hcl hr3
            exact ⟨(gr0.then g2).trans k3.g dt.tab (fun _ h => h.elim) fun b o eb m => mutOld rfl (fun i a h => .inl ⟨i, h⟩) b o eb m, rfl, hl3, hds1⟩
          · cases ho1
    · cases hF
end
end Mine
end
section
set_option maxRecDepth 20000
namespace Mine

noncomputable def vars49 : List (Option Str) := [some "a", some "n", some "a_digits"]
noncomputable def head49 : Rho → Option Out := assignN 2 (mulLF (listF [intF 0]) (binF .FloorDiv (binF .Sub (binF .Add (callF bitLenV [getAny 0]) (getAny 1)) (intF 1)) (getAny 1)))
noncomputable def tail49 : Rho → Option Out := fun ρ => match ρ 1, ρ 2 with
  | some (.fz (.int n)), some (.ow ds) => if ds.all PV.sc then (tstF (getAny 0) ρ).bind fun b => if b then (argsF [getAny 0, intF 0, callF lenV [getAny 2]] ρ).bind fun xs => (F49i n 50 xs ds).bind fun ds' => if ds'.all PV.sc then some (.ret (.list ds')) else none else some (.ret (.list ds)) else none
  | _, _ => none
noncomputable def f49 : Rho → Option Out := seqF head49 tail49

theorem sx49t {D : Dt} (hD : DD D) : Sx D 58 (sctOf (fdAt D.w.params 49)) vars49 (stTail (bodyAt D.w.params 49)) tail49 := fun env A own ρ s o hc hA S hf => by
  unfold tail49 at hf
  split at hf
  · rename_i n ds e1 e2
    split at hf
    · rename_i hds
      have kd : env.kindOf "a_digits" = some .cell := by unfold Env.kindOf; rw [hc.1]; rfl
      have kn : env.kindOf "n" = some .cell := by unfold Env.kindOf; rw [hc.1]; rfl
      have ki : env.kindOf "inner" = some .cell := by unfold Env.kindOf; rw [hc.1]; rfl
      obtain ⟨m, hm, hv⟩ := S.vars
      obtain ⟨vd, va, da⟩ := hv 2 "a_digits" _ rfl e2
      obtain ⟨vn, vb, db⟩ := hv 1 "n" _ rfl e1
      unfold VarAt at va vb
      rw [kd] at va; rw [kn] at vb
      obtain ⟨cd, cd1, cd2⟩ := va
      obtain ⟨cn, cn1, cn2⟩ := vb
      obtain ⟨ci, vi, ci1, ci2⟩ := S.ce "inner" ki
      have ndn : cd ≠ cn := fun q => absurd (S.cd "a_digits" "n" cd cd1 (q ▸ cn1)) (by decide)
      have ndi : cd ≠ ci := fun q => absurd (S.cd "a_digits" "inner" cd cd1 (q ▸ ci1)) (by decide)
      have nni : cn ≠ ci := fun q => absurd (S.cd "n" "inner" cn cn1 (q ▸ ci1)) (by decide)
      have hclos : closureFor (defScope ((bodyAt D.w.params 49).drop 1)) env = pure (clos49 cd cn ci) := by
        refine (closureFor_eq (fun x => if x = "n" then cn else if x = "inner" then ci else cd) ?_).trans rfl
        intro x hx hfree
        have hx' : x.1 = "a_digits" ∨ x.1 = "inner" ∨ x.1 = "n" := by
          have hall : (defScope ((bodyAt D.w.params 49).drop 1)).names.all (fun x => x.2 != .free || x.1 == "a_digits" || x.1 == "inner" || x.1 == "n") = true := rfl
          have := List.all_eq_true.mp hall x hx
          rw [hfree] at this
          simp only [Bool.or_eq_true, beq_iff_eq] at this
          rcases this with ((h | h) | h) | h
          · exact absurd h (by decide)
          · exact .inl h
          · exact .inr (.inl h)
          · exact .inr (.inr h)
        rcases hx' with h | h | h
        · rw [h]; exact cd1
        · rw [h]; exact ci1
        · rw [h]; exact cn1
      refine wpAny_execs_cons (wpAny_mono (def_ok (tb := ⟨44, 48, (defPos ((bodyAt D.w.params 49).drop 1)).line, (defPos ((bodyAt D.w.params 49).drop 1)).col, "_int2digits.<locals>.inner"⟩) S (by rw [hc.2.1]; rfl) (by rw [hD.tb]; exact .head _) (fun t ht hp => by
        rw [hD.tb] at ht
        rcases List.mem_cons.mp ht with rfl | ht
        · rfl
        · rw [List.mem_singleton.mp ht] at hp; exact absurd (show (51 : Nat) = 44 from hp) (by decide)) rfl rfl ?_ ki ci1 ?_ hclos rfl rfl rfl) (fun fl s1 q => ?_) fun _ _ q => q)
      · unfold qualnameIn; rw [ki, hc.2.2.1]; rfl
      · intro i hi
        match i, hi with
        | 0, hi => exact absurd hi (by decide)
        | 1, hi => exact absurd hi (by decide)
        | 2, hi => exact absurd hi (by decide)
        | i + 3, hi => cases hi
      obtain ⟨rfl, S1, g1, f, cv, ctv, doc, pm, fo, hcell, hf0, hfo, hfd, hrec⟩ := q
      obtain ⟨m', hm', hv'⟩ := S1.vars
      obtain ⟨vd', va', da'⟩ := hv' 2 "a_digits" _ rfl e2
      obtain ⟨vn', vb', db'⟩ := hv' 1 "n" _ rfl e1
      unfold VarAt at va' vb'
      rw [kd] at va'; rw [kn] at vb'
      obtain ⟨cd', cd1', cd2'⟩ := va'
      obtain ⟨cn', cn1', cn2'⟩ := vb'
      rw [cd1] at cd1'; cases cd1'
      rw [cn1] at cn1'; cases cn1'
      obtain ⟨la, ws, rfl, hm2, pl, dl⟩ := da'
      have hI : I49 n cd cn ci f la vn' s1.heap := ⟨cd2', cn2', Den.raw (P := Clean own) db', hcell⟩
      obtain ⟨b, hb, hz⟩ := Option.bind_eq_some_iff.mp hf
      have hret : ∀ (ρ2 : Rho) (ds2 : List PV) (s2 : Shared), ρ2 2 = some (.ow ds2) → ds2.all PV.sc = true → StE D env vars49 own ρ2 s2 → Gr D.T (Mut env own) s s2 → o = .ret (.list ds2) → ∀ rest, bodyAt D.w.params 49 = rest ++ ((bodyAt D.w.params 49).drop 3) →
          wpAny D.M A (execs ((bodyAt D.w.params 49).drop 3) env) (fun fl s' => OutOk D env vars49 own s o fl s') (fun _ _ => False) s2 := fun ρ2 ds2 s2 h2 hs2 S2 g2 ho _ _ => by
        subst ho
        have k : Sx D 58 (sctOf (fdAt D.w.params 49)) vars49 ((bodyAt D.w.params 49).drop 3) (retF (getRt 2)) := sx_one (s1_ret (ex_nameR 2 rfl))
        refine wpAny_mono (k env A own ρ2 s2 (.ret (.list ds2)) hc hA S2 (by simp [retF, getRt, h2, hs2])) (fun fl s3 q => ?_) fun _ _ q => q
        cases fl <;> first | exact q.elim | skip
        exact ⟨g2.trans q.1 S.tab (fun _ h => h) fun _ _ _ h => h, q.2⟩
      refine wpAny_execs_cons (wpAny_If (wpAny_mono ((tx_plain (ex_name (n := 58) (c := sctOf (fdAt D.w.params 49)) (vars := vars49) 0 rfl)) env A own ρ s1 b hc hA S1 hb) (fun v s2 ⟨g2, e2'⟩ => ?_) fun _ _ q => q))
      subst e2'
      have S2 := S1.grow g2
      have g12 : Gr D.T (Mut env own) s s2 := g1.trans g2 S.tab (fun _ h => h) fun _ _ _ h => h.elim
      cases v with
      | false =>
        simp only [Bool.false_eq_true, if_false] at hz ⊢
        cases hz
        refine wpAny_execs_nil ?_
        exact hret ρ ds s2 e2 hds S2 g12 rfl _ (List.take_append_drop 3 _).symm
      | true =>
        simp only [if_true] at hz ⊢
        obtain ⟨xs, hx, hF⟩ := Option.bind_eq_some_iff.mp hz
        obtain ⟨ds', hF', ho⟩ := Option.bind_eq_some_iff.mp hF
        obtain ⟨_, rfl⟩ := ite_some ho
        rename_i hds'
        have tb1 := S1.tab
        refine wpAny_execs_cons (wpAny_Expr ?_ (by unfold interactive; rw [hc.1]; rfl) rfl)
        refine call_cell (fd := inFd D.w.params 49 ((bodyAt D.w.params 49).drop 1) (qualnameIn env "inner" "inner") (clos49 cd cn ci) doc pm cv ctv) S2 hc hA ki ci1 (firm_cell tb1 hcell fun b o n e => g2.kp b o n (fun q => q) e) (g2.kp f fo (tb1.ne hfo (by rintro ps rfl; cases hfd)) (fun q => q) hfo) hfd (argsX_cons (ex_name 0 rfl) (argsX_cons ex_int (argsX_cons (ex_call cn_len (hD.bv rfl (by decide) rfl) (.inl ⟨_, rfl⟩) (Nat.zero_le _) (argsX_cons (ex_name 2 rfl) .nil) rfl) .nil))) hx fun vs s3 g3 d3 => ?_
        have S3 := S2.grow g3
        have g13 := g2.then g3
        have k13 : ∀ b o, ¬ TA D.T b → s1.heap.get? b = some o → s3.heap.get? b = some o := fun b o n e => g13.kp b o n (fun q => q) e
        have hfo3 := k13 f fo (tb1.ne hfo (by rintro ps rfl; cases hfd)) hfo
        have dt3 : DtOk ((withFn D f (inFd D.w.params 49 ((bodyAt D.w.params 49).drop 1) (qualnameIn env "inner" "inner") (clos49 cd cn ci) doc pm cv ctv)).at s3.heap) := dt_with S3.dt ⟨fo, hfo3, hfd, tb1.recKeep hrec k13⟩
        have hl3 : ListAt s3.heap la ds := ⟨ws, by obtain ⟨nn, e⟩ := pl; exact ⟨nn, k13 _ _ (tb1.ltne e ⟨.inl rfl, _, _, rfl⟩) e⟩, dl.sc hds⟩
        refine wpAny_mono (cnw49 (D := withFn D f (inFd D.w.params 49 ((bodyAt D.w.params 49).drop 1) (qualnameIn env "inner" "inner") (clos49 cd cn ci) doc pm cv ctv)) (P := D.w.params) (n := n) (vn := vn') (la := la) (if_pos rfl) ndn ndi nni 50 A s3 xs vs ds ds' (hA.mono (by decide)) dt3 (firm49 _ _ tb1 hI k13) d3 hl3 hds hF') (fun r s4 h4 => ?_) fun _ _ q => q
        obtain ⟨g4, rfl, ⟨ws4, pl4, dl4⟩, hds4⟩ := h4
        have hml : la ∈ own 2 := by rw [hm2]; exact .head _
        have S4 := S3.mutG (sl' := .ow ds') rfl e2 hml g4 (LT.plain pl4) fun v q => by
          obtain ⟨a', vs', rfl, hm', l', d'⟩ := q
          rw [hm2] at hm'; cases hm'
          exact ⟨la, ws4, rfl, hm2, pl4, dl4.sc hds4⟩
        refine wpAny_execs_nil ?_
        refine hret _ ds' s4 (upd_self _ _ _) hds' S4 ?_ rfl _ (List.take_append_drop 3 _).symm
        have g34 : Gr D.T (Mut env own) s3 s4 := g4.up S3.tab fun b e => by rw [e]; exact .inr (.inr ⟨2, hml⟩)
        exact (g1.trans g13 S.tab (V := Mut env own) (fun _ h => h) fun _ _ _ h => h.elim).trans g34 S.tab (fun _ h => h) fun _ _ _ h => h
    · cases hf
  · cases hf
theorem sx49 {D : Dt} (hD : DD D) : Sx D 58 (sctOf (fdAt D.w.params 49)) vars49 (bodyAt D.w.params 49) f49 :=
  sx_cons (s1_assignN 2 rfl rfl (exn_mul (exn_list (argsC_cons ex_int .nil)) (ex_bin (ex_bin (ex_bin (ex_bitLen (ex_name 0 rfl)) (ex_name 1 rfl)) ex_int) (ex_name 1 rfl))) (fun _ h => by unfold swapsWith Env.blockKind Env.kindOf; rw [h.1])) (sx49t hD)
noncomputable def F49 : List PV → Option PV := funF 2 f49
theorem cn49 {D : Dt} (hD : DD D) : Cn D (58 + 1) (.ref 49) F49 :=
  cn_fun (fd := fdAt D.w.params 49) (ps := ["a", "n"]) (vars := vars49) (hD.f (by decide)) rfl rfl rfl (of_len2 fun _ _ => rfl) fun h => sx49 (hD.at h)
end Mine
end
section
set_option maxRecDepth 20000
namespace Mine
noncomputable def F35n : Nat → List PV → Option PV
  | 0 => fun _ => none
  | k + 1 => funF 3 (f35 (funF 6 (f42 (F35n k))))
theorem cn35n {D : Dt} (hD : DD D) : ∀ k, Cn D (2 * k) (.ref 35) (F35n k)
  | 0 => fun A s xs vs x _ _ _ hF => by cases hF
  | k + 1 => cn35 hD (cn42 hD (cn35n hD k))
noncomputable def vars63 : List (Option Str) := [some ("a" : Str), some ("b" : Str), some ("n" : Str), some ("a_digits" : Str), some ("r" : Str), some ("q_digits" : Str), some ("a_digit" : Str), some ("q_digit" : Str), some ("q" : Str)]
noncomputable def f63 : Rho → Option Out :=
  (seqF (assignF 2 (callF bitLenV [(getAny 1)]))
  (seqF (assignF 3 (callF F49 [(getAny 0), (getAny 2)]))
  (seqF (assignF 4 (intF 0))
  (seqF (assignN 5 (listF []))
  (seqF (forE (revIt (getFz 3)) (nameU 6) (seqF (assignTF (tupU [7, 4]) (callF (F35n 20) [(binF .Add (binF .LShift (getAny 4) (getAny 2)) (getAny 6)), (getAny 1), (getAny 2)]))
  (appendF 5 (getAny 7))))
  (seqF (revV 5)
  (seqF (assignF 8 (callF F56 [(getAny 5), (getAny 2)]))
  (retF (tupF [(getAny 8), (getAny 4)])))))))))
theorem sx63 {D : Dt} (hD : DD D) : Sx D 100 (sctOf (fdAt D.w.params 63)) vars63 (bodyAt D.w.params 63) f63 :=
  (sx_cons (s1_assign 2 rfl rfl (ex_bitLen (ex_name 1 rfl)))
  (sx_cons (s1_assign 3 rfl rfl (ex_call (cn49 hD) (hD.gv rfl) (.inr (.inr ⟨_, _, rfl, hD.f (by exact List.mem_of_elem_eq_true rfl)⟩)) (by exact Nat.le_of_ble_eq_true rfl) (argsX_cons (ex_name 0 rfl) (argsX_cons (ex_name 2 rfl) .nil)) rfl))
  (sx_cons (s1_assign 4 rfl rfl ex_int)
  (sx_cons (s1_assignN 5 rfl rfl (exn_list .nil))
  (sx_cons (s1_for (it_rev (ex_nameC 3 rfl) (hD.bv rfl (by decide) rfl) rfl) (tg_name 6 rfl rfl) (sx_cons (s1_assignT (.cons rfl rfl (.cons rfl rfl .nil)) (ex_call (cn35n hD 20) (hD.gv rfl) (.inr (.inr ⟨_, _, rfl, hD.f (by decide)⟩)) (by decide) (argsX_cons (ex_bin (ex_bin (ex_name 4 rfl) (ex_name 2 rfl)) (ex_name 6 rfl)) (argsX_cons (ex_name 1 rfl) (argsX_cons (ex_name 2 rfl) .nil))) rfl))
  (sx_one (s1_append 5 rfl (ex_name 7 rfl) (hi := (fun _ h => by unfold interactive; rw [h.1]; rfl))))))
  (sx_cons (s1_reverse 5 rfl (fun _ h => by unfold interactive; rw [h.1]; rfl))
  (sx_cons (s1_assign 8 rfl rfl (ex_call (cn56 hD) (hD.gv rfl) (.inr (.inr ⟨_, _, rfl, hD.f (by decide)⟩)) (by decide) (argsX_cons (ex_name 5 rfl) (argsX_cons (ex_name 2 rfl) .nil)) rfl))
  (sx_one (s1_ret (ex_tup (argsX_cons (ex_name 8 rfl) (argsX_cons (ex_name 4 rfl) .nil))))))))))))
noncomputable def F63 : List PV → Option PV := funF 2 f63
theorem cn63 {D : Dt} (hD : DD D) : Cn D (100 + 1) (.ref 63) F63 :=
  cn_fun (fd := fdAt D.w.params 63) (ps := ["a", "b"]) (vars := vars63) (hD.f (by decide)) rfl rfl rfl (of_len2 fun _ _ => rfl) fun h => sx63 (hD.at h)

noncomputable def vars70 : List (Option Str) := [some ("a" : Str), some ("b" : Str), some ("q" : Str), some ("r" : Str)]
noncomputable def f70 (G : List PV → Option PV) : Rho → Option Out :=
  (ifF (cmpF .Eq (getAny 1) (intF 0)) (fun _ => none) (ifF (cmpF .Lt (getAny 1) (intF 0)) (seqF (assignTF (tupU [2, 3]) (callF G [(unF .USub (getAny 0)), (unF .USub (getAny 1))]))
  (retF (tupF [(getAny 2), (unF .USub (getAny 3))]))) (ifF (cmpF .Lt (getAny 0) (intF 0)) (seqF (assignTF (tupU [2, 3]) (callF G [(unF .Invert (getAny 0)), (getAny 1)]))
  (retF (tupF [(unF .Invert (getAny 2)), (binF .Add (getAny 1) (unF .Invert (getAny 3)))]))) (retF (callF F63 [(getAny 0), (getAny 1)])))))
theorem sx70 {D : Dt} (hD : DD D) {n : Nat} {G : List PV → Option PV} (hn : 101 ≤ n) (hG : Cn D n (.ref 70) G) : Sx D n (sctOf (fdAt D.w.params 70)) vars70 (bodyAt D.w.params 70) (f70 G) :=
  (sx_one (s1_if (tx_cmp (ex_name 1 rfl) ex_int) (sx_one s1_no) (sx_one (s1_if (tx_cmp (ex_name 1 rfl) ex_int) (sx_cons (s1_assignT (.cons rfl rfl (.cons rfl rfl .nil)) (ex_call hG (hD.gv rfl) (.inr (.inr ⟨_, _, rfl, hD.f (by decide)⟩)) (Nat.le_refl _) (argsX_cons (ex_un (ex_name 0 rfl)) (argsX_cons (ex_un (ex_name 1 rfl)) .nil)) rfl))
  (sx_one (s1_ret (ex_tup (argsX_cons (ex_name 2 rfl) (argsX_cons (ex_un (ex_name 3 rfl)) .nil)))))) (sx_one (s1_if (tx_cmp (ex_name 0 rfl) ex_int) (sx_cons (s1_assignT (.cons rfl rfl (.cons rfl rfl .nil)) (ex_call hG (hD.gv rfl) (.inr (.inr ⟨_, _, rfl, hD.f (by decide)⟩)) (Nat.le_refl _) (argsX_cons (ex_un (ex_name 0 rfl)) (argsX_cons (ex_name 1 rfl) .nil)) rfl))
  (sx_one (s1_ret (ex_tup (argsX_cons (ex_un (ex_name 2 rfl)) (argsX_cons (ex_bin (ex_name 1 rfl) (ex_un (ex_name 3 rfl))) .nil)))))) (sx_one (s1_ret (ex_call (cn63 hD) (hD.gv rfl) (.inr (.inr ⟨_, _, rfl, hD.f (by decide)⟩)) hn (argsX_cons (ex_name 0 rfl) (argsX_cons (ex_name 1 rfl) .nil)) rfl)))))))))
theorem cn70 {D : Dt} (hD : DD D) {n : Nat} {G : List PV → Option PV} (hn : 101 ≤ n) (hG : Cn D n (.ref 70) G) : Cn D (n + 1) (.ref 70) (funF 2 (f70 G)) :=
  cn_fun (fd := fdAt D.w.params 70) (ps := ["a", "b"]) (vars := vars70) (hD.f (by decide)) rfl rfl rfl (of_len2 fun _ _ => rfl) fun h => sx70 (hD.at h) (n := n) hn hG


noncomputable def F70n : Nat → List PV → Option PV
  | 0 => fun _ => none
  | k + 1 => funF 2 (f70 (F70n k))
theorem cn70n {D : Dt} (hD : DD D) : ∀ k, Cn D (101 + k) (.ref 70) (F70n k)
  | 0 => fun A s xs vs x _ _ _ hF => by cases hF
  | k + 1 => cn70 hD (Nat.le_add_right _ _) (cn70n hD k)
theorem Cn.up {D : Dt} {n m : Nat} {v : Value} {F : List PV → Option PV} (h : Cn D n v F) (l : n ≤ m) : Cn D m v F := fun A s xs vs x hA => h A s xs vs x (hA.mono l)
noncomputable def F70 : List PV → Option PV := F70n 3
theorem cn70' {D : Dt} (hD : DD D) : Cn D 300 (.ref 70) F70 := (cn70n hD 3).up (by decide)
end Mine
end
section
namespace Mine
set_option maxRecDepth 20000
set_option maxHeartbeats 8000000
noncomputable def vars128 : List (Option Str) := [some ("script" : Str), some ("total" : Str), some ("cells" : Str), some ("depths" : Str), some ("x" : Str), some ("row" : Str), some ("places" : Str), some ("closes" : Str), some ("ends" : Str), some ("units" : Str), some ("bare" : Str), some ("tail" : Str), some ("left" : Str), some ("pairs" : Str), some ("shown" : Str), some ("nodes" : Str), some ("words" : Str), some ("ways" : Str), some ("j" : Str), some ("holds" : Str), some ("width" : Str), some ("z" : Str), some ("table" : Str), some ("i" : Str), some ("one" : Str), some ("two" : Str), some ("way" : Str), some ("q" : Str), some ("before" : Str), some ("k" : Str), some ("pivot" : Str), some ("due" : Str), some ("top" : Str), some ("rest" : Str), some ("told" : Str)]
noncomputable def f128 (G : List PV → Option PV) : Rho → Option Out :=
  (seqF (assignF 1 (callF sumV [(getAny 0)]))
  (seqF (assignF 2 (callF F96 [(getAny 0)]))
  (seqF (assignN 3 (listF [(intF 0)]))
  (seqF (forE (listIt (getFz 2)) (nameU 4) (appendF 3 (binF .Add (intF 1) (binF .Mod (getAny 4) (binF .Add (subF (getAny 3) (unF .USub (intF 1))) (intF 1))))))
  (seqF (assignTF (tupU [5, 6, 7]) (callF F101 [(getAny 2), (getAny 3)]))
  (seqF (assignF 8 (exF (compE 35 (listIt (getFz 6)) (compG (nameU 35) yesF (emF (callF F113 [(getAny 5), (getAny 35)]))))))
  (seqF (ifF (orL [(neDF (getAny 8) (getAny 7)), (cmpF .IsNot (callF F91 [(callF joinV [(strF ""), (exF (sliceLF (getAny 5) none (some (unF .USub (intF 1)))))])]) (boolF false))]) (retF (boolF false)) passF)
  (seqF (ifF (cmpF .IsNot (callF F91 [(callF joinV [(strF ""), (exF (addLF (exF (sliceLF (getAny 5) (some (intF 1)) none)) (exF (sliceLF (getAny 5) none (some (intF 1))))))])]) (boolF false)) (retF (boolF false)) passF)
  (seqF (assignF 9 (callF F106 [(getAny 5)]))
  (seqF (assignF 10 (callF joinV [(strF ""), (exF (compE 35 (listIt (getFz 9)) (compG (tupU [35, 36]) yesF (emF (getFz 36)))))]))
  (seqF (forE (listIt (exF (listF [(strF ""), (strF "\\")]))) (nameU 11) (seqF (assignF 12 (callF F84 [(binF .Add (callF joinV [(strF ""), (getAny 5)]) (getAny 11))]))
  (seqF (assignF 13 (exF (addLF (getFz 9) (exF (compE 35 (strIt (getAny 11)) (compG (nameU 35) yesF (emF (tupF [(callF lenV [(getAny 10)]), (getAny 35)]))))))))
  (ifF (orL [(cmpF .NotEq (getAny 12) (binF .Add (getAny 10) (getAny 11))), (neDF (exF (compE 35 (genIt (getAny 12)) (compG (nameU 35) yesF (emF (getFz 35))))) (getAny 13))]) (retF (boolF false)) passF))))
  (seqF (assignF 14 (callF joinV [(strF ""), (exF (compE 35 (listIt (getFz 5)) (compG (nameU 35) yesF (emF (scF (subF (getAny 35) (intF 0)))))))]))
  (seqF (ifF (cmpF .NotEq (callF F28 [(sliceSF (getAny 14) (some (intF 1)) (some (unF .USub (intF 1)))), (getAny 14), (intF 4)]) (intF 4)) (retF (boolF false)) passF)
  (seqF (assignF 15 (callF lenV [(getAny 3)]))
  (seqF (assignN 16 (listF []))
  (seqF (assignN 17 (listF []))
  (seqF (forE (rangeF [(getAny 15)]) (nameU 18) (seqF (assignF 19 (exF (compE 35 (rangeF [(intF 1), (getAny 15)]) (compG (nameU 35) yesF (emF (cmp2F .LtE .Lt (subF (getAny 6) (getAny 35)) (subF (getAny 6) (getAny 18)) (subF (getAny 8) (getAny 35))))))))
  (seqF (appendF 16 (callF joinV [(strF ""), (exF (compE 35 (rangeF [(binF .Sub (getAny 15) (intF 1))]) (compG (nameU 35) yesF (emF (iteF (tstF (subF (getAny 19) (getAny 35))) (scF (subF (strF "ABCD") (getAny 35))) (scF (subF (strF "abcd") (getAny 35))))))))]))
  (appendF 17 (callF joinV [(strF ""), (exF (compE 35 (rangeF [(binF .Sub (getAny 15) (intF 1))]) (compG (nameU 35) (tstF (subF (getAny 19) (getAny 35))) (emF (scF (subF (strF "ABCD") (getAny 35)))))))])))))
  (seqF (ifF (neDF (callF F123 [(subF (getAny 16) (unF .USub (intF 1)))]) (exF (listF [(intF 4), (intF 4), (intF 4), (intF 2), (binF .Sub (binF .Mult (intF 2) (getAny 15)) (intF 2)), (binF .Sub (binF .Mult (intF 2) (getAny 15)) (intF 4)), (intF 2), (intF 100)]))) (retF (boolF false)) passF)
  (seqF (assignF 20 (binF .Add (intF 2) (binF .Mod (getAny 1) (intF 2401))))
  (seqF (assignF 21 (binF .Add (intF 1) (binF .LShift (binF .Add (intF 1) (binF .Mod (binF .FloorDiv (callF absV [(getAny 1)]) (intF 2401)) (binF .Pow (intF 10) (intF 1300)))) (binF .Add (getAny 20) (intF 1)))))
  (seqF (assign2N 22 (compE 35 (rangeF [(getAny 15)]) (compG (nameU 35) yesF (emN (compE 36 (rangeF [(getAny 15)]) (compG (nameU 36) yesF (emF (getFz 21))))))))
  (seqF (forE (rangeF [(getAny 15)]) (nameU 18) (forE (rangeF [(getAny 18)]) (nameU 23) (seqF (assignTF (tupU [24, 25]) (callF F118 [(getAny 3), (getAny 23), (getAny 18)]))
  (seqF (assignF 26 (callF F28 [(subF (getAny 16) (getAny 23)), (subF (getAny 16) (getAny 18)), (binF .Add (getAny 24) (getAny 25))]))
  (seqF (ifF (orL [(cmpF .NotEq (getAny 26) (binF .Add (getAny 24) (getAny 25))), (tstF (isboolF (getAny 26)))]) (retF (boolF false)) passF)
  (seqF (ifF (cmpF .NotEq (callF F28 [(subF (getAny 17) (getAny 18)), (subF (getAny 17) (getAny 23)), (binF .Sub (binF .Mult (intF 2) (callF maxV [(getAny 24), (getAny 25)])) (binF .Mod (binF .Add (getAny 23) (getAny 18)) (intF 2)))]) (binF .Mult (intF 2) (callF maxV [(getAny 24), (getAny 25)]))) (retF (boolF false)) passF)
  (seqF (set2F 22 (getAny 23) (getAny 18) (binF .Add (getAny 21) (callF F56 [(exF (mulLF (listF [(intF 1)]) (getAny 26))), (getAny 20)])))
  (set2F 22 (getAny 18) (getAny 23) (subF (subF (getAny 22) (getAny 23)) (getAny 18))))))))))
  (seqF (assignF 27 (binF .LShift (intF 1) (getAny 20)))
  (seqF (assignF 28 (intF 1))
  (seqF (forE (rangeF [(getAny 15)]) (nameU 29) (seqF (assignF 30 (scF (subF (subF (getAny 22) (getAny 29)) (getAny 29))))
  (seqF (assignF 31 (getFz 21))
  (seqF (ifF (cmpF .Gt (getAny 29) (intF 0)) (assignF 31 (binF .Mult (binF .Mult (binF .Pow (unF .USub (intF 1)) (getAny 29)) (binF .Pow (binF .Add (intF 1) (getAny 27)) (binF .Sub (getAny 29) (intF 1)))) (binF .Add (getAny 29) (binF .Mult (getAny 21) (binF .Sub (binF .Add (getAny 29) (intF 1)) (binF .Mult (binF .Sub (getAny 29) (intF 1)) (getAny 27))))))) passF)
  (seqF (ifF (cmpF .NotEq (getAny 30) (getAny 31)) (retF (boolF false)) passF)
  (seqF (forE (rangeF [(binF .Add (getAny 29) (intF 1)), (getAny 15)]) (nameU 23) (forE (rangeF [(getAny 23), (getAny 15)]) (nameU 18) (seqF (assignF 32 (binF .Sub (binF .Mult (subF (subF (getAny 22) (getAny 23)) (getAny 18)) (getAny 30)) (binF .Mult (subF (subF (getAny 22) (getAny 23)) (getAny 29)) (subF (subF (getAny 22) (getAny 29)) (getAny 18)))))
  (seqF (ifF (cmpF .Gt (getAny 29) (intF 0)) (seqF (assignF 33 (binF .Mod (binF .Add (intF 5) (getAny 1)) (getAny 28)))
  (seqF (assignF 34 (callF G [(binF .Add (getAny 32) (getAny 33)), (getAny 28)]))
  (seqF (ifF (orL [(neDF (getAny 34) (tupF [(subF (getAny 34) (intF 0)), (getAny 33)])), (cmpF .NotEq (binF .Mult (subF (getAny 34) (intF 0)) (getAny 28)) (getAny 32))]) (retF (boolF false)) passF)
  (assignF 32 (scF (subF (getAny 34) (intF 0))))))) passF)
  (seqF (set2F 22 (getAny 23) (getAny 18) (getAny 32))
  (set2F 22 (getAny 18) (getAny 23) (getAny 32)))))))
  (assignF 28 (getFz 30))))))))
  (retF (boolF true)))))))))))))))))))))))))))
theorem sx128 {D : Dt} (hD : DD D) {G : List PV → Option PV} (hG : Cn D 300 (.ref 70) G) : Sx D 300 (sctOf (fdAt D.w.params 128)) vars128 (bodyAt D.w.params 128) (f128 G) :=
  (sx_cons (s1_assign 1 rfl rfl (ex_call cn_sum (hD.bv rfl (by decide) rfl) (.inl ⟨_, rfl⟩) (Nat.zero_le _) (argsX_cons (ex_name 0 rfl) .nil) rfl))
  (sx_cons (s1_assign 2 rfl rfl (ex_call (cn96 hD) (hD.gv rfl) (.inr (.inr ⟨_, _, rfl, hD.f (by decide)⟩)) (by exact Nat.le_of_ble_eq_true rfl) (argsX_cons (ex_name 0 rfl) .nil) rfl))
  (sx_cons (s1_assignN 3 rfl rfl (exn_list (argsC_cons ex_int .nil)))
  (sx_cons (s1_for (it_list (ex_nameC 2 rfl)) (tg_name 4 rfl rfl) (sx_one (s1_append 3 rfl (ex_bin ex_int (ex_bin (ex_name 4 rfl) (ex_bin (ex_sub (ex_name 3 rfl) (ex_un ex_int)) ex_int))) (hi := (fun _ h => by unfold interactive; rw [h.1]; rfl)))))
  (sx_cons (s1_assignT (.cons rfl rfl (.cons rfl rfl (.cons rfl rfl .nil))) (ex_call (cn101 hD) (hD.gv rfl) (.inr (.inr ⟨_, _, rfl, hD.f (by decide)⟩)) (by decide) (argsX_cons (ex_name 2 rfl) (argsX_cons (ex_name 3 rfl) .nil)) rfl))
  (sx_cons (s1_assign 8 rfl rfl (ex_n (exn_comp (R := fun _ _ => True) (N := fun _ _ => True) (vars' := [none, none, none, none, none, some ("row" : Str), none, none, none, none, none, none, none, none, none, none, none, none, none, none, none, none, none, none, none, none, none, none, none, none, none, none, none, none, none, some ("place" : Str)]) (it_list (ex_nameC 6 rfl)) rfl (loop_one (tc_name 35 rfl rfl) if_none (fun _ => em_plain (k := .cl) (ex_call (cn113 hD) (hD.gv rfl) (.inr (.inr ⟨_, _, rfl, hD.f (by decide)⟩)) (by decide) (argsX_cons (ex_name 5 rfl) (argsX_cons (ex_name 35 rfl) .nil)) rfl) fun _ _ h => ⟨h, trivial⟩)))) (fun _ h => by unfold swapsWith Env.blockKind Env.kindOf; rw [h.1]; rfl))
  (sx_cons (s1_if (tx_or (.cons (tx_neD (ex_name 8 rfl) (ex_name 7 rfl)) (.cons (tx_cmp (ex_call (cn91 hD) (hD.gv rfl) (.inr (.inr ⟨_, _, rfl, hD.f (by decide)⟩)) (by decide) (argsX_cons (ex_join ex_str (ex_nr (exn_sliceL (ex_name 5 rfl) .none (.some (ex_un ex_int))))) .nil) rfl) ex_bool) .nil))) (sx_one (s1_ret ex_bool)) sx_nil)
  (sx_cons (s1_if (tx_cmp (ex_call (cn91 hD) (hD.gv rfl) (.inr (.inr ⟨_, _, rfl, hD.f (by decide)⟩)) (by decide) (argsX_cons (ex_join ex_str (ex_nr (exn_add (ex_n (exn_sliceL (ex_name 5 rfl) (.some ex_int) .none)) (ex_n (exn_sliceL (ex_name 5 rfl) .none (.some ex_int)))))) .nil) rfl) ex_bool) (sx_one (s1_ret ex_bool)) sx_nil)
  (sx_cons (s1_assign 9 rfl rfl (ex_call (cn106 hD) (hD.gv rfl) (.inr (.inr ⟨_, _, rfl, hD.f (by decide)⟩)) (by decide) (argsX_cons (ex_name 5 rfl) .nil) rfl))
  (sx_cons (s1_assign 10 rfl rfl (ex_join ex_str (ex_nr (exn_comp (R := fun _ _ => True) (N := fun _ _ => True) (vars' := [none, none, none, none, none, none, none, none, none, none, none, none, none, none, none, none, none, none, none, none, none, none, none, none, none, none, none, none, none, none, none, none, none, none, none, some ("place" : Str), some ("unit" : Str)]) (it_list (ex_nameC 9 rfl)) rfl (loop_one (tc_tup (.cons rfl rfl (.cons rfl rfl .nil))) if_none (fun _ => em_plain (k := .cl) (ex_nameC 36 rfl) fun _ _ h => ⟨h, trivial⟩))))))
  (sx_cons (s1_for (it_list (ex_n (exn_list (argsC_cons ex_str (argsC_cons ex_str .nil))))) (tg_name 11 rfl rfl) (sx_cons (s1_assign 12 rfl rfl (ex_call (cn84 hD) (hD.gv rfl) (.inr (.inr ⟨_, _, rfl, hD.f (by decide)⟩)) (by decide) (argsX_cons (ex_bin (ex_join ex_str (ex_name 5 rfl)) (ex_name 11 rfl)) .nil) rfl))
  (sx_cons (s1_assign 13 rfl rfl (ex_n (exn_add (ex_nameC 9 rfl) (ex_n (exn_comp (R := fun _ _ => True) (N := fun _ _ => True) (vars' := [none, none, none, none, none, none, none, none, none, none, some ("bare" : Str), none, none, none, none, none, none, none, none, none, none, none, none, none, none, none, none, none, none, none, none, none, none, none, none, some ("sign" : Str)]) (it_str (ex_name 11 rfl)) rfl (loop_one (tc_name 35 rfl rfl) if_none (fun _ => em_plain (k := .cl) (ex_tup (argsX_cons (ex_call cn_len (hD.bv rfl (by decide) rfl) (.inl ⟨_, rfl⟩) (Nat.zero_le _) (argsX_cons (ex_name 10 rfl) .nil) rfl) (argsX_cons (ex_name 35 rfl) .nil))) fun _ _ h => ⟨h, trivial⟩)))))))
  (sx_one (s1_if (tx_or (.cons (tx_cmp (ex_name 12 rfl) (ex_bin (ex_name 10 rfl) (ex_name 11 rfl))) (.cons (tx_neD (ex_nr (exn_comp (R := fun _ _ => True) (N := fun _ _ => True) (vars' := [none, none, none, none, none, none, none, none, none, none, none, none, none, none, none, none, none, none, none, none, none, none, none, none, none, none, none, none, none, none, none, none, none, none, none, some ("pair" : Str)]) (it_gen hD (ex_name 12 rfl) (hD.gv rfl) rfl (by decide)) rfl (loop_one (tc_name 35 rfl rfl) if_none (fun _ => em_plain (k := .cl) (ex_nameC 35 rfl) fun _ _ h => ⟨h, trivial⟩)))) (ex_name 13 rfl)) .nil))) (sx_one (s1_ret ex_bool)) sx_nil)))))
  (sx_cons (s1_assign 14 rfl rfl (ex_join ex_str (ex_nr (exn_comp (R := fun _ _ => True) (N := fun _ _ => True) (vars' := [none, none, none, none, none, none, none, none, none, none, none, none, none, none, none, none, none, none, none, none, none, none, none, none, none, none, none, none, none, none, none, none, none, none, none, some ("cell" : Str)]) (it_list (ex_nameC 5 rfl)) rfl (loop_one (tc_name 35 rfl rfl) if_none (fun _ => em_plain (k := .cl) (Ex.ofSc (ex_sub (ex_name 35 rfl) ex_int)) fun _ _ h => ⟨h, trivial⟩))))))
  (sx_cons (s1_if (tx_cmp (ex_call (cn28 hD) (hD.gv rfl) (.inr (.inr ⟨_, _, rfl, hD.f (by decide)⟩)) (by decide) (argsX_cons (ex_sliceS (ex_name 14 rfl) (.some ex_int) (.some (ex_un ex_int))) (argsX_cons (ex_name 14 rfl) (argsX_cons ex_int .nil))) rfl) ex_int) (sx_one (s1_ret ex_bool)) sx_nil)
  (sx_cons (s1_assign 15 rfl rfl (ex_call cn_len (hD.bv rfl (by decide) rfl) (.inl ⟨_, rfl⟩) (Nat.zero_le _) (argsX_cons (ex_name 3 rfl) .nil) rfl))
  (sx_cons (s1_assignN 16 rfl rfl (exn_list .nil))
  (sx_cons (s1_assignN 17 rfl rfl (exn_list .nil))
  (sx_cons (s1_for (itE_range (argsX_cons (ex_name 15 rfl) .nil) (hD.bv rfl (by decide) rfl) rfl) (tg_name 18 rfl rfl) (sx_cons (s1_assign 19 rfl rfl (ex_n (exn_comp (R := fun _ _ => True) (N := fun _ _ => True) (vars' := [none, none, none, none, none, none, some ("places" : Str), none, some ("ends" : Str), none, none, none, none, none, none, none, none, none, some ("j" : Str), none, none, none, none, none, none, none, none, none, none, none, none, none, none, none, none, some ("k" : Str)]) (itE_range (argsX_cons ex_int (argsX_cons (ex_name 15 rfl) .nil)) (hD.bv rfl (by decide) rfl) rfl) rfl (loop_one (tc_name 35 rfl rfl) if_none (fun _ => em_plain (k := .cl) (ex_cmp2 (ex_sub (ex_name 6 rfl) (ex_name 35 rfl)) (ex_sub (ex_name 6 rfl) (ex_name 18 rfl)) (ex_sub (ex_name 8 rfl) (ex_name 35 rfl))) fun _ _ h => ⟨h, trivial⟩)))) (fun _ h => by unfold swapsWith Env.blockKind Env.kindOf; rw [h.1]; rfl))
  (sx_cons (s1_append 16 rfl (ex_join ex_str (ex_nr (exn_comp (R := fun _ _ => True) (N := fun _ _ => True) (vars' := [none, none, none, none, none, none, none, none, none, none, none, none, none, none, none, none, none, none, none, some ("holds" : Str), none, none, none, none, none, none, none, none, none, none, none, none, none, none, none, some ("k" : Str)]) (itE_range (argsX_cons (ex_bin (ex_name 15 rfl) ex_int) .nil) (hD.bv rfl (by decide) rfl) rfl) rfl (loop_one (tc_name 35 rfl rfl) if_none (fun _ => em_plain (k := .cl) (ex_ite (tx_plain (ex_sub (ex_name 19 rfl) (ex_name 35 rfl))) (Ex.ofSc (ex_sub ex_str (ex_name 35 rfl))) (Ex.ofSc (ex_sub ex_str (ex_name 35 rfl)))) fun _ _ h => ⟨h, trivial⟩))))) (hi := (fun _ h => by unfold interactive; rw [h.1]; rfl)))
  (sx_one (s1_append 17 rfl (ex_join ex_str (ex_nr (exn_comp (R := fun _ _ => True) (N := fun _ _ => True) (vars' := [none, none, none, none, none, none, none, none, none, none, none, none, none, none, none, none, none, none, none, some ("holds" : Str), none, none, none, none, none, none, none, none, none, none, none, none, none, none, none, some ("k" : Str)]) (itE_range (argsX_cons (ex_bin (ex_name 15 rfl) ex_int) .nil) (hD.bv rfl (by decide) rfl) rfl) rfl (loop_one (tc_name 35 rfl rfl) (if_one (tx_plain (ex_sub (ex_name 19 rfl) (ex_name 35 rfl)))) (fun _ => em_plain (k := .cl) (Ex.ofSc (ex_sub ex_str (ex_name 35 rfl))) fun _ _ h => ⟨h, trivial⟩))))) (hi := (fun _ h => by unfold interactive; rw [h.1]; rfl)))))))
  (sx_cons (s1_if (tx_neD (ex_call (cn123 hD) (hD.gv rfl) (.inr (.inr ⟨_, _, rfl, hD.f (by decide)⟩)) (by decide) (argsX_cons (ex_sub (ex_name 16 rfl) (ex_un ex_int)) .nil) rfl) (ex_nr (exn_list (argsC_cons ex_int (argsC_cons ex_int (argsC_cons ex_int (argsC_cons ex_int (argsC_cons (ex_bin (ex_bin ex_int (ex_name 15 rfl)) ex_int) (argsC_cons (ex_bin (ex_bin ex_int (ex_name 15 rfl)) ex_int) (argsC_cons ex_int (argsC_cons ex_int .nil))))))))))) (sx_one (s1_ret ex_bool)) sx_nil)
  (sx_cons (s1_assign 20 rfl rfl (ex_bin ex_int (ex_bin (ex_name 1 rfl) ex_int)))
  (sx_cons (s1_assign 21 rfl rfl (ex_bin ex_int (ex_bin (ex_bin ex_int (ex_bin (ex_bin (ex_call cn_abs (hD.bv rfl (by decide) rfl) (.inl ⟨_, rfl⟩) (Nat.zero_le _) (argsX_cons (ex_name 1 rfl) .nil) rfl) ex_int) (ex_bin ex_int ex_int))) (ex_bin (ex_name 20 rfl) ex_int))))
  (sx_cons (s1_compT (vars' := [none, none, none, none, none, none, none, none, none, none, none, none, none, none, none, some ("nodes" : Str), none, none, none, none, none, some ("z" : Str), none, none, none, none, none, none, none, none, none, none, none, none, none, some ("i" : Str)]) 22 rfl rfl (itE_range (argsX_cons (ex_name 15 rfl) .nil) (hD.bv rfl (by decide) rfl) rfl) rfl (loop_one (tc_name 35 rfl rfl) if_none (fun _ => em_rows (exn_comp (R := fun _ _ => True) (N := fun _ _ => True) (vars' := [none, none, none, none, none, none, none, none, none, none, none, none, none, none, none, none, none, none, none, none, none, some ("z" : Str), none, none, none, none, none, none, none, none, none, none, none, none, none, none, some ("j" : Str)]) (itE_range (argsX_cons (ex_name 15 rfl) .nil) (hD.bv rfl (by decide) rfl) rfl) rfl (loop_one (tc_name 36 rfl rfl) if_none (fun _ => em_plain (k := .cl) (ex_nameC 21 rfl) fun _ _ h => ⟨h, trivial⟩))))) (fun _ h => by unfold swapsWith Env.blockKind Env.kindOf; rw [h.1]; rfl))
  (sx_cons (s1_for (itE_range (argsX_cons (ex_name 15 rfl) .nil) (hD.bv rfl (by decide) rfl) rfl) (tg_name 18 rfl rfl) (sx_one (s1_for (itE_range (argsX_cons (ex_name 18 rfl) .nil) (hD.bv rfl (by decide) rfl) rfl) (tg_name 23 rfl rfl) (sx_cons (s1_assignT (.cons rfl rfl (.cons rfl rfl .nil)) (ex_call (cn118 hD) (hD.gv rfl) (.inr (.inr ⟨_, _, rfl, hD.f (by decide)⟩)) (by decide) (argsX_cons (ex_name 3 rfl) (argsX_cons (ex_name 23 rfl) (argsX_cons (ex_name 18 rfl) .nil))) rfl))
  (sx_cons (s1_assign 26 rfl rfl (ex_call (cn28 hD) (hD.gv rfl) (.inr (.inr ⟨_, _, rfl, hD.f (by decide)⟩)) (by decide) (argsX_cons (ex_sub (ex_name 16 rfl) (ex_name 23 rfl)) (argsX_cons (ex_sub (ex_name 16 rfl) (ex_name 18 rfl)) (argsX_cons (ex_bin (ex_name 24 rfl) (ex_name 25 rfl)) .nil))) rfl))
  (sx_cons (s1_if (tx_or (.cons (tx_cmp (ex_name 26 rfl) (ex_bin (ex_name 24 rfl) (ex_name 25 rfl))) (.cons (tx_plain (ex_isbool (ex_name 26 rfl) (hD.bv rfl (by decide) rfl) (hD.bv rfl (by decide) rfl) rfl rfl)) .nil))) (sx_one (s1_ret ex_bool)) sx_nil)
  (sx_cons (s1_if (tx_cmp (ex_call (cn28 hD) (hD.gv rfl) (.inr (.inr ⟨_, _, rfl, hD.f (by decide)⟩)) (by decide) (argsX_cons (ex_sub (ex_name 17 rfl) (ex_name 18 rfl)) (argsX_cons (ex_sub (ex_name 17 rfl) (ex_name 23 rfl)) (argsX_cons (ex_bin (ex_bin ex_int (ex_call cn_max (hD.bv rfl (by decide) rfl) (.inl ⟨_, rfl⟩) (Nat.zero_le _) (argsX_cons (ex_name 24 rfl) (argsX_cons (ex_name 25 rfl) .nil)) rfl)) (ex_bin (ex_bin (ex_name 23 rfl) (ex_name 18 rfl)) ex_int)) .nil))) rfl) (ex_bin ex_int (ex_call cn_max (hD.bv rfl (by decide) rfl) (.inl ⟨_, rfl⟩) (Nat.zero_le _) (argsX_cons (ex_name 24 rfl) (argsX_cons (ex_name 25 rfl) .nil)) rfl))) (sx_one (s1_ret ex_bool)) sx_nil)
  (sx_cons (s1_setitem2 22 rfl (ex_name 23 rfl) (ex_name 18 rfl) (ex_bin (ex_name 21 rfl) (ex_call (cn56 hD) (hD.gv rfl) (.inr (.inr ⟨_, _, rfl, hD.f (by decide)⟩)) (by decide) (argsX_cons (ex_nr (exn_mul (exn_list (argsC_cons ex_int .nil)) (ex_name 26 rfl))) (argsX_cons (ex_name 20 rfl) .nil)) rfl)))
  (sx_one (s1_setitem2 22 rfl (ex_name 18 rfl) (ex_name 23 rfl) (ex_sub (ex_sub (ex_name 22 rfl) (ex_name 23 rfl)) (ex_name 18 rfl))))))))))))
  (sx_cons (s1_assign 27 rfl rfl (ex_bin ex_int (ex_name 20 rfl)))
  (sx_cons (s1_assign 28 rfl rfl ex_int)
  (sx_cons (s1_for (itE_range (argsX_cons (ex_name 15 rfl) .nil) (hD.bv rfl (by decide) rfl) rfl) (tg_name 29 rfl rfl) (sx_cons (s1_assign 30 rfl rfl (Ex.ofSc (ex_sub (ex_sub (ex_name 22 rfl) (ex_name 29 rfl)) (ex_name 29 rfl))))
  (sx_cons (s1_assign 31 rfl rfl (ex_nameC 21 rfl))
  (sx_cons (s1_if (tx_cmp (ex_name 29 rfl) ex_int) (sx_one (s1_assign 31 rfl rfl (ex_bin (ex_bin (ex_bin (ex_un ex_int) (ex_name 29 rfl)) (ex_bin (ex_bin ex_int (ex_name 27 rfl)) (ex_bin (ex_name 29 rfl) ex_int))) (ex_bin (ex_name 29 rfl) (ex_bin (ex_name 21 rfl) (ex_bin (ex_bin (ex_name 29 rfl) ex_int) (ex_bin (ex_bin (ex_name 29 rfl) ex_int) (ex_name 27 rfl)))))))) sx_nil)
  (sx_cons (s1_if (tx_cmp (ex_name 30 rfl) (ex_name 31 rfl)) (sx_one (s1_ret ex_bool)) sx_nil)
  (sx_cons (s1_for (itE_range (argsX_cons (ex_bin (ex_name 29 rfl) ex_int) (argsX_cons (ex_name 15 rfl) .nil)) (hD.bv rfl (by decide) rfl) rfl) (tg_name 23 rfl rfl) (sx_one (s1_for (itE_range (argsX_cons (ex_name 23 rfl) (argsX_cons (ex_name 15 rfl) .nil)) (hD.bv rfl (by decide) rfl) rfl) (tg_name 18 rfl rfl) (sx_cons (s1_assign 32 rfl rfl (ex_bin (ex_bin (ex_sub (ex_sub (ex_name 22 rfl) (ex_name 23 rfl)) (ex_name 18 rfl)) (ex_name 30 rfl)) (ex_bin (ex_sub (ex_sub (ex_name 22 rfl) (ex_name 23 rfl)) (ex_name 29 rfl)) (ex_sub (ex_sub (ex_name 22 rfl) (ex_name 29 rfl)) (ex_name 18 rfl)))))
  (sx_cons (s1_if (tx_cmp (ex_name 29 rfl) ex_int) (sx_cons (s1_assign 33 rfl rfl (ex_bin (ex_bin ex_int (ex_name 1 rfl)) (ex_name 28 rfl)))
  (sx_cons (s1_assign 34 rfl rfl (ex_call hG (hD.gv rfl) (.inr (.inr ⟨_, _, rfl, hD.f (by decide)⟩)) (Nat.le_refl _) (argsX_cons (ex_bin (ex_name 32 rfl) (ex_name 33 rfl)) (argsX_cons (ex_name 28 rfl) .nil)) rfl))
  (sx_cons (s1_if (tx_or (.cons (tx_neD (ex_name 34 rfl) (ex_tup (argsX_cons (ex_sub (ex_name 34 rfl) ex_int) (argsX_cons (ex_name 33 rfl) .nil)))) (.cons (tx_cmp (ex_bin (ex_sub (ex_name 34 rfl) ex_int) (ex_name 28 rfl)) (ex_name 32 rfl)) .nil))) (sx_one (s1_ret ex_bool)) sx_nil)
  (sx_one (s1_assign 32 rfl rfl (Ex.ofSc (ex_sub (ex_name 34 rfl) ex_int))))))) sx_nil)
  (sx_cons (s1_setitem2 22 rfl (ex_name 23 rfl) (ex_name 18 rfl) (ex_name 32 rfl))
  (sx_one (s1_setitem2 22 rfl (ex_name 18 rfl) (ex_name 23 rfl) (ex_name 32 rfl)))))))))
  (sx_one (s1_assign 28 rfl rfl (ex_nameC 30 rfl)))))))))
  (sx_one (s1_ret ex_bool)))))))))))))))))))))))))))

end Mine
end
section
set_option maxRecDepth 100000
set_option maxHeartbeats 8000000
namespace Mine
noncomputable def F128 : List PV → Option PV := funF 1 (f128 F70)
theorem cn128 {D : Dt} (hD : DD D) : Cn D (300 + 1) (.ref 128) F128 :=
  cn_fun (fd := fdAt D.w.params 128) (ps := ["script"]) (vars := vars128) (hD.f (by exact List.mem_of_elem_eq_true rfl)) rfl rfl rfl (of_len1 fun _ => rfl) fun h => sx128 (hD.at h) (cn70' (hD.at h))

theorem mg_eq {h : Heap} {mg : Str → Option Value} (X : SaysGl h) (n : h.Ns mainGlobals mg) : ∀ x ∈ gl, mg x.1 = x.2 := fun x hx => by
  obtain ⟨o, es, k, e, d, g⟩ := X
  obtain ⟨o1, es1, ep1, e1, d1, _, r1⟩ := n
  have : o1 = o := Option.some.inj (e1.symm.trans e)
  subst this
  rw [d] at d1; cases d1
  rw [← r1 x.1]; exact g x hx
theorem tab_of {h : Heap} {p q : Program} {l : List Str} {mean : ExcName → Option Value} {mg mb : Str → Option Value} {d : DefRec} {a c P : Addr} {fd : FuncData} {w : World} (T : Top p l mean mg mb h) (hd : d ∈ recsOf p) (hm : mg d.name = some (.ref a)) (hf : ∃ o, h.get? a = some o ∧ o.data = .func fd) (hc : fd.code = .ref c) (ht : SaysTab h c (.ref P)) :
    CodeHd h c P ∧ h.get? P = some (tabObj #[]) := by
  obtain ⟨a', o, fd', c', P', h1, h2, h3, h4, h5, h6⟩ := T.tab d hd
  rw [hm] at h1; cases h1
  obtain ⟨o2, g1, g2⟩ := hf
  rw [h2] at g1; cases g1
  rw [h3] at g2; cases g2
  rw [hc] at h4; cases h4
  have hh := CodeHd.of h5 h6
  obtain ⟨⟨o3, vs3, e1, e2, e3, e4⟩, e5⟩ := id h6
  obtain ⟨o4, vs4, f1, f2, f3⟩ := ht
  rw [e1] at f1; cases f1
  rw [e3] at f2; cases f2
  rw [e4] at f3; cases f3
  exact ⟨hh, e5⟩

theorem dt_ok {w : World} {mean : ExcName → Option Value} {s : Shared} {mg mb : Str → Option Value} {p : Program} {q : Program} {l : List Str} (X : ∀ a ∈ fnAddrs, SaysFn w.params s.heap a) (T : Top p l mean mg mb s.heap) (H : TabsAt [(48, 44), (55, 51)] s.heap) :
    DtOk ⟨q, w, tbs w.params, s.heap, mg, mb, fun a => if a ∈ fnAddrs then some (fdAt w.params a) else none⟩ := by
  refine ⟨T.g, T.b, T.builtins, T.nolimit, fun t ht => ?_, ?_, fun a fd hf => ?_⟩
  · have h : t = ⟨44, 48, (defPos ((bodyAt w.params 49).drop 1)).line, (defPos ((bodyAt w.params 49).drop 1)).col, "_int2digits.<locals>.inner"⟩ ∨ t = ⟨51, 55, (defPos (bodyAt w.params 56)).line, (defPos (bodyAt w.params 56)).col, "_digits2int.<locals>.inner"⟩ := by
      have ht' : t ∈ tbs w.params := ht
      unfold tbs at ht'
      rcases List.mem_cons.mp ht' with h | h
      · exact .inl h
      · exact .inr (List.mem_singleton.mp h)
    rcases h with rfl | rfl
    · exact ⟨(H _ (.head _)).1, .inl (H _ (.head _)).2⟩
    · exact ⟨(H _ (.tail _ (.head _))).1, .inl (H _ (.tail _ (.head _))).2⟩
  · obtain ⟨bm, ob, h1, h2, h3, h4, h5, h6⟩ := T.bmain
    refine ⟨bm, ob, h1, h2, ?_, h3, h4, h5, h6⟩
    rintro rfl
    obtain ⟨o, es, ep, e, d, _⟩ := T.g
    have := e.symm.trans h3
    cases this
    rw [d] at h6; cases h6
  · have hf' : (if a ∈ fnAddrs then some (fdAt w.params a) else none) = some fd := hf
    split at hf'
    · rename_i hm
      cases hf'
      obtain ⟨o, c, oc, vs, t, h1, h2, h3, h4, h5, h6⟩ := X a hm
      exact ⟨o, h1, h2, c, oc, vs, t, h3, h4, h5, h6⟩
    · cases hf'

theorem oldK_of {D : Dt} {s s' : Shared} (H : TabOk D.T s.heap) (he : ∀ t ∈ D.T, s.heap.get? t.P = some (tabObj #[])) (g : Grow D.T s s') : OldK s.heap s'.heap := by
  refine ⟨fun b o e => ?_, fun b o e => g.exAll H e⟩
  by_cases m : TA D.T b
  · obtain ⟨t, ht, rfl⟩ := m
    have e1 := he t ht
    rw [e] at e1; cases e1
    have hc : isCodeTable s.heap t.P := by
      obtain ⟨⟨o, vs, file, tf, flags, tg, inF, text, tt, h1, h2, h3, h4, _⟩, _⟩ := H t ht
      exact ⟨_, o, vs, h1, h2, h3, h4⟩
    rcases (g.tab t ht).2 with e2 | ⟨c', e2, _⟩
    · exact .inl e2
    · exact .inr (.inl ⟨hc, rfl, #[], _, rfl, by rw [e2, Array.empty_append]⟩)
  · exact .inl (g.kp b o m id e)

theorem denL_intsA {h : Heap} {P : Addr → Prop} : ∀ {vs : List Value} {ns : List Int}, IntsAre vs ns → DenL P h (ns.map .int) vs
  | [], [], _ => by exact rfl
  | [], _ :: _, h => nomatch h
  | v :: vs, ns, hI => by
    cases hI
    simp only [List.map_cons, DenL]
    exact ⟨_, _, rfl, den_int, denL_intsA (by assumption)⟩

theorem tbs_empty {P : Params} {h : Heap} (H : TabsAt [(48, 44), (55, 51)] h) : ∀ t ∈ tbs P, h.get? t.P = some (tabObj #[]) := fun t ht => by
  unfold tbs at ht
  rcases List.mem_cons.mp ht with rfl | ht
  · exact (H _ (.head _)).2
  · rcases List.mem_singleton.mp ht with rfl
    exact (H _ (.tail _ (.head _))).2

theorem post_ok (R : WRecords) (e : WCtx) (he : e.res = some (.bool true)) : (WShape.has R (.bool true) .bool && (WTm.eq .res (.lit (.bool true))).holds R e) = true := by
  have h1 : (WTm.eq .res (.lit (.bool true))).value R e = some (.bool (true == true)) := w_eq_bool (by simp only [WTm.value]; exact he) (by simp [WTm.value, ofPy])
  unfold WTm.holds
  rw [h1]
  rfl
theorem gl_mem {id : Str} {v : Option Value} (h : gl.lookup id = some v) : (id, v) ∈ gl := mem_of_lookup h
theorem gl49 : ((recOfSt (stAt 10)).name, some (Value.ref 49)) ∈ gl := gl_mem rfl
theorem gl56 : ((recOfSt (stAt 11)).name, some (Value.ref 56)) ∈ gl := gl_mem rfl
theorem glLaw : (dLaw.name, some (Value.ref 128)) ∈ gl := gl_mem rfl
theorem mem_of_get {α : Type} {l : List α} {i : Nat} {a : α} (h : l[i]? = some a) : a ∈ l := List.mem_of_getElem? h
theorem mem49 : recOfSt (stAt 10) ∈ recsOf qv := mem_of_get (i := 4) (by kernel_rfl)
theorem mem56 : recOfSt (stAt 11) ∈ recsOf qv := mem_of_get (i := 5) (by kernel_rfl)
theorem join (hlaw : ∀ ns : List Int, ns.length ≤ 63 → F128 [.list (ns.map .int)] = some (.bool true)) : PySem.Challenge.rw_rw0093_01.Holds := head (by
  intro w s₀ s₁ mg mb G Y fa o pm cd doc dV kV ho hdd hcd hD hmg hg args vals as hpre hlay hrd hwl hlo
  have X := (Ground.X G).1
  have V := (Ground.X G).2
  refine Ground.open G ?_
  intro T B D TE TW
  try (refine guard_noD D (by decide +kernel) ?_; clear D)
  obtain ⟨Y1, Y2, Y3, Y4⟩ := Y
  have hm := mg_eq Y4 T.g
  have r49 : recOfSt (stAt 10) ∈ recsOf qv := mem49
  have r56 : recOfSt (stAt 11) ∈ recsOf qv := mem56
  have hT9 : TabsAt [(48, 44), (55, 51)] s₁.heap := by
    intro x hx
    rcases List.mem_cons.mp hx with rfl | hx
    · exact tab_of (q := qv) (w := w) T r49 (hm _ gl49) (let ⟨o, c, oc, vs, t, h1, h2, _⟩ := Y1 49 (by decide); ⟨o, h1, h2⟩) rfl Y2
    · rcases List.mem_singleton.mp hx with rfl
      exact tab_of (q := qv) (w := w) T r56 (hm _ gl56) (let ⟨o, c, oc, vs, t, h1, h2, _⟩ := Y1 56 (by decide); ⟨o, h1, h2⟩) rfl Y3
  wrow_args hpre hlay hrd hwl hlo
  rename_i ns _ _ _ _ _ _ _ la vs _ hL _ _ _ hI _ hlen _
  have dt : DtOk ⟨PySem.Challenge.rw_rw0093_01.row.prog, w, tbs w.params, s₁.heap, mg, mb, fun a => if a ∈ fnAddrs then some (fdAt w.params a) else none⟩ := dt_ok Y1 T hT9
  have hDD : DD ⟨PySem.Challenge.rw_rw0093_01.row.prog, w, tbs w.params, s₁.heap, mg, mb, fun a => if a ∈ fnAddrs then some (fdAt w.params a) else none⟩ := ⟨rfl, hm, rfl⟩
  have hfa : fa = 128 := by
    have h3 := hmg.symm.trans (hm _ glLaw)
    cases h3; rfl
  subst hfa
  refine wpAny_mono (cn128 hDD callerA s₁ [.list (ns.map .int)] [.ref la] (.bool true) ⟨rfl, by decide, by decide⟩ dt (by simp only [DenL]; exact ⟨_, _, rfl, den_list trivial hL (denL_intsA hI), rfl⟩) (hlaw ns (by omega))) (fun r s' h => ?_) fun _ _ q => q.elim
  obtain ⟨gr, dr⟩ := h
  simp only [Den] at dr
  subst dr
  have K := oldK_of (D := ⟨PySem.Challenge.rw_rw0093_01.row.prog, w, tbs w.params, s₁.heap, mg, mb, fun a => if a ∈ fnAddrs then some (fdAt w.params a) else none⟩) dt.tab (fun t ht => tbs_empty hT9 t ht) gr
  refine ⟨.inl ⟨_, _, _, rfl, fun _ => rfl, .bool true, ?_, ?_⟩, K, gr.os, gr.gb ?_⟩
  · exact post_ok _ _ rfl
  · exact fun _ => ⟨.nil, fun a h => nomatch h⟩
  · exact .of_eq hg)
end Mine
end
section
namespace Mine

/-! whole numbers -/
theorem bits_nat (a : Nat) : bits (a : Int) = if a = 0 then 0 else a.log2 + 1 := by
  unfold bits Builtin.Int.intBits
  by_cases h : a = 0
  · subst h; rfl
  · have : ((a : Int) == 0) = false := by simpa using h
    simp [h]
theorem bits_le {a k : Nat} (h : a < 2 ^ k) : bits (a : Int) ≤ k := by
  rw [bits_nat]
  split
  · exact Nat.zero_le k
  · rename_i h0
    have := (Nat.log2_lt h0).mpr h
    exact Nat.succ_le_of_lt this
theorem lt_bits (a : Nat) : a < 2 ^ bits (a : Int) := by
  rw [bits_nat]
  split
  · rename_i h; subst h; exact Nat.two_pow_pos 0
  · exact Nat.lt_log2_self
theorem lt_of_bits {a k : Nat} (h : bits (a : Int) ≤ k) : a < 2 ^ k := Nat.lt_of_lt_of_le (lt_bits a) (Nat.pow_le_pow_right (by decide) h)
theorem bits_ge {a k : Nat} (h : 2 ^ k ≤ a) : k + 1 ≤ bits (a : Int) := by
  rw [bits_nat]
  have h0 : a ≠ 0 := by have := Nat.two_pow_pos k; omega
  rw [if_neg h0]
  have := (Nat.le_log2 h0).mpr h
  exact Nat.add_le_add_right this 1
theorem bits_pos {a : Nat} (h : 0 < a) : 1 ≤ bits (a : Int) := by
  rw [bits_nat, if_neg (by exact Nat.ne_zero_of_lt h)]; exact Nat.le_add_left 1 (Nat.log2 a)
theorem bits_low {a : Nat} (h : 0 < a) : 2 ^ (bits (a : Int) - 1) ≤ a := by
  rw [bits_nat, if_neg (by exact Nat.ne_zero_of_lt h)]
  exact Nat.log2_self_le (by exact Nat.ne_zero_of_lt h)

noncomputable abbrev LIM : Nat := 134217728
theorem v_add (a b : Nat) : intV .Add (a : Int) (b : Int) = some ((a + b : Nat) : Int) := by simp [intV]
theorem v_mul {a b : Nat} (h : bits (a : Int) + bits (b : Int) ≤ LIM) : intV .Mult (a : Int) (b : Int) = some ((a * b : Nat) : Int) := by
  show (if bits (a : Int) + bits (b : Int) ≤ 134217728 then some ((a : Int) * b) else none) = _
  rw [if_pos h]; simp
theorem v_shl {a b : Nat} (h : bits (a : Int) + b ≤ LIM) : intV .LShift (a : Int) (b : Int) = some ((a * 2 ^ b : Nat) : Int) := by
  show (if 0 ≤ (b : Int) ∧ (bits (a : Int) : Int) + (b : Int) ≤ 134217728 then some ((a : Int) * 2 ^ (b : Int).toNat) else none) = _
  rw [if_pos ⟨by exact Int.natCast_nonneg b, by have : LIM = 134217728 := rfl; exact Nat.ToInt.of_le rfl rfl h⟩]; simp
theorem v_shr (a b : Nat) : intV .RShift (a : Int) (b : Int) = some ((a / 2 ^ b : Nat) : Int) := by
  show (if 0 ≤ (b : Int) then some ((a : Int).fdiv (2 ^ (b : Int).toNat)) else none) = _
  rw [if_pos (by exact Int.natCast_nonneg b), Int.fdiv_eq_ediv_of_nonneg _ (Int.le_of_lt (Int.pow_pos (by decide)))]
  simp
theorem bitAnd_nat (a b : Nat) : Builtin.bitAnd (a : Int) (b : Int) = ((a &&& b : Nat) : Int) := by
  unfold Builtin.bitAnd
  have h1 : decide ((0 : Int) ≤ (a : Int)) = true := by exact rfl
  have h2 : decide ((0 : Int) ≤ (b : Int)) = true := by simp
  rw [h1, h2]
  simp
theorem v_and (a b : Nat) : intV .BitAnd (a : Int) (b : Int) = some ((a &&& b : Nat) : Int) := by
  show some (Builtin.bitAnd (a : Int) (b : Int)) = _
  rw [bitAnd_nat]
theorem v_mask (a h : Nat) : intV .BitAnd (a : Int) ((2 ^ h - 1 : Nat) : Int) = some ((a % 2 ^ h : Nat) : Int) := by
  rw [v_and, Nat.and_two_pow_sub_one_eq_mod]
theorem and_low {q h r : Nat} (hr : r < 2 ^ h) : (q * 2 ^ h) &&& r = 0 := by
  apply Nat.eq_of_testBit_eq
  intro i
  rw [Nat.testBit_and, Nat.zero_testBit, Nat.testBit_mul_two_pow]
  by_cases hi : i < h
  · simp; intro h1; omega
  · have : r.testBit i = false := Nat.testBit_lt_two_pow (Nat.lt_of_lt_of_le hr (Nat.pow_le_pow_right (by decide) (by exact Nat.le_of_not_lt hi)))
    simp [this]
theorem v_or {q h r : Nat} (hr : r < 2 ^ h) : intV .BitOr ((q * 2 ^ h : Nat) : Int) (r : Int) = some ((q * 2 ^ h + r : Nat) : Int) := by
  show some (Builtin.bitOr ((q * 2 ^ h : Nat) : Int) (r : Int)) = _
  rw [bitOr_and, bitAnd_nat, and_low hr]
  exact rfl
theorem and_high (x h : Nat) : x &&& (x / 2 ^ h * 2 ^ h) = x / 2 ^ h * 2 ^ h := by
  apply Nat.eq_of_testBit_eq
  intro i
  rw [Nat.testBit_and, Nat.testBit_mul_two_pow, Nat.testBit_div_two_pow]
  by_cases hi : h ≤ i
  · simp [hi, show i - h + h = i by exact Nat.sub_add_cancel hi]
  · simp [hi]
theorem v_xor (x h : Nat) : intV .BitXor (x : Int) ((x / 2 ^ h * 2 ^ h : Nat) : Int) = some ((x % 2 ^ h : Nat) : Int) := by
  show some (Builtin.bitXor (x : Int) ((x / 2 ^ h * 2 ^ h : Nat) : Int)) = _
  unfold Builtin.bitXor
  rw [bitOr_and, bitAnd_nat, and_high]
  congr 1
  have := Nat.div_add_mod x (2 ^ h)
  rw [Nat.mul_comm] at this
  omega
theorem v_divmod {a b : Nat} (hb : 0 < b) (h : bits (a : Int) ≤ bits (b : Int) + 4000) : divmodV [.int (a : Int), .int (b : Int)] = some (.tuple [.int ((a / b : Nat) : Int), .int ((a % b : Nat) : Int)]) := by
  have hp : Builtin.divisionGoesByPylong (a : Int) (b : Int) = false := by
    unfold Builtin.divisionGoesByPylong
    rw [bits_nat, bits_nat] at h
    have hb' : ((b : Int) == 0) = false := by simp; exact Nat.ne_zero_of_lt hb
    simp only [hb', Int.natAbs_natCast, Bool.false_eq_true, if_false]
    have hb0 : ¬ b = 0 := by exact Nat.ne_zero_of_lt hb
    rw [if_neg hb0] at h
    by_cases ha : a = 0
    · subst ha; exact (fun {x y} => Iff.mpr Bool.and_eq_false_imp) (congrFun rfl)
    · have ha' : ((a : Int) == 0) = false := by simpa using ha
      rw [if_neg ha] at h
      simp only [ha', Bool.false_eq_true, if_false, Bool.and_eq_false_iff, decide_eq_false_iff_not]
      right; grind
  unfold divmodV
  simp only
  rw [if_pos ⟨by omega, hp⟩, Int.fdiv_eq_ediv_of_nonneg _ (by exact Int.natCast_nonneg b), Int.fmod_eq_emod_of_nonneg _ (by exact Int.natCast_nonneg b)]
  simp
theorem bits_small {b : Nat} (h : b ≤ 1000000) : bits (b : Int) ≤ 20 := bits_le (Nat.lt_of_le_of_lt h (by decide))
theorem v_mulS {a b : Nat} (ha : a ≤ 1000000) (hb : b ≤ 1000000) : intV .Mult (a : Int) (b : Int) = some ((a * b : Nat) : Int) := v_mul (Nat.le_trans (Nat.add_le_add (bits_small ha) (bits_small hb)) (by decide))
theorem v_shlS {a b c : Nat} (ha : a < 2 ^ c) (h : c + b ≤ 1000000) : intV .LShift (a : Int) (b : Int) = some ((a * 2 ^ b : Nat) : Int) := v_shl (Nat.le_trans (Nat.le_trans (Nat.add_le_add_right (bits_le ha) b) h) (by decide))
theorem v_subL (a b : Nat) : intV .Sub ((a + b : Nat) : Int) (a : Int) = some (b : Int) := by
  show some (((a + b : Nat) : Int) - (a : Int)) = _
  rw [Int.natCast_add, Int.add_comm, Int.add_sub_cancel]
end Mine
end
section
namespace Mine

theorem upd_at (ρ : Rho) (i j : Nat) (sl : Slot) : upd ρ i sl j = if j = i then some sl else ρ j := rfl

noncomputable abbrev wh42 : Nat → Rho → Option Out := whileF (cmpF .Lt (getAny 7) (intF 0)) (seqF (augF 6 .Sub (intF 1)) (augF 7 .Add (getAny 2)))
theorem wh_sum (q b r : Int) : (q - 1) * b + (r + b) = q * b + r := by rw [Int.sub_mul, Int.one_mul]; omega
theorem wh_low {r b : Int} {k : Nat} (h : 0 ≤ r + ((k + 1 : Nat) : Int) * b) : 0 ≤ r + b + k * b := by
  rw [Int.natCast_add, Int.add_mul, Int.natCast_one, Int.one_mul, Int.add_comm (k * b), ← Int.add_assoc] at h; exact h
theorem wh42_ok {b : Nat} (hb : 0 < b) : ∀ (k : Nat) (ρ : Rho) (q r : Int), ρ 2 = some (.fz (.int b)) → ρ 6 = some (.fz (.int q)) → ρ 7 = some (.fz (.int r)) → r < b → 0 ≤ r + k * b →
    ∃ ρ' q' r', wh42 (k + 1) ρ = some (.next ρ') ∧ ρ' 6 = some (.fz (.int q')) ∧ ρ' 7 = some (.fz (.int r')) ∧ q' * b + r' = q * b + r ∧ 0 ≤ r' ∧ r' < b := by
  intro k
  induction k with
  | zero =>
    intro ρ q r h2 h6 h7 h1 h0
    rw [Int.natCast_zero, Int.zero_mul, Int.add_zero] at h0
    exact ⟨ρ, q, r, while_done (cmpLtI (getAny_fz h7) rfl (decide_eq_false (Int.not_lt.mpr h0))), h6, h7, rfl, h0, h1⟩
  | succ k ih =>
    intro ρ q r h2 h6 h7 h1 h0
    by_cases hr : r < 0
    · have := ih (upd (upd ρ 6 (.fz (.int (q - 1)))) 7 (.fz (.int (r + b)))) (q - 1) (r + b) h2 rfl rfl (by omega) (wh_low h0)
      rw [wh_sum] at this
      rw [show wh42 (k + 1 + 1) ρ = _ from while_more (cmpLtI (getAny_fz h7) rfl (decide_eq_true hr)) (seqN (aug_ok h6 rfl rfl (.inr (.inl rfl))) (aug_ok h7 (getAny_fz h2) rfl (.inl rfl)))]
      exact this
    · exact ⟨ρ, q, r, while_done (cmpLtI (getAny_fz h7) rfl (decide_eq_false hr)), h6, h7, rfl, Int.not_lt.mp hr, h1⟩

noncomputable abbrev rest42 : Rho → Option Out := seqF (assignF 7 (binF .Sub (binF .BitOr (binF .LShift (getAny 7) (getAny 5)) (getAny 1)) (binF .Mult (getAny 6) (getAny 4)))) (seqF (wh42 1000) (retF (tupF [(getAny 6), (getAny 7)])))

theorem div_unique {a b q r : Nat} (h : q * b + r = a) (hr : r < b) : q = a / b ∧ r = a % b := by
  subst h
  have hb : 0 < b := by exact Nat.zero_lt_of_lt hr
  rw [Nat.mul_comm]
  exact ⟨by rw [Nat.mul_add_div hb, Nat.div_eq_of_lt hr]; rfl, by rw [Nat.mul_add_mod, Nat.mod_eq_of_lt hr]⟩

theorem rest42_sum {q b1 b2 b r a3 t : Nat} (hb : b = b1 * t + b2) : (q : Int) * b + (((r * t + a3 : Nat) : Int) - ((q * b2 : Nat) : Int)) = (((q * b1 + r) * t + a3 : Nat) : Int) := by
  have : (q * b1 + r) * t + a3 + q * b2 = q * b + (r * t + a3) := by rw [hb, Nat.mul_add, Nat.add_mul, Nat.mul_assoc]; omega
  have := congrArg Int.ofNat this
  rw [← Int.natCast_mul]
  generalize q * b2 = x at this ⊢
  generalize q * b = y at this ⊢
  generalize (q * b1 + r) * t + a3 = z at this ⊢
  generalize r * t + a3 = w at this ⊢
  have e : (z : Int) + x = y + w := this
  omega
theorem rest42_ar {q' r' : Int} {b X : Nat} (h : q' * b + r' = (X : Int)) (h5 : 0 ≤ r') (h6 : r' < b) : q' = ((X / b : Nat) : Int) ∧ r' = ((X % b : Nat) : Int) := by
  have := (Int.ediv_emod_unique (Int.lt_of_le_of_lt h5 h6)).mpr ⟨(Int.add_comm _ _).trans ((congrArg (· + r') (Int.mul_comm _ _)).trans h), h5, h6⟩
  rw [Int.natCast_ediv, Int.natCast_emod]; exact ⟨this.1.symm, this.2.symm⟩
theorem rest42_low {x y b : Nat} (h : y ≤ 2 * b) : 0 ≤ ((x : Int) - (y : Int)) + (999 : Nat) * (b : Int) := by omega
theorem rest42_ok {ρ : Rho} {a3 b b1 b2 n q r : Nat} (h1 : ρ 1 = some (.fz (.int a3))) (h2 : ρ 2 = some (.fz (.int b))) (h4 : ρ 4 = some (.fz (.int b2))) (h5 : ρ 5 = some (.fz (.int n))) (h6 : ρ 6 = some (.fz (.int q))) (h7 : ρ 7 = some (.fz (.int r)))
    (hb : b = b1 * 2 ^ n + b2) (hb2 : b2 < 2 ^ n) (hb1 : 2 ^ n ≤ 2 * b1) (ha3 : a3 < 2 ^ n) (hq : q ≤ 2 ^ n) (hn : n ≤ 1000000) (hr : r < 2 ^ (n + 2)) (hlt : r * 2 ^ n + a3 < b + q * b2) :
    ((rest42 ρ).map outV) = some (.tuple [.int (((q * b1 + r) * 2 ^ n + a3) / b : Nat), .int (((q * b1 + r) * 2 ^ n + a3) % b : Nat)]) := by
  have hp := Nat.two_pow_pos n
  have hb0 : 0 < b := by
    rw [hb]; exact Nat.lt_of_lt_of_le (Nat.mul_pos (Nat.pos_of_ne_zero fun h => by rw [h] at hb1; exact Nat.not_le_of_gt hp hb1) hp) (Nat.le_add_right _ _)
  have s1 : intV .LShift (r : Int) (n : Int) = some ((r * 2 ^ n : Nat) : Int) := v_shl (Nat.le_trans (Nat.add_le_add (Nat.le_trans (bits_le hr) (Nat.add_le_add_right hn 2)) hn) (by decide))
  have s3 : intV .Mult (q : Int) (b2 : Int) = some ((q * b2 : Nat) : Int) := v_mul (Nat.le_trans (Nat.add_le_add (Nat.le_trans (bits_le (Nat.lt_of_le_of_lt hq (Nat.pow_lt_pow_right (by decide) (Nat.lt_succ_self n)))) (Nat.succ_le_succ hn)) (Nat.le_trans (bits_le hb2) hn)) (by decide))
  have hqb : q * b2 ≤ 2 * b := by
    refine Nat.le_trans (Nat.mul_le_mul hq (Nat.le_of_lt hb2)) (Nat.le_trans (Nat.mul_le_mul_right _ hb1) ?_)
    rw [Nat.mul_assoc, hb]; exact Nat.mul_le_mul_left 2 (Nat.le_add_right _ _)
  obtain ⟨ρ', q', r', w1, w2, w3, w4, w5, w6⟩ := wh42_ok hb0 999 (upd ρ 7 (.fz (.int (((r * 2 ^ n + a3 : Nat) : Int) - ((q * b2 : Nat) : Int))))) q (((r * 2 ^ n + a3 : Nat) : Int) - ((q * b2 : Nat) : Int)) h2 h6 rfl (by omega) (rest42_low hqb)
  rw [rest42_sum hb] at w4
  obtain ⟨rfl, rfl⟩ := rest42_ar w4 w5 w6
  rw [show rest42 ρ = _ from seqA (binI (binI (binI (getAny_fz h7) (getAny_fz h5) s1) (getAny_fz h1) (v_or ha3)) (binI (getAny_fz h6) (getAny_fz h4) s3) rfl) (seqN w1 (ret_ok (tupI (argsC (getAny_fz w2) (argsC (getAny_fz w3) rfl)) (Nat.le_of_ble_eq_true rfl) rfl)))]
  rfl
end Mine
end
section
namespace Mine

theorem v_one_shl {b : Nat} (h : b + 1 ≤ LIM) : intV .LShift 1 (b : Int) = some ((2 ^ b : Nat) : Int) := by
  have h1 : bits ((1 : Nat) : Int) = 1 := by exact rfl
  have := v_shl (a := 1) (b := b) (by rw [h1]; exact (fun {m n} => Iff.mpr Nat.one_add_le_iff) h)
  rw [Nat.one_mul] at this
  exact this
theorem v_sub1 {a : Nat} (h : 1 ≤ a) : intV .Sub (a : Int) 1 = some ((a - 1 : Nat) : Int) := by
  show some ((a : Int) - 1) = _
  congr 1; omega

theorem f42_eq {G : List PV → Option PV} : f42 G = seqF (ifF (cmpF .Eq (binF .RShift (getAny 0) (getAny 5)) (getAny 3)) (swapF [6, 7] (tupF [(binF .Sub (binF .LShift (intF 1) (getAny 5)) (intF 1)), (binF .Add (binF .Sub (getAny 0) (binF .LShift (getAny 3) (getAny 5))) (getAny 3))])) (assignTF (tupU [6, 7]) (callF G [(getAny 0), (getAny 3), (getAny 5)]))) rest42 := rfl

theorem f42_top {t s a12 a3 b b1 b2 : Nat} (ht : t = s + 1) (hb : b = b1 * t + b2) (h : a12 * t + a3 < b * t) (hr : b1 * t ≤ a12) : a12 = s * b1 + (a12 - b1 * t + b1) ∧ (a12 - b1 * t + b1) * t + a3 < b + s * b2 := by
  obtain ⟨m, rfl⟩ := Nat.exists_eq_add_of_le hr
  subst hb
  rw [Nat.add_sub_cancel_left]
  rw [Nat.add_mul, Nat.add_mul, Nat.add_assoc] at h
  have h := Nat.lt_of_add_lt_add_left h
  rw [Nat.add_mul]
  generalize hx : b1 * t = x
  subst ht
  rw [Nat.mul_succ, Nat.mul_comm b1 s] at hx
  rw [Nat.mul_succ b2, Nat.mul_comm b2 s] at h
  generalize s * b1 = u at hx ⊢
  generalize s * b2 = v at h ⊢
  generalize m * (s + 1) = w at h ⊢
  constructor <;> omega
theorem f42_r {t a b1 : Nat} (hc : a / t = b1) (hp : 0 < t) (hb1' : b1 < t) : b1 * t ≤ a ∧ a - b1 * t + b1 < t * 2 ^ 2 := by
  have h1 := Nat.div_add_mod a t
  have h2 := Nat.mod_lt a hp
  rw [hc, Nat.mul_comm] at h1
  omega
theorem f42_low {t r a3 b b1 y : Nat} (hr : r < b1) (ha : a3 < t) (hb : b1 * t ≤ b) : r * t + a3 < b + y := by
  have := Nat.mul_le_mul_right t (Nat.succ_le_of_lt hr)
  rw [Nat.succ_mul] at this; omega
theorem v_subN {a b : Nat} (h : b ≤ a) : intV .Sub (a : Int) (b : Int) = some ((a - b : Nat) : Int) := congrArg some (Int.ofNat_sub h).symm
theorem F42_ok {G : List PV → Option PV} {a12 a3 b b1 b2 n : Nat} (hb : b = b1 * 2 ^ n + b2) (hb2 : b2 < 2 ^ n) (hb1 : 2 ^ n ≤ 2 * b1) (hb1' : b1 < 2 ^ n) (ha3 : a3 < 2 ^ n) (ha : a12 * 2 ^ n + a3 < b * 2 ^ n) (hn : n ≤ 1000000)
    (hG : a12 < b1 * 2 ^ n → G [.int (a12 : Int), .int (b1 : Int), .int (n : Int)] = some (.tuple [.int ((a12 / b1 : Nat) : Int), .int ((a12 % b1 : Nat) : Int)])) :
    funF 6 (f42 G) [.int (a12 : Int), .int (a3 : Int), .int (b : Int), .int (b1 : Int), .int (b2 : Int), .int (n : Int)] = some (.tuple [.int (((a12 * 2 ^ n + a3) / b : Nat) : Int), .int (((a12 * 2 ^ n + a3) % b : Nat) : Int)]) := by
  have hp := Nat.two_pow_pos n
  show (f42 G _).map outV = _
  rw [f42_eq]
  have key : ∀ (q r : Nat) (ρ' : Rho), ρ' 1 = some (.fz (.int a3)) → ρ' 2 = some (.fz (.int b)) → ρ' 4 = some (.fz (.int b2)) → ρ' 5 = some (.fz (.int n)) → ρ' 6 = some (.fz (.int q)) → ρ' 7 = some (.fz (.int r)) → a12 = q * b1 + r → q ≤ 2 ^ n → r < 2 ^ n * 2 ^ 2 → r * 2 ^ n + a3 < b + q * b2 → ((rest42 ρ').map outV) = some (.tuple [.int (((a12 * 2 ^ n + a3) / b : Nat) : Int), .int (((a12 * 2 ^ n + a3) % b : Nat) : Int)]) := fun q r ρ' h1 h2 h4 h5 h6 h7 e hq hr hlt => by
    rw [e]; exact rest42_ok h1 h2 h4 h5 h6 h7 hb hb2 hb1 ha3 hq hn (by rw [Nat.pow_add]; exact hr) hlt
  have c1 : ∀ {x : Bool}, (((a12 / 2 ^ n : Nat) : Int) == (b1 : Int)) = x → cmpF .Eq (binF .RShift (getAny 0) (getAny 5)) (getAny 3) (parR [.int (a12 : Int), .int (a3 : Int), .int (b : Int), .int (b1 : Int), .int (b2 : Int), .int (n : Int)]) = some x := fun h => cmpEqI (binI rfl rfl (v_shr _ _)) rfl h
  by_cases hc : a12 / 2 ^ n = b1
  · obtain ⟨r0, r1⟩ := f42_r hc hp hb1'
    have hs : 2 ^ n = (2 ^ n - 1) + 1 := (Nat.sub_one_add_one_eq_of_pos hp).symm
    obtain ⟨hA, hB⟩ := f42_top hs hb ha r0
    rw [seq_next (ifY (c1 (beq_iff_eq.mpr (congrArg Int.ofNat hc))) (swapI (tupI (argsC (binI (binI rfl rfl (v_one_shl (Nat.le_trans (Nat.succ_le_succ hn) (by decide)))) rfl (v_sub1 hp)) (argsC (binI (binI rfl (binI rfl rfl (v_shl (Nat.le_trans (Nat.add_le_add (Nat.le_trans (bits_le hb1') hn) hn) (by decide)))) (v_subN r0)) rfl (v_add _ _)) rfl)) (Nat.le_of_ble_eq_true rfl) rfl) rfl))]
    exact key _ _ _ rfl rfl rfl rfl rfl rfl hA (Nat.sub_le _ _) r1 hB
  · have hle : b1 * 2 ^ n ≤ b := by rw [hb]; exact Nat.le_add_right _ _
    have ha12 : a12 < b := Nat.lt_of_not_le fun h => Nat.not_lt_of_le (Nat.le_trans (Nat.mul_le_mul_right _ h) (Nat.le_add_right _ _)) ha
    have hlt1 : a12 / 2 ^ n < b1 := by
      have h1 : a12 / 2 ^ n ≤ b / 2 ^ n := Nat.div_le_div_right (Nat.le_of_lt ha12)
      rw [show b / 2 ^ n = b1 by rw [hb, Nat.mul_comm, Nat.mul_add_div hp, Nat.div_eq_of_lt hb2]; rfl] at h1
      exact Nat.lt_of_le_of_ne h1 hc
    have hlt2 : a12 < b1 * 2 ^ n := (Nat.div_lt_iff_lt_mul hp).mp hlt1
    have hrl := Nat.mod_lt a12 (Nat.zero_lt_of_lt hlt1)
    rw [seq_next (ifN (c1 (beq_eq_false_iff_ne.mpr fun h => hc (Int.ofNat_inj.mp h))) (assignTI (callI (argsC rfl (argsC rfl (argsC rfl rfl))) (hG hlt2)) rfl))]
    exact key _ _ _ rfl rfl rfl rfl rfl rfl (by rw [Nat.mul_comm]; exact (Nat.div_add_mod _ _).symm) (Nat.le_of_lt (Nat.div_lt_of_lt_mul hlt2)) (Nat.lt_of_lt_of_le (Nat.lt_trans hrl hb1') (Nat.le_mul_of_pos_right _ (by decide))) (f42_low hrl ha3 hle)
end Mine
end
section
namespace Mine

noncomputable def tail35 (G : List PV → Option PV) : Rho → Option Out :=
  (seqF (assignF 4 (binF .RShift (getAny 2) (intF 1)))
  (seqF (assignF 5 (binF .Sub (binF .LShift (intF 1) (getAny 4)) (intF 1)))
  (seqF (swapF [6, 7] (tupF [(binF .RShift (getAny 1) (getAny 4)), (binF .BitAnd (getAny 1) (getAny 5))]))
  (seqF (assignTF (tupU [8, 9]) (callF G [(binF .RShift (getAny 0) (getAny 2)), (binF .BitAnd (binF .RShift (getAny 0) (getAny 4)) (getAny 5)), (getAny 1), (getAny 6), (getAny 7), (getAny 4)]))
  (seqF (assignTF (tupU [10, 9]) (callF G [(getAny 9), (binF .BitAnd (getAny 0) (getAny 5)), (getAny 1), (getAny 6), (getAny 7), (getAny 4)]))
  (seqF (ifF (tstF (getAny 3)) (augF 9 .RShift (intF 1)) passF)
  (retF (tupF [(binF .BitOr (binF .LShift (getAny 8) (getAny 4)) (getAny 10)), (getAny 9)]))))))))
theorem f35_eq {G : List PV → Option PV} : f35 G = (seqF (ifF (cmpF .LtE (binF .Sub (callF bitLenV [(getAny 0)]) (getAny 2)) (intF 4000)) (retF (callF divmodV [(getAny 0), (getAny 1)])) passF)
  (seqF (assignF 3 (binF .BitAnd (getAny 2) (intF 1)))
  (seqF (ifF (tstF (getAny 3)) (seqF (augF 0 .LShift (intF 1))
  (seqF (augF 1 .LShift (intF 1))
  (augF 2 .Add (intF 1)))) passF) (tail35 G)))) := rfl

/-- the contract of the division of three halves by two -/
noncomputable def G42 (G : List PV → Option PV) (m : Nat) : Prop := ∀ a12 a3 b b1 b2 : Nat, b = b1 * 2 ^ m + b2 → b2 < 2 ^ m → 2 ^ m ≤ 2 * b1 → b1 < 2 ^ m → a3 < 2 ^ m → a12 * 2 ^ m + a3 < b * 2 ^ m →
  G [.int (a12 : Int), .int (a3 : Int), .int (b : Int), .int (b1 : Int), .int (b2 : Int), .int (m : Int)] = some (.tuple [.int (((a12 * 2 ^ m + a3) / b : Nat) : Int), .int (((a12 * 2 ^ m + a3) % b : Nat) : Int)])

theorem tail35_ok {G : List PV → Option PV} {ρ : Rho} {a b m p : Nat} (hG : G42 G m) (h0 : ρ 0 = some (.fz (.int a))) (h1 : ρ 1 = some (.fz (.int b))) (h2 : ρ 2 = some (.fz (.int (2 * m : Nat)))) (h3 : ρ 3 = some (.fz (.int p)))
    (hb1 : 2 ^ (2 * m) ≤ 2 * b) (hb2 : b < 2 ^ (2 * m)) (hm : 1 ≤ m) (hm2 : m ≤ 1000000) (ha : a < b * 2 ^ (2 * m)) :
    ((tail35 G ρ).map outV) = some (.tuple [.int ((a / b : Nat) : Int), .int (if p ≠ 0 then ((a % b / 2 : Nat) : Int) else ((a % b : Nat) : Int))]) := by
  have hL : LIM = 134217728 := rfl
  have hp := Nat.two_pow_pos m
  have hpp : 2 ^ (2 * m) = 2 ^ m * 2 ^ m := by rw [Nat.two_mul, Nat.pow_add]
  have hb0 : 0 < b := by have := Nat.two_pow_pos (2 * m); exact Nat.pos_of_lt_mul_right ha
  have s1 : intV .RShift ((2 * m : Nat) : Int) 1 = some ((m : Nat) : Int) := by
    have := v_shr (2 * m) 1
    rw [show 2 * m / 2 ^ 1 = m by grind] at this; exact this
  have s2 : intV .LShift 1 (m : Int) = some ((2 ^ m : Nat) : Int) := v_one_shl (by grind)
  have s3 : intV .Sub ((2 ^ m : Nat) : Int) 1 = some ((2 ^ m - 1 : Nat) : Int) := v_sub1 hp
  have hbd := Nat.div_add_mod b (2 ^ m)
  have g1 : b = b / 2 ^ m * 2 ^ m + b % 2 ^ m := by rw [Nat.mul_comm]; exact hbd.symm
  have g2 : b % 2 ^ m < 2 ^ m := Nat.mod_lt _ hp
  have g4 : b / 2 ^ m < 2 ^ m := Nat.div_lt_of_lt_mul (by rw [← hpp]; exact hb2)
  have g3 : 2 ^ m ≤ 2 * (b / 2 ^ m) := by
    obtain ⟨k, rfl⟩ : ∃ k, m = k + 1 := ⟨m - 1, by grind⟩
    have e : 2 ^ (k + 1) = 2 * 2 ^ k := by rw [Nat.pow_succ, Nat.mul_comm]
    have h : 2 ^ k ≤ b / 2 ^ (k + 1) := by
      rw [Nat.le_div_iff_mul_le hp]
      have : 2 * (2 ^ k * 2 ^ (k + 1)) = 2 ^ (2 * (k + 1)) := by rw [hpp, ← Nat.mul_assoc, ← e]
      grind
    omega
  have ha12 : a / 2 ^ (2 * m) < b := Nat.div_lt_of_lt_mul (by rw [Nat.mul_comm]; exact ha)
  have hX : a / 2 ^ (2 * m) * 2 ^ m + a / 2 ^ m % 2 ^ m = a / 2 ^ m := by
    rw [hpp, ← Nat.div_div_eq_div_mul, Nat.mul_comm]; exact Nat.div_add_mod _ _
  have c3 : a / 2 ^ m % 2 ^ m < 2 ^ m := Nat.mod_lt _ hp
  have hbnd : ∀ x y : Nat, x < b → y < 2 ^ m → x * 2 ^ m + y < b * 2 ^ m := fun x y hx hy => by
    have := Nat.mul_le_mul_right (2 ^ m) (show x + 1 ≤ b by exact Nat.succ_le_of_lt hx)
    rw [Nat.add_mul] at this; omega
  have G1 := hG (a / 2 ^ (2 * m)) (a / 2 ^ m % 2 ^ m) b (b / 2 ^ m) (b % 2 ^ m) g1 g2 g3 g4 c3 (hbnd _ _ ha12 c3)
  rw [hX] at G1
  have hr1 : a / 2 ^ m % b < b := Nat.mod_lt _ hb0
  have c4 : a % 2 ^ m < 2 ^ m := Nat.mod_lt _ hp
  have G2 := hG (a / 2 ^ m % b) (a % 2 ^ m) b (b / 2 ^ m) (b % 2 ^ m) g1 g2 g3 g4 c4 (hbnd _ _ hr1 c4)
  -- the whole
  have hY : a = (a / 2 ^ m / b * 2 ^ m) * b + (a / 2 ^ m % b * 2 ^ m + a % 2 ^ m) := by
    have e1 := Nat.div_add_mod a (2 ^ m)
    have e2 := Nat.div_add_mod (a / 2 ^ m) b
    have e3 : 2 ^ m * (a / 2 ^ m) = (b * (a / 2 ^ m / b) + a / 2 ^ m % b) * 2 ^ m := by rw [e2, Nat.mul_comm]
    rw [Nat.add_mul] at e3
    have e4 : b * (a / 2 ^ m / b) * 2 ^ m = a / 2 ^ m / b * 2 ^ m * b := by rw [Nat.mul_assoc, Nat.mul_comm]
    omega
  have hYlt : a / 2 ^ m % b * 2 ^ m + a % 2 ^ m < b * 2 ^ m := hbnd _ _ hr1 c4
  have hq2 : (a / 2 ^ m % b * 2 ^ m + a % 2 ^ m) / b < 2 ^ m := Nat.div_lt_of_lt_mul hYlt
  have hres := div_unique (a := a) (b := b) (q := a / 2 ^ m / b * 2 ^ m + (a / 2 ^ m % b * 2 ^ m + a % 2 ^ m) / b) (r := (a / 2 ^ m % b * 2 ^ m + a % 2 ^ m) % b) (by
    have := Nat.div_add_mod (a / 2 ^ m % b * 2 ^ m + a % 2 ^ m) b
    rw [Nat.mul_comm] at this
    rw [Nat.add_mul]; omega) (Nat.mod_lt _ hb0)
  have hq1 : a / 2 ^ m / b < 2 ^ m := by
    refine Nat.div_lt_of_lt_mul (Nat.div_lt_of_lt_mul ?_)
    rw [Nat.mul_comm, Nat.mul_assoc, ← hpp]; exact ha
  have s9 : intV .LShift ((a / 2 ^ m / b : Nat) : Int) (m : Int) = some ((a / 2 ^ m / b * 2 ^ m : Nat) : Int) := v_shl (by have := bits_le hq1; grind)
  have s10 := v_or (q := a / 2 ^ m / b) hq2
  rw [hres.1] at s10
  rw [hres.2] at G2
  have s11 : intV .RShift ((a % b : Nat) : Int) 1 = some ((a % b / 2 : Nat) : Int) := v_shr (a % b) 1
  have e : ∀ y : Nat, ((p : Int) != 0) = true ∧ y = a % b / 2 ∨ ((p : Int) != 0) = false ∧ y = a % b → tail35 G ρ = some (.ret (.tuple [.int ((a / b : Nat) : Int), .int (y : Int)])) := fun y hy => by
    refine seqA (binI (getAny_fz h2) rfl s1) <| seqA (binI (binI rfl rfl s2) rfl s3) <| seqN (swapI (tupI (argsC (binI (getAny_fz h1) rfl (v_shr _ _)) (argsC (binI (getAny_fz h1) rfl (v_mask _ _)) rfl)) (Nat.le_of_ble_eq_true rfl) rfl) rfl) ?_
    refine seqN (assignTI (callI (argsC (binI (getAny_fz h0) (getAny_fz h2) (v_shr _ _)) (argsC (binI (binI (getAny_fz h0) rfl (v_shr _ _)) rfl (v_mask _ _)) (argsC (getAny_fz h1) rfl))) G1) rfl) ?_
    refine seqN (assignTI (callI (argsC rfl (argsC (binI (getAny_fz h0) rfl (v_mask _ _)) (argsC (getAny_fz h1) rfl))) G2) rfl) ?_
    rcases hy with ⟨hp, rfl⟩ | ⟨hp, rfl⟩
    · exact seqN (ifY (tstI (getAny_fz h3) (congrArg some hp)) (aug_ok rfl rfl s11 (.inr (.inr (.inr rfl))))) (ret_ok (tupI (argsC (binI (binI rfl rfl s9) rfl s10) rfl) (Nat.le_of_ble_eq_true rfl) rfl))
    · exact seqN (ifN (tstI (getAny_fz h3) (congrArg some hp)) rfl) (ret_ok (tupI (argsC (binI (binI rfl rfl s9) rfl s10) rfl) (Nat.le_of_ble_eq_true rfl) rfl))
  by_cases hpz : p = 0
  · rw [e _ (.inr ⟨by rw [hpz]; rfl, rfl⟩), if_neg (not_not_intro hpz)]; rfl
  · rw [e _ (.inl ⟨bne_iff_ne.mpr (Int.ofNat_ne_zero.mpr hpz), rfl⟩), if_pos hpz]; rfl
end Mine
end
section
namespace Mine

theorem pad35_ok {ρ : Rho} {a b n : Nat} (h0 : ρ 0 = some (.fz (.int a))) (h1 : ρ 1 = some (.fz (.int b))) (h2 : ρ 2 = some (.fz (.int n))) (hA : bits (a : Int) + 1 ≤ LIM) (hB : bits (b : Int) + 1 ≤ LIM) {f : Rho → Option Out} :
    ∃ ρ', seqF (assignF 3 (binF .BitAnd (getAny 2) (intF 1))) (seqF (ifF (tstF (getAny 3)) (seqF (augF 0 .LShift (intF 1)) (seqF (augF 1 .LShift (intF 1)) (augF 2 .Add (intF 1)))) passF) f) ρ = f ρ' ∧
      ρ' 0 = some (.fz (.int (a * 2 ^ (n % 2) : Nat))) ∧ ρ' 1 = some (.fz (.int (b * 2 ^ (n % 2) : Nat))) ∧ ρ' 2 = some (.fz (.int (n + n % 2 : Nat))) ∧ ρ' 3 = some (.fz (.int (n % 2 : Nat))) := by
  have s0 : intV .BitAnd (n : Int) 1 = some ((n % 2 : Nat) : Int) := (v_and n 1).trans (by rw [Nat.and_one_is_mod])
  rcases Nat.mod_two_eq_zero_or_one n with hm | hm
  · rw [hm] at s0 ⊢
    exact ⟨_, seqA (binI (getAny_fz h2) rfl s0) (seqN (ifN (tstI rfl rfl) rfl) rfl), by rw [Nat.pow_zero, Nat.mul_one]; exact h0, by rw [Nat.pow_zero, Nat.mul_one]; exact h1, h2, rfl⟩
  · rw [hm] at s0 ⊢
    exact ⟨_, seqA (binI (getAny_fz h2) rfl s0) (seqN (ifY (tstI rfl rfl) (seqN (aug_ok h0 rfl (v_shl (b := 1) hA) (.inr (.inr (.inl rfl)))) (seqN (aug_ok h1 rfl (v_shl (b := 1) hB) (.inr (.inr (.inl rfl)))) (aug_ok h2 rfl (v_add n 1) (.inl rfl))))) rfl), rfl, rfl, rfl, rfl⟩

theorem mul2p {b n : Nat} (h : 2 ^ n ≤ 2 * b) (h2 : b < 2 ^ n) (p : Nat) : 2 ^ (n + p) ≤ 2 * (b * 2 ^ p) ∧ b * 2 ^ p < 2 ^ (n + p) := by
  have hp := Nat.two_pow_pos p
  rw [Nat.pow_add, ← Nat.mul_assoc]
  exact ⟨Nat.mul_le_mul_right _ h, Nat.mul_lt_mul_of_pos_right h2 hp⟩

theorem half35 {n : Nat} : n + n % 2 = 2 * ((n + n % 2) / 2) := by omega
theorem pad_lt {a b t p : Nat} (hp : 0 < p) (h : a < b * t) : a * p < b * p * (t * p) := by
  rw [show b * p * (t * p) = b * t * p * p by rw [Nat.mul_assoc, Nat.mul_left_comm p t p, ← Nat.mul_assoc, Nat.mul_assoc (b * t)]]
  exact Nat.lt_of_lt_of_le (Nat.mul_lt_mul_of_pos_right h hp) (Nat.le_mul_of_pos_right _ hp)
theorem if_half {p x : Nat} (h : p = 0 ∨ p = 1) : (if p ≠ 0 then ((x * 2 ^ p / 2 : Nat) : Int) else ((x * 2 ^ p : Nat) : Int)) = x := by
  rcases h with rfl | rfl
  · rw [if_neg (fun h => h rfl), Nat.pow_zero, Nat.mul_one]
  · rw [if_pos (by decide), Nat.pow_one, Nat.mul_div_cancel _ (by decide)]
theorem step35 {k a b n : Nat} (h1 : 2 ^ n ≤ 2 * b) (h2 : b < 2 ^ n) (h3 : a < b * 2 ^ n) (h5 : n ≤ 1000000) (h6 : 1 ≤ n) (hG : 4000 < n → G42 (funF 6 (f42 (F35n k))) ((n + n % 2) / 2)) :
    F35n (k + 1) [.int (a : Int), .int (b : Int), .int (n : Int)] = some (.tuple [.int ((a / b : Nat) : Int), .int ((a % b : Nat) : Int)]) := by
  have hb0 : 0 < b := by have := Nat.two_pow_pos n; exact Nat.pos_of_lt_mul_right h3
  have hab : bits (a : Int) ≤ n + n := bits_le (by
    rw [Nat.pow_add]
    exact Nat.lt_of_lt_of_le h3 (Nat.mul_le_mul_right _ (Nat.le_of_lt h2)))
  have hbb : bits (b : Int) ≤ n := bits_le h2
  have hbn : n ≤ bits (b : Int) := by
    obtain ⟨m, rfl⟩ : ∃ m, n = m + 1 := ⟨n - 1, (Nat.sub_one_add_one_eq_of_pos h6).symm⟩
    exact bits_ge (Nat.le_of_mul_le_mul_left (by rw [Nat.mul_comm, ← Nat.pow_succ]; exact h1) Nat.two_pos)
  show (f35 (funF 6 (f42 (F35n k))) _).map outV = _
  rw [f35_eq]
  have c1 : ∀ {x}, decide (((bits (a : Int) : Nat) : Int) - (n : Int) ≤ 4000) = x → cmpF .LtE (binF .Sub (callF bitLenV [(getAny 0)]) (getAny 2)) (intF 4000) (parR [.int (a : Int), .int (b : Int), .int (n : Int)]) = some x := fun h =>
    cmpI (binI (callI (argsC rfl rfl) rfl) rfl rfl) rfl (congrArg some h)
  by_cases hc : ((bits (a : Int) : Nat) : Int) - (n : Int) ≤ 4000
  · rw [seq_ret (ifY (c1 (decide_eq_true hc)) (ret_ok (callI (argsC rfl (argsC rfl rfl)) (v_divmod hb0 (by omega)))))]; rfl
  · rw [seq_next (ifN (c1 (decide_eq_false hc)) rfl)]
    have hn : 4000 < n := by omega
    have hle : n + 1 ≤ LIM := Nat.le_trans (Nat.succ_le_succ h5) (by decide)
    obtain ⟨ρ', e, q0, q1, q2, q3⟩ := pad35_ok (f := tail35 (funF 6 (f42 (F35n k)))) (ρ := parR [.int (a : Int), .int (b : Int), .int (n : Int)]) rfl rfl rfl (Nat.le_trans (Nat.succ_le_succ (Nat.le_trans hab (Nat.add_le_add h5 h5))) (by decide)) (Nat.le_trans (Nat.succ_le_succ hbb) hle)
    rw [e]
    have hp := Nat.two_pow_pos (n % 2)
    have hb' := mul2p h1 h2 (n % 2)
    have h3' := pad_lt hp h3
    rw [← Nat.pow_add] at h3'
    have hG' := hG hn
    generalize hm : (n + n % 2) / 2 = m at hG'
    have hm2 : n + n % 2 = 2 * m := by rw [← hm]; exact half35
    rw [hm2] at q2 hb' h3'
    have r := tail35_ok (p := n % 2) hG' q0 q1 q2 q3 hb'.1 hb'.2 (by omega) (by omega) h3'
    rw [r, Nat.mul_div_mul_right _ _ hp, Nat.mul_mod_mul_right, if_half (Nat.mod_two_eq_zero_or_one n)]

theorem F35_ok : ∀ (k a b n : Nat), 2 ^ n ≤ 2 * b → b < 2 ^ n → a < b * 2 ^ n → n ≤ 4000 * 2 ^ k → n ≤ 1000000 → 1 ≤ n →
    F35n (k + 1) [.int (a : Int), .int (b : Int), .int (n : Int)] = some (.tuple [.int ((a / b : Nat) : Int), .int ((a % b : Nat) : Int)])
  | 0, a, b, n, h1, h2, h3, h4, h5, h6 => step35 h1 h2 h3 h5 h6 fun h => by omega
  | k + 1, a, b, n, h1, h2, h3, h4, h5, h6 => step35 h1 h2 h3 h5 h6 fun h a12 a3 b' b1 b2 g1 g2 g3 g4 g5 g6 => by
    refine F42_ok g1 g2 g3 g4 g5 g6 (by grind) fun hlt => ?_
    exact F35_ok k a12 b1 ((n + n % 2) / 2) g3 g4 hlt (by rw [Nat.pow_succ] at h4; grind) (by omega) (by grind)
end Mine
end
section
namespace Mine

/-- the numbers as values -/
noncomputable def natsV (ns : List Nat) : List PV := ns.map fun (d : Nat) => PV.int (d : Int)
noncomputable def digN (n m x : Nat) : List Nat := (List.range m).map fun i => x / 2 ^ (n * i) % 2 ^ n
noncomputable def val (n : Nat) : List Nat → Nat
  | [] => 0
  | d :: r => d + 2 ^ n * val n r
theorem natsV_sc : ∀ ns : List Nat, (natsV ns).all PV.sc = true := fun ns => by
  unfold natsV
  rw [List.all_map, List.all_eq_true]
  intro d _; rfl
theorem natsV_len (ns : List Nat) : (natsV ns).length = ns.length := by unfold natsV; simp
theorem digN_len (n m x : Nat) : (digN n m x).length = m := by unfold digN; simp
theorem digN_add (n x : Nat) (m1 m2 : Nat) : digN n (m1 + m2) x = digN n m1 (x % 2 ^ (n * m1)) ++ digN n m2 (x / 2 ^ (n * m1)) := by
  unfold digN
  rw [List.range_add, List.map_append, List.map_map]
  congr 1
  · apply List.map_congr_left
    intro i hi
    have hi' := List.mem_range.mp hi
    have hs : 2 ^ (n * m1) = 2 ^ (n * i) * 2 ^ (n * (m1 - i)) := by rw [← Nat.pow_add, ← Nat.mul_add]; congr 2; grind
    rw [hs, Nat.mod_mul_right_div_self]
    have : 2 ^ n ∣ 2 ^ (n * (m1 - i)) := Nat.pow_dvd_pow 2 (by
      have : 1 ≤ m1 - i := by exact Nat.le_sub_of_add_le' hi'
      calc n = n * 1 := (Nat.mul_one n).symm
        _ ≤ n * (m1 - i) := Nat.mul_le_mul_left _ this)
    rw [Nat.mod_mod_of_dvd _ this]
  · apply List.map_congr_left
    intro i _
    simp only [Function.comp]
    rw [Nat.div_div_eq_div_mul, ← Nat.pow_add, ← Nat.mul_add]
theorem digN_lt (n m x : Nat) : ∀ d ∈ digN n m x, d < 2 ^ n := by
  intro d hd
  unfold digN at hd
  obtain ⟨i, _, rfl⟩ := List.mem_map.mp hd
  exact Nat.mod_lt _ (Nat.two_pow_pos n)
theorem val_digN (n : Nat) : ∀ m x : Nat, x < 2 ^ (n * m) → val n (digN n m x) = x
  | 0, x, h => by simp at h; subst h; rfl
  | m + 1, x, h => by
    rw [Nat.add_comm, digN_add]
    have e1 : digN n 1 (x % 2 ^ (n * 1)) = [x % 2 ^ n] := by simp [digN]
    rw [e1, Nat.mul_one]
    show x % 2 ^ n + 2 ^ n * val n (digN n m (x / 2 ^ n)) = x
    rw [val_digN n m (x / 2 ^ n) (Nat.div_lt_of_lt_mul (by rw [← Nat.pow_add]; rw [Nat.mul_add, Nat.mul_one, Nat.add_comm] at h; exact h))]
    have := Nat.div_add_mod x (2 ^ n)
    exact Nat.mod_add_div x (2 ^ n)
theorem val_append (n : Nat) : ∀ a b : List Nat, val n (a ++ b) = val n a + 2 ^ (n * a.length) * val n b
  | [], b => by simp [val]
  | d :: a, b => by
    rw [List.cons_append, val, val, val_append n a b, List.length_cons, Nat.mul_add n a.length 1, Nat.mul_one, Nat.pow_add, Nat.mul_add, ← Nat.mul_assoc, Nat.mul_comm (2 ^ n) (2 ^ (n * a.length))]
    exact Eq.symm (Nat.add_assoc d (2 ^ n * val n a) (2 ^ (n * List.length a) * 2 ^ n * val n b))
theorem val_lt (n : Nat) : ∀ l : List Nat, (∀ d ∈ l, d < 2 ^ n) → val n l < 2 ^ (n * l.length)
  | [], _ => by simp [val]
  | d :: r, h => by
    have h1 := h d (.head _)
    have h2 := val_lt n r fun e he => h e (.tail _ he)
    rw [val, List.length_cons, Nat.mul_add, Nat.mul_one, Nat.add_comm (n * r.length) n, Nat.pow_add]
    have := Nat.mul_le_mul_left (2 ^ n) (show val n r + 1 ≤ 2 ^ (n * r.length) by exact Nat.succ_le_of_lt h2)
    rw [Nat.mul_add] at this
    omega

theorem callW_ok {G : List PV → List PV → Option (List PV)} {fs : List (Rho → Option PV)} {ρ : Rho} {ds ds' xs : List PV} (h8 : ρ 8 = some (.ow ds)) (hs : ds.all PV.sc = true) (hx : argsF fs ρ = some xs) (hG : G xs ds = some ds') : callWF G fs ρ = some (.next (upd ρ 8 (.ow ds'))) := by
  unfold callWF
  rw [h8]
  simp only [hs, if_true, hx, Option.bind_some, hG, Option.map_some]

theorem natsV_app (a b : List Nat) : natsV (a ++ b) = natsV a ++ natsV b := List.map_append
theorem all_app {a b : List PV} (h : a.all PV.sc = true) (k : b.all PV.sc = true) : (a ++ b).all PV.sc = true := by rw [List.all_append, h, k]; rfl
theorem app_all {a b : List PV} (h : (a ++ b).all PV.sc = true) : a.all PV.sc = true ∧ b.all PV.sc = true := by
  rw [List.all_append, Bool.and_eq_true] at h; exact h
theorem half {m k : Nat} (h0 : 0 < m) (h1 : m ≠ 1) (hk : m ≤ 2 ^ (k + 1)) : ∃ p q, m = p + q ∧ 0 < p ∧ 0 < q ∧ p ≤ 2 ^ k ∧ q ≤ 2 ^ k ∧ ∀ L, (L + (L + (p + q))) / 2 ^ 1 = L + p := by
  rw [Nat.pow_succ] at hk
  generalize 2 ^ k = t at hk
  exact ⟨m / 2, m - m / 2, by omega, by omega, by omega, by omega, by omega, fun L => by omega⟩
theorem app_split {α : Type} {B : List α} {p q : Nat} (hB : B.length = p + q) : ∃ B1 B2, B = B1 ++ B2 ∧ B1.length = p ∧ B2.length = q :=
  ⟨B.take p, B.drop p, (List.take_append_drop p B).symm, by rw [List.length_take, hB]; exact Nat.min_eq_left (Nat.le_add_right p q), by rw [List.length_drop, hB, Nat.add_sub_cancel_left]⟩
theorem ne_one {L m : Nat} (h : m ≠ 1) : ¬ (L : Int) + 1 = ((L + m : Nat) : Int) := by omega
theorem mul_half {n p q : Nat} (h : n * (p + q) ≤ 1000000) : n * q + n * p ≤ 1000000 := by rw [← Nat.mul_add, Nat.add_comm]; exact h
theorem v_mid {L p q : Nat} (h : (L + (L + (p + q))) / 2 ^ 1 = L + p) : intV .RShift ((L + (L + (p + q)) : Nat) : Int) 1 = some ((L + p : Nat) : Int) := by rw [← h]; exact v_shr _ 1

theorem mid49_ok {G : List PV → List PV → Option (List PV)} {x L R n a M b s h c l : Int} {ds ds1 ds2 : List PV} (u0 : intV .Add L R = some a) (u1 : intV .RShift a 1 = some M) (u2 : intV .Sub M L = some b) (u3 : intV .Mult b n = some s) (u4 : intV .RShift x s = some h) (u5 : intV .LShift h s = some c) (u6 : intV .BitXor x c = some l)
    (hs : ds.all PV.sc = true) (g1 : G [.int l, .int L, .int M] ds = some ds1) (hs1 : ds1.all PV.sc = true) (g2 : G [.int h, .int M, .int R] ds1 = some ds2) : ∃ ρ', mid49 G (r49 x L R n ds) = some (.next ρ') ∧ ρ' 8 = some (.ow ds2) :=
  ⟨_, seqA (binI (binI rfl rfl u0) rfl u1) <| seqA (binI (binI rfl rfl u2) rfl u3) <| seqA (binI rfl rfl u4) <| seqA (binI rfl (binI rfl rfl u5) u6) <| seqN (callW_ok rfl hs rfl g1) (callW_ok rfl hs1 rfl g2), rfl⟩

theorem F49i_step {n x L R : Int} {k : Nat} {ds ds2 : List PV} {ρ' : Rho} (h : ¬ L + 1 = R) (hm : mid49 (F49i n k) (r49 x L R n ds) = some (.next ρ')) (h8 : ρ' 8 = some (.ow ds2)) (hs : ds2.all PV.sc = true) : F49i n (k + 1) [.int x, .int L, .int R] ds = some ds2 := by
  show (if L + 1 = R then _ else _) = _
  rw [if_neg h, hm]
  show Option.bind (match ρ' 8 with | some (.ow ds) => some ds | _ => none) _ = _
  rw [h8]; exact if_pos hs
theorem F49i_base {n : Int} {k x : Nat} {A C : List PV} {y : PV} (hlen : (A ++ ([y] ++ C)).length ≤ 1000000) :
    F49i n (k + 1) [.int (x : Int), .int (A.length : Int), .int ((A.length + 1 : Nat) : Int)] (A ++ ([y] ++ C)) = some (A ++ ([.int x] ++ C)) := by
  show (if _ then (if _ then _ else _) else _) = _
  rw [if_pos (Int.ofNat_add_one_out A.length), if_pos ⟨Int.natCast_nonneg _, Int.ofNat_lt.mpr (by rw [List.length_append]; exact Nat.lt_add_of_pos_right (Nat.succ_pos _)), hlen⟩, Int.toNat_natCast, List.set_append_right _ _ (Nat.le_refl _), Nat.sub_self]
  rfl

theorem F49i_ok {n : Nat} (hn : n ≤ 1000000) : ∀ (k x m : Nat) (A B C : List PV), A.all PV.sc = true → B.all PV.sc = true → C.all PV.sc = true → B.length = m → (A ++ (B ++ C)).length ≤ 1000000 → 0 < m → x < 2 ^ (n * m) → m ≤ 2 ^ k → n * m ≤ 1000000 →
    F49i (n : Int) (k + 1) [.int (x : Int), .int (A.length : Int), .int ((A.length + m : Nat) : Int)] (A ++ (B ++ C)) = some (A ++ (natsV (digN n m x) ++ C)) := by
  intro k
  have base : ∀ (k x : Nat) (A B C : List PV), B.length = 1 → (A ++ (B ++ C)).length ≤ 1000000 → x < 2 ^ (n * 1) → F49i (n : Int) (k + 1) [.int (x : Int), .int (A.length : Int), .int ((A.length + 1 : Nat) : Int)] (A ++ (B ++ C)) = some (A ++ (natsV (digN n 1 x) ++ C)) := fun k x A B C hB hl hx => by
    obtain ⟨y, rfl⟩ := List.length_eq_one_iff.mp hB
    have e : natsV (digN n 1 x) = [.int (x : Int)] := by
      show [PV.int ((x / 2 ^ (n * 0) % 2 ^ n : Nat) : Int)] = _
      rw [Nat.mul_zero, Nat.pow_zero, Nat.div_one, Nat.mod_eq_of_lt (by rw [Nat.mul_one] at hx; exact hx)]
    rw [e]; exact F49i_base hl
  induction k with
  | zero =>
    intro x m A B C _ _ _ hB hl h0 hx hk _
    obtain rfl : m = 1 := Nat.le_antisymm hk h0
    exact base 0 x A B C hB hl hx
  | succ k ih =>
    intro x m A B C hA hBs hC hB hl h0 hx hk hn1
    by_cases h1 : m = 1
    · subst h1; exact base _ x A B C hB hl hx
    · obtain ⟨p, q, rfl, hp, hq, kp, kq, hM⟩ := half h0 h1 hk
      obtain ⟨B1, B2, rfl, l1, l2⟩ := app_split hB
      obtain ⟨s1, s2⟩ := app_all hBs
      have hh := mul_half hn1
      have hup : x / 2 ^ (n * p) < 2 ^ (n * q) := Nat.div_lt_of_lt_mul (by rw [← Nat.pow_add, ← Nat.mul_add]; exact hx)
      have hlo : x % 2 ^ (n * p) < 2 ^ (n * p) := Nat.mod_lt _ (Nat.two_pow_pos _)
      rw [List.append_assoc] at hl
      have g1 := ih (x % 2 ^ (n * p)) p A B1 (B2 ++ C) hA s1 (all_app s2 hC) l1 hl hp hlo kp (Nat.le_trans (Nat.le_add_left _ _) hh)
      have hlA : (A ++ natsV (digN n p (x % 2 ^ (n * p)))).length = A.length + p := by rw [List.length_append, natsV_len, digN_len]
      have g2 := ih (x / 2 ^ (n * p)) q (A ++ natsV (digN n p (x % 2 ^ (n * p)))) B2 C (all_app hA (natsV_sc _)) s2 hC l2 (by rw [List.length_append, hlA, Nat.add_assoc, ← l1, ← List.length_append, ← List.length_append]; exact hl) hq hup kq (Nat.le_trans (Nat.le_add_right _ _) hh)
      rw [hlA, List.append_assoc, List.append_assoc, Nat.add_assoc] at g2
      rw [List.append_assoc, digN_add, natsV_app, List.append_assoc]
      have hp1 : p ≤ 1000000 := by
        rw [List.length_append, List.length_append, l1] at hl
        exact Nat.le_trans (Nat.le_trans (Nat.le_add_right _ _) (Nat.le_add_left _ _)) hl
      obtain ⟨ρ', e, h8⟩ := mid49_ok (G := F49i (n : Int) (k + 1)) (n := n) (v_add A.length (A.length + (p + q))) (v_mid (hM _)) (v_subL _ _) (v_mulS hp1 hn) (by rw [Nat.mul_comm p n]; exact v_shr _ _) (by rw [Nat.mul_comm p n]; exact v_shlS hup hh) (v_xor _ _) (all_app hA (all_app s1 (all_app s2 hC))) g1 (all_app hA (all_app (natsV_sc _) (all_app s2 hC))) g2
      exact F49i_step (ne_one h1) e h8 (all_app hA (all_app (natsV_sc _) (all_app (natsV_sc _) hC)))
end Mine
end
section
namespace Mine

theorem noPy {a b : Int} (h : bits b ≤ 9000) : Builtin.divisionGoesByPylong a b = false := by
  unfold Builtin.divisionGoesByPylong
  unfold bits Builtin.Int.intBits at h
  have : (if (b == 0) = true then 0 else b.natAbs.log2 / 30 + 1) ≤ 300 := by
    split
    · exact Nat.zero_le 300
    · rename_i hb
      rw [if_neg hb] at h; grind
  simp only [Bool.and_eq_false_iff, decide_eq_false_iff_not]
  left; exact (fun {a b} => Iff.mpr Nat.not_lt) this
theorem v_fdiv {a b : Nat} (hb : 0 < b) (h : bits (b : Int) ≤ 9000) : intV .FloorDiv (a : Int) (b : Int) = some ((a / b : Nat) : Int) := by
  show (if (b : Int) ≠ 0 ∧ Builtin.divisionGoesByPylong (a : Int) (b : Int) = false then some ((a : Int).fdiv (b : Int)) else none) = _
  rw [if_pos ⟨by omega, noPy h⟩, Int.fdiv_eq_ediv_of_nonneg _ (by exact Int.natCast_nonneg b)]
  simp
theorem mulLI {f : Rho → Option (List PV)} {g : Rho → Option PV} {ρ : Rho} {x : PV} {m : Nat} (h : f ρ = some [x]) (h2 : g ρ = some (.int (m : Int))) (hm : m ≤ 1000000) (hx : x.sc = true) : mulLF f g ρ = some (List.replicate m x) := by
  unfold mulLF; rw [h, h2]
  exact if_pos ⟨Int.ofNat_le.mpr hm, by omega, hx⟩
theorem cdiv {B n : Nat} (hn : 1 ≤ n) : ∃ m, (B + n - 1) / n = m ∧ B ≤ n * m ∧ n * m ≤ B + n - 1 ∧ m ≤ n * m := by
  refine ⟨_, rfl, ?_, Nat.mul_div_le _ _, Nat.le_mul_of_pos_left _ hn⟩
  have h1 := Nat.div_add_mod (B + n - 1) n
  have h2 := Nat.mod_lt (B + n - 1) hn
  generalize n * ((B + n - 1) / n) = t at h1 ⊢
  omega
theorem tail49_ok {ρ : Rho} {a n : Int} {ds ds' : List PV} (q0 : ρ 0 = some (.fz (.int a))) (q1 : ρ 1 = some (.fz (.int n))) (q2 : ρ 2 = some (.ow ds)) (hs : ds.all PV.sc = true) (ha : (a != 0) = true) (hl : ds.length ≤ 1000000) (g : F49i n 50 [.int a, .int 0, .int ds.length] ds = some ds') (hs' : ds'.all PV.sc = true) : tail49 ρ = some (.ret (.list ds')) := by
  unfold tail49; rw [q1, q2]
  show (if _ then _ else _) = _
  rw [if_pos hs, tstI (getAny_fz q0) (congrArg some ha)]
  show Option.bind (argsF _ ρ) _ = _
  rw [argsC (getAny_fz q0) (argsC rfl (argsC (callI (argsC (getAny_ow q2) rfl) (if_pos hl)) rfl))]
  show Option.bind (F49i _ _ _ _) _ = _
  rw [g]; exact if_pos hs'
theorem tail49_nil {ρ : Rho} {n : Int} (q0 : ρ 0 = some (.fz (.int 0))) (q1 : ρ 1 = some (.fz (.int n))) (q2 : ρ 2 = some (.ow [])) : tail49 ρ = some (.ret (.list [])) := by
  unfold tail49; rw [q1, q2]
  show Option.bind (tstF (getAny 0) ρ) _ = _
  rw [tstI (getAny_fz q0) rfl]; rfl
theorem F49_ok {a n : Nat} (hn : 1 ≤ n) (h : bits (a : Int) + n ≤ 1000000) : ∃ m, bits (a : Int) ≤ n * m ∧ n * m ≤ bits (a : Int) + n - 1 ∧ m ≤ n * m ∧ F49 [.int (a : Int), .int (n : Int)] = some (.list (natsV (digN n m a))) := by
  obtain ⟨m, hm, hm2, hm1, hm3⟩ := cdiv (B := bits (a : Int)) hn
  refine ⟨m, hm2, hm1, hm3, ?_⟩
  have hb : n * m ≤ 1000000 := Nat.le_trans hm1 (Nat.le_trans (Nat.sub_le _ _) h)
  have u3 : intV .FloorDiv ((bits (a : Int) + n - 1 : Nat) : Int) (n : Int) = some ((m : Nat) : Int) := by
    rw [← hm]; exact v_fdiv hn (Nat.le_trans (bits_small (Nat.le_of_add_left_le h)) (by decide))
  have hh : ∀ ρ : Rho, ρ 0 = some (.fz (.int a)) → ρ 1 = some (.fz (.int n)) → head49 ρ = some (.next (upd ρ 2 (.ow (List.replicate m (.int 0))))) := fun ρ p0 p1 =>
    assignN_ok (mulLI rfl (binI (binI (binI (callI (argsC (getAny_fz p0) rfl) rfl) (getAny_fz p1) (v_add _ _)) rfl (v_sub1 (Nat.le_add_left_of_le hn))) (getAny_fz p1) u3) (Nat.le_trans hm3 hb) rfl)
  have e : f49 (parR [.int (a : Int), .int (n : Int)]) = some (.ret (.list (natsV (digN n m a)))) := by
    refine seqN (hh _ rfl rfl) ?_
    rcases Nat.eq_zero_or_pos a with ha | ha
    · subst ha
      obtain rfl : m = 0 := by
        rw [← hm]
        exact Nat.div_eq_of_lt (by rw [show bits ((0 : Nat) : Int) = 0 from rfl, Nat.zero_add]; exact Nat.sub_lt hn Nat.one_pos)
      exact tail49_nil rfl rfl rfl
    · have hm4 : 0 < m := Nat.pos_of_ne_zero fun h0 => by subst h0; exact (Nat.not_succ_le_zero 0 (Nat.le_trans (bits_pos ha) hm2)).elim
      have hsc : (List.replicate m (PV.int 0)).all PV.sc = true := List.all_eq_true.mpr fun x hx => by rw [List.eq_of_mem_replicate hx]; rfl
      have hl : (List.replicate m (PV.int 0)).length = m := List.length_replicate
      have g := F49i_ok (Nat.le_of_add_left_le h) 49 a m [] (List.replicate m (.int 0)) [] rfl hsc rfl hl (by rw [List.append_nil, List.nil_append, hl]; exact Nat.le_trans hm3 hb) hm4 (lt_of_bits hm2) (Nat.le_trans (Nat.le_trans hm3 hb) (by decide)) hb
      rw [List.append_nil, List.append_nil, List.length_nil, Nat.zero_add] at g
      exact tail49_ok rfl rfl rfl hsc (bne_iff_ne.mpr (Int.ofNat_ne_zero.mpr (Nat.ne_of_gt ha))) (by rw [hl]; exact Nat.le_trans hm3 hb) (by rw [hl]; exact g) (natsV_sc _)
  show (f49 _).map outV = _
  rw [e]; rfl

theorem F56i_step {ds : List PV} {n L R a M b s hi sh lo r : Int} {k : Nat} (hne : ¬ L + 1 = R) (u0 : intV .Add L R = some a) (u1 : intV .RShift a 1 = some M) (u2 : intV .Sub M L = some b) (u3 : intV .Mult b n = some s) (g1 : F56i ds n k [.int M, .int R] = some (.int hi)) (u4 : intV .LShift hi s = some sh) (g2 : F56i ds n k [.int L, .int M] = some (.int lo)) (u5 : intV .Add sh lo = some r) :
    F56i ds n (k + 1) [.int L, .int R] = some (.int r) := by
  have e : f56i (F56i ds n k) (exR 2 (ex56 ds n) [.int L, .int R]) = some (.ret (.int r)) :=
    seqN ((if_no (cmpEqI (binI rfl rfl rfl) rfl (beq_eq_false_iff_ne.mpr hne))).trans rfl) <| seqA (binI (binI rfl rfl u0) rfl u1) <| seqA (binI (binI rfl rfl u2) rfl u3) <|
      ret_ok (binI (binI (callI rfl g1) rfl u4) (callI rfl g2) u5)
  show (f56i _ _).map outV = _
  rw [e]; rfl
theorem F56i_base {ds : List PV} {n : Int} {L : Nat} {d : Int} (k : Nat) (hl : ds.length ≤ 1000000) (hg : ds[L]? = some (.int d)) : F56i ds n (k + 1) [.int (L : Int), .int ((L + 1 : Nat) : Int)] = some (.int d) := by
  have hs : subF (getAny 4) (getAny 0) (exR 2 (ex56 ds n) [.int (L : Int), .int ((L + 1 : Nat) : Int)]) = some (.int d) := subI_nat (xs := ds) (i := L) rfl rfl hl hg
  have e : f56i (F56i ds n k) (exR 2 (ex56 ds n) [.int (L : Int), .int ((L + 1 : Nat) : Int)]) = some (.ret (.int d)) :=
    seq_ret ((if_yes (cmpEqI (binI rfl rfl rfl) rfl (beq_iff_eq.mpr (Int.ofNat_add_one_out L)))).trans (ret_ok (by unfold scF; rw [hs]; rfl)))
  show (f56i _ _).map outV = _
  rw [e]; rfl

theorem F56i_ok {ns : List Nat} {n : Nat} (hl : ns.length ≤ 1000000) (hd : ∀ d ∈ ns, d < 2 ^ n) (hn : n ≤ 1000000) : ∀ (k m : Nat) (A B C : List Nat), ns = A ++ (B ++ C) → B.length = m → 0 < m → m ≤ 2 ^ k → n * m ≤ 1000000 →
    F56i (natsV ns) (n : Int) (k + 1) [.int (A.length : Int), .int ((A.length + m : Nat) : Int)] = some (.int ((val n B : Nat) : Int)) := by
  intro k
  have base : ∀ (k : Nat) (A B C : List Nat), ns = A ++ (B ++ C) → B.length = 1 → F56i (natsV ns) (n : Int) (k + 1) [.int (A.length : Int), .int ((A.length + 1 : Nat) : Int)] = some (.int ((val n B : Nat) : Int)) := fun k A B C e hB => by
    obtain ⟨y, rfl⟩ := List.length_eq_one_iff.mp hB
    refine F56i_base k (by rw [natsV_len]; exact hl) ?_
    unfold natsV
    rw [List.getElem?_map, e, List.getElem?_append_right (Nat.le_refl _), Nat.sub_self]; rfl
  induction k with
  | zero =>
    intro m A B C e hB h0 hk _
    obtain rfl : m = 1 := Nat.le_antisymm hk h0
    exact base 0 A B C e hB
  | succ k ih =>
    intro m A B C e hB h0 hk hn1
    by_cases h1 : m = 1
    · subst h1; exact base _ A B C e hB
    · obtain ⟨p, q, rfl, hp, hq, kp, kq, hM⟩ := half h0 h1 hk
      obtain ⟨B1, B2, rfl, l1, l2⟩ := app_split hB
      have hh := mul_half hn1
      rw [List.append_assoc] at e
      have g2 := ih p A B1 (B2 ++ C) e l1 hp kp (Nat.le_trans (Nat.le_add_left _ _) hh)
      have g1 := ih q (A ++ B1) B2 C (by rw [List.append_assoc]; exact e) l2 hq kq (Nat.le_trans (Nat.le_add_right _ _) hh)
      rw [List.length_append, l1, Nat.add_assoc] at g1
      have hv : val n B2 < 2 ^ (n * q) := by
        rw [← l2]; exact val_lt n B2 fun d h => hd d (by rw [e]; exact List.mem_append_right _ (List.mem_append_right _ (List.mem_append_left _ h)))
      have hp1 : p ≤ 1000000 := Nat.le_trans (by rw [e, List.length_append, List.length_append, l1]; exact Nat.le_trans (Nat.le_add_right _ _) (Nat.le_add_left _ _)) hl
      have ev : val n (B1 ++ B2) = val n B2 * 2 ^ (n * p) + val n B1 := by rw [val_append, l1, Nat.add_comm, Nat.mul_comm]
      rw [ev]
      exact F56i_step (ne_one h1) (v_add A.length (A.length + (p + q))) (v_mid (hM _)) (v_subL _ _) (v_mulS hp1 hn) g1 (by rw [Nat.mul_comm p n]; exact v_shlS hv hh) g2 (v_add _ _)
theorem F56_ok {ns : List Nat} {n : Nat} (hl : ns.length ≤ 1000000) (hd : ∀ d ∈ ns, d < 2 ^ n) (hnl : n * ns.length ≤ 1000000) (hn : n ≤ 1000000) : F56 [.list (natsV ns), .int (n : Int)] = some (.int ((val n ns : Nat) : Int)) := by
  have hlen : (natsV ns).length ≤ 1000000 := by rw [natsV_len]; exact hl
  have e : f56 (parR [.list (natsV ns), .int (n : Int)]) = some (.ret (.int ((val n ns : Nat) : Int))) := by
    refine ret_ok ?_
    unfold iteF
    rw [tstI (x := .list (natsV ns)) rfl (if_pos hlen)]
    cases ns with
    | nil => rfl
    | cons d r =>
      have g := F56i_ok hl hd hn 49 _ [] (d :: r) [] (List.append_nil _).symm rfl (Nat.succ_pos _) (Nat.le_trans hl (by decide)) hnl
      rw [List.length_nil, Nat.zero_add, ← natsV_len] at g
      exact callI (argsC rfl (argsC (callI rfl (if_pos hlen)) rfl)) g
  show (f56 _).map outV = _
  rw [e]; rfl
end Mine
end
section
namespace Mine

noncomputable def hor (n : Nat) : Nat → List Nat → Nat
  | acc, [] => acc
  | acc, d :: r => hor n (acc * 2 ^ n + d) r
theorem hor_append (n : Nat) : ∀ (a b : List Nat) (acc : Nat), hor n acc (a ++ b) = hor n (hor n acc a) b
  | [], b, acc => rfl
  | d :: a, b, acc => by rw [List.cons_append, hor, hor, hor_append n a b]
theorem hor_rev (n : Nat) : ∀ (l : List Nat), hor n 0 l.reverse = val n l
  | [] => rfl
  | d :: l => by rw [List.reverse_cons, hor_append, hor_rev n l, hor, hor, val, Nat.mul_comm]; exact Nat.add_comm (2 ^ n * val n l) d

noncomputable abbrev body63 : Rho → Option Out := seqF (assignTF (tupU [7, 4]) (callF (F35n 20) [(binF .Add (binF .LShift (getAny 4) (getAny 2)) (getAny 6)), (getAny 1), (getAny 2)])) (appendF 5 (getAny 7))

theorem for_cons {u : PV → Rho → Option Rho} {b : Rho → Option Out} {x : PV} {xs : List PV} {ρ ρ1 ρ2 : Rho} (hu : u x ρ = some ρ1) (hb : b ρ1 = some (.next ρ2)) : forF u b (x :: xs) ρ = forF u b xs ρ2 := by
  conv => lhs; unfold forF
  rw [hu, Option.bind_some, hb]; rfl
theorem for_ret {u : PV → Rho → Option Rho} {b : Rho → Option Out} {x : PV} {xs : List PV} {ρ ρ1 : Rho} {y : PV} (hu : u x ρ = some ρ1) (hb : b ρ1 = some (.ret y)) : forF u b (x :: xs) ρ = some (.ret y) := by
  conv => lhs; unfold forF
  rw [hu, Option.bind_some, hb]; rfl
theorem append_ok {i : Nat} {f : Rho → Option PV} {ρ : Rho} {x : PV} {xs : List PV} (h : f ρ = some x) (hi : ρ i = some (.ow xs)) (hs : x.sc = true) (hl : xs.length ≤ 1000000) : appendF i f ρ = some (.next (upd ρ i (.ow (xs ++ [x])))) := by
  unfold appendF appendV
  rw [h, Option.bind_some, hi]
  simp only
  rw [if_pos ⟨hs, hl⟩]

theorem loop63 {b n : Nat} (hb : 2 ^ n ≤ 2 * b) (hb2 : b < 2 ^ n) (hn : 1 ≤ n) (hn2 : n ≤ 1000000) : ∀ (ds : List Nat) (ρ : Rho) (r : Nat) (qs : List Nat), (∀ d ∈ ds, d < 2 ^ n) → ρ 1 = some (.fz (.int b)) → ρ 2 = some (.fz (.int n)) → ρ 4 = some (.fz (.int r)) → ρ 5 = some (.ow (natsV qs)) → r < b → qs.length + ds.length ≤ 1000000 →
    ∃ ρ' r' qs', forF (nameU 6) body63 (natsV ds) ρ = some (.next ρ') ∧ ρ' 2 = some (.fz (.int n)) ∧ ρ' 4 = some (.fz (.int (r' : Nat))) ∧ ρ' 5 = some (.ow (natsV (qs ++ qs'))) ∧ qs'.length = ds.length ∧ (∀ q ∈ qs', q < 2 ^ n) ∧ r' < b ∧ ∀ Q, hor n (Q * b + r) ds = hor n Q qs' * b + r'
  | [], ρ, r, qs, _, h1, h2, h4, h5, hr, _ => ⟨ρ, r, [], rfl, h2, h4, by rw [List.append_nil]; exact h5, rfl, (fun _ h => nomatch h), hr, fun _ => rfl⟩
  | d :: ds, ρ, r, qs, hd, h1, h2, h4, h5, hr, hl => by
    have hL : LIM = 134217728 := rfl
    have hd1 := hd d (.head _)
    have hlt : r * 2 ^ n + d < b * 2 ^ n := by
      have := Nat.mul_le_mul_right (2 ^ n) (show r + 1 ≤ b by exact Nat.succ_le_of_lt hr)
      rw [Nat.add_mul] at this; omega
    have u1 : intV .LShift (r : Int) (n : Int) = some ((r * 2 ^ n : Nat) : Int) := v_shl (by
      have : r < 2 ^ n := by exact Nat.lt_trans hr hb2
      have := bits_le this; grind)
    have u2 : intV .Add ((r * 2 ^ n : Nat) : Int) (d : Int) = some ((r * 2 ^ n + d : Nat) : Int) := v_add _ _
    have g := F35_ok 19 (r * 2 ^ n + d) b n hb hb2 hlt (by have : 2 ^ 19 = 524288 := rfl; grind) hn2 hn
    have hb0 : 0 < b := by exact Nat.zero_lt_of_lt hr
    have hq : (r * 2 ^ n + d) / b < 2 ^ n := Nat.div_lt_of_lt_mul hlt
    have hr' : (r * 2 ^ n + d) % b < b := Nat.mod_lt _ hb0
    have hql : (natsV qs).length ≤ 1000000 := by rw [natsV_len]; exact Nat.le_of_add_right_le hl
    have hqn : natsV (qs ++ [(r * 2 ^ n + d) / b]) = natsV qs ++ [.int ((r * 2 ^ n + d) / b : Nat)] := natsV_app _ _
    obtain ⟨ρ', r', qs', f1, f2, f3, f4, f5, f6, f7, f8⟩ := loop63 hb hb2 hn hn2 ds (upd (upd (upd (upd ρ 6 (.fz (.int (d : Int)))) 7 (.fz (.int ((r * 2 ^ n + d) / b : Nat)))) 4 (.fz (.int ((r * 2 ^ n + d) % b : Nat)))) 5 (.ow (natsV qs ++ [.int ((r * 2 ^ n + d) / b : Nat)]))) ((r * 2 ^ n + d) % b) (qs ++ [(r * 2 ^ n + d) / b]) (fun e he => hd e (.tail _ he)) h1 h2 rfl (by rw [hqn]; rfl) hr' (by rw [List.length_append, Nat.add_assoc]; exact Nat.add_comm ds.length 1 ▸ hl)
    refine ⟨ρ', r', (r * 2 ^ n + d) / b :: qs', (for_cons rfl ?_).trans f1, f2, f3, by rw [f4, List.append_assoc]; rfl, congrArg Nat.succ f5, fun q hq' => ?_, f7, fun Q => ?_⟩
    · refine seqN (assignTI (callI (argsC (binI (binI (getAny_fz h4) (getAny_fz h2) u1) rfl u2) (argsC (getAny_fz h1) (argsC (getAny_fz h2) rfl))) g) rfl) ?_
      exact append_ok rfl h5 rfl hql
    · rcases List.mem_cons.mp hq' with rfl | h
      · exact hq
      · exact f6 q h
    · rw [hor, hor, ← f8]
      congr 1
      have := Nat.div_add_mod (r * 2 ^ n + d) b
      rw [Nat.add_mul, Nat.add_mul, Nat.mul_assoc, Nat.mul_assoc, Nat.mul_comm b (2 ^ n)]
      rw [Nat.mul_comm] at this
      grind

theorem F63_ok {a b : Nat} (hb : 0 < b) (h : bits (a : Int) + bits (b : Int) ≤ 1000000) : F63 [.int (a : Int), .int (b : Int)] = some (.tuple [.int ((a / b : Nat) : Int), .int ((a % b : Nat) : Int)]) := by
  have e0 : F63 [.int (a : Int), .int (b : Int)] = (f63 (parR [.int (a : Int), .int (b : Int)])).map outV := rfl
  rw [e0]
  have p0 : parR [.int (a : Int), .int (b : Int)] 0 = some (.fz (.int a)) := rfl
  have p1 : parR [.int (a : Int), .int (b : Int)] 1 = some (.fz (.int b)) := rfl
  generalize parR [.int (a : Int), .int (b : Int)] = ρ at p0 p1 ⊢
  obtain ⟨n, hn⟩ : ∃ n, n = bits (b : Int) := ⟨_, rfl⟩
  have hn1 : 1 ≤ n := by rw [hn]; exact bits_pos hb
  have hb2 : b < 2 ^ n := by rw [hn]; exact lt_bits b
  have hb1 : 2 ^ n ≤ 2 * b := by
    have := bits_low hb
    rw [← hn] at this
    have e : 2 ^ n = 2 ^ (n - 1) * 2 := by rw [← Nat.pow_succ]; congr 1; exact Eq.symm (Nat.sub_one_add_one_eq_of_pos hn1)
    omega
  rw [← hn] at h
  obtain ⟨m, hm2, hm1, hm3, g49⟩ := F49_ok (a := a) (n := n) hn1 h
  have hm4 : m ≤ 1000000 := Nat.le_trans hm3 (Nat.le_trans hm1 (Nat.le_trans (Nat.sub_le _ _) h))
  obtain ⟨ρ', r', qs', f1, f2, f3, f4, f5, f6, f7, f8⟩ := loop63 hb1 hb2 hn1 (Nat.le_of_add_left_le h) (digN n m a).reverse (upd (upd (upd (upd ρ 2 (.fz (.int n))) 3 (.fz (.list (natsV (digN n m a))))) 4 (.fz (.int 0))) 5 (.ow [])) 0 [] (fun d hd => digN_lt n m a d (List.mem_reverse.mp hd)) p1 rfl rfl rfl hb (by rw [List.length_reverse, digN_len, List.length_nil, Nat.zero_add]; exact hm4)
  have hv := f8 0
  rw [Nat.zero_mul, Nat.zero_add, hor_rev, val_digN n m a (lt_of_bits hm2)] at hv
  have hu := div_unique hv.symm f7
  rw [List.nil_append] at f4
  rw [List.length_reverse, digN_len] at f5
  have hl : qs'.reverse.length = m := by rw [List.length_reverse, f5]
  have g56 := F56_ok (ns := qs'.reverse) (n := n) (by rw [hl]; exact hm4) (fun d hd => f6 d (List.mem_reverse.mp hd)) (by rw [hl]; exact Nat.le_trans hm1 (Nat.le_trans (Nat.sub_le _ _) h)) (Nat.le_of_add_left_le h)
  have hqv : val n qs'.reverse = a / b := by rw [← hor_rev, List.reverse_reverse]; exact hu.1
  rw [hqv] at g56
  rw [hu.2] at f3
  have e : f63 ρ = some (.ret (.tuple [.int ((a / b : Nat) : Int), .int ((a % b : Nat) : Int)])) := by
    refine seqA (x := .int n) (by rw [hn]; exact callI (argsC (getAny_fz p1) rfl) rfl) <| seqA (callI (argsC (getAny_fz p0) (argsC rfl rfl)) g49) <| seqA rfl <| seqN (assignN_ok rfl) <| seqN (ρ' := ρ') ?_ <| seqN (ρ' := upd ρ' 5 (.ow (natsV qs'.reverse))) ?_ <|
      seqA (callI (argsC rfl (argsC (getAny_fz f2) rfl)) g56) <| ret_ok (tupI (argsC rfl (argsC (getAny_fz f3) rfl)) (Nat.le_of_ble_eq_true rfl) rfl)
    · show Option.bind (some (natsV _).reverse) _ = _
      rw [show (natsV (digN n m a)).reverse = natsV (digN n m a).reverse from List.map_reverse.symm]
      exact f1
    · unfold revV
      rw [f4]
      exact (if_pos (by rw [natsV_len, f5]; exact hm4)).trans (by rw [show natsV qs'.reverse = (natsV qs').reverse from List.map_reverse])
  rw [e]; rfl
end Mine
end
section
namespace Mine

theorem bits_abs (a : Int) : bits a = bits ((a.natAbs : Nat) : Int) := by
  unfold bits Builtin.Int.intBits
  by_cases h : a = 0
  · subst h; rfl
  · have h1 : (a == 0) = false := by simpa using h
    have h2 : (((a.natAbs : Nat) : Int) == 0) = false := by simp; omega
    rw [h1, h2, Int.natAbs_natCast]
theorem bitsI_le {a : Int} {k : Nat} (h : a.natAbs < 2 ^ k) : bits a ≤ k := by rw [bits_abs]; exact bits_le h
theorem lt_bitsI (a : Int) : a.natAbs < 2 ^ bits a := by
  have := lt_bits a.natAbs
  rw [← bits_abs] at this; exact this
theorem bits_mono {a b : Int} (h : a.natAbs ≤ b.natAbs) : bits a ≤ bits b := bitsI_le (Nat.lt_of_le_of_lt h (lt_bitsI b))

noncomputable abbrev tup2 (q r : Int) : Option PV := some (.tuple [.int q, .int r])

theorem F70_pos {k : Nat} {a b : Nat} (hb : 0 < b) (h : bits (a : Int) + bits (b : Int) ≤ 1000000) : F70n (k + 1) [.int (a : Int), .int (b : Int)] = tup2 ((a / b : Nat) : Int) ((a % b : Nat) : Int) := by
  have e0 : F70n (k + 1) [.int (a : Int), .int (b : Int)] = (f70 (F70n k) (parR [.int (a : Int), .int (b : Int)])).map outV := rfl
  rw [e0]
  have p0 : parR [.int (a : Int), .int (b : Int)] 0 = some (.fz (.int a)) := rfl
  have p1 : parR [.int (a : Int), .int (b : Int)] 1 = some (.fz (.int b)) := rfl
  generalize parR [.int (a : Int), .int (b : Int)] = ρ at p0 p1 ⊢
  unfold f70
  have c1 : cmpF .Eq (getAny 1) (intF 0) ρ = some false := by
    simp only [cmpF, getAny, p1, intF, Option.bind_some, cmpV, cmpII, cmpSS, cmpBB, cmpNN]; congr 1 <;> simp <;> exact Nat.ne_zero_of_lt hb
  have c2 : cmpF .Lt (getAny 1) (intF 0) ρ = some false := by
    simp only [cmpF, getAny, p1, intF, Option.bind_some, cmpV, cmpII, cmpSS, cmpBB, cmpNN]; congr 1 <;> simp <;> omega
  have c3 : cmpF .Lt (getAny 0) (intF 0) ρ = some false := by
    simp only [cmpF, getAny, p0, intF, Option.bind_some, cmpV, cmpII, cmpSS, cmpBB, cmpNN]; congr 1 <;> simp <;> omega
  rw [if_no c1, if_no c2, if_no c3, ret_ok (x := .tuple [.int ((a / b : Nat) : Int), .int ((a % b : Nat) : Int)]) (by
    simp only [callF, argsF, getAny, p0, p1, Option.bind_some, Option.map_some]; exact F63_ok hb h)]
  rfl

theorem F70_neg {k : Nat} {a : Int} {b : Nat} (ha : a < 0) (hb : 0 < b) (h : bits a + bits (b : Int) ≤ 1000000) : F70n (k + 2) [.int a, .int (b : Int)] = tup2 (a.fdiv b) (a.fmod b) := by
  obtain ⟨n, hn⟩ : ∃ n : Nat, -a - 1 = (n : Int) := ⟨(-a - 1).toNat, by omega⟩
  have g := F70_pos (k := k) (a := n) hb (by
    have : bits (n : Int) ≤ bits a := bits_mono (by omega)
    grind)
  have e0 : F70n (k + 2) [.int a, .int (b : Int)] = (f70 (F70n (k + 1)) (parR [.int a, .int (b : Int)])).map outV := rfl
  rw [e0]
  have p0 : parR [.int a, .int (b : Int)] 0 = some (.fz (.int a)) := rfl
  have p1 : parR [.int a, .int (b : Int)] 1 = some (.fz (.int b)) := rfl
  generalize parR [.int a, .int (b : Int)] = ρ at p0 p1 ⊢
  unfold f70
  have c1 : cmpF .Eq (getAny 1) (intF 0) ρ = some false := by
    simp only [cmpF, getAny, p1, intF, Option.bind_some, cmpV, cmpII, cmpSS, cmpBB, cmpNN]; congr 1 <;> simp <;> exact Nat.ne_zero_of_lt hb
  have c2 : cmpF .Lt (getAny 1) (intF 0) ρ = some false := by
    simp only [cmpF, getAny, p1, intF, Option.bind_some, cmpV, cmpII, cmpSS, cmpBB, cmpNN]; congr 1 <;> simp <;> omega
  have c3 : cmpF .Lt (getAny 0) (intF 0) ρ = some true := by
    simp only [cmpF, getAny, p0, intF, Option.bind_some, cmpV, cmpII, cmpSS, cmpBB, cmpNN]; congr 1 <;> simp <;> omega
  have hi : ∀ x : Int, Builtin.bitNot x = -x - 1 := fun _ => rfl
  rw [if_no c1, if_no c2, if_yes c3]
  rw [seq_next (f := assignTF _ _) (ρ' := upd (upd ρ 2 (.fz (.int (n / b : Nat)))) 3 (.fz (.int (n % b : Nat)))) (by
    simp only [assignTF, callF, argsF, unF, getAny, p0, p1, Option.bind_some, unV, hi, hn, Option.map_some, g, tupU, updL])]
  rw [ret_ok (x := .tuple [.int (-((n / b : Nat) : Int) - 1), .int (b + (-((n % b : Nat) : Int) - 1))]) (by
    simp only [tupF, argsF, unF, binF, getAny, upd_at, reduceIte, Nat.reduceEqDiff, p1, Option.bind_some, unV, hi, binV, intV, Option.map_some, List.length_cons, List.length_nil, List.all_cons, List.all_nil, PV.sc, Bool.and_self, and_true, Nat.reduceAdd, Nat.reduceLeDiff, if_true])]
  have hmod := Nat.mod_lt n hb
  have hdm := Nat.div_add_mod n b
  have hdm' : (b : Int) * ((n / b : Nat) : Int) + ((n % b : Nat) : Int) = n := by exact_mod_cast hdm
  have hu := (Int.ediv_emod_unique (a := a) (b := (b : Int)) (r := b + (-((n % b : Nat) : Int) - 1)) (q := -((n / b : Nat) : Int) - 1) (by omega)).mpr ⟨by rw [Int.mul_sub, Int.mul_neg]; omega, by omega, by omega⟩
  rw [Int.fdiv_eq_ediv_of_nonneg _ (by exact Int.natCast_nonneg b), Int.fmod_eq_emod_of_nonneg _ (by exact Int.natCast_nonneg b), hu.1, hu.2]
  rfl

theorem F70_up {a : Int} {b : Nat} (hb : 0 < b) (h : bits a + bits (b : Int) ≤ 1000000) (k : Nat) : F70n (k + 2) [.int a, .int (b : Int)] = tup2 (a.fdiv b) (a.fmod b) := by
  rcases Int.lt_or_le a 0 with ha | ha
  · exact F70_neg ha hb h
  · obtain ⟨n, rfl⟩ := Int.eq_ofNat_of_zero_le ha
    rw [F70_pos (k := k + 1) hb h, Int.fdiv_eq_ediv_of_nonneg _ (by exact Int.natCast_nonneg b), Int.fmod_eq_emod_of_nonneg _ (by exact Int.natCast_nonneg b)]
    rfl

theorem F70_ok {a b : Int} (hb : b ≠ 0) (h : bits a + bits b ≤ 1000000) : F70 [.int a, .int b] = tup2 (a.fdiv b) (a.fmod b) := by
  rcases Int.lt_or_le b 0 with hn | hp
  · obtain ⟨n, hbn⟩ : ∃ n : Nat, -b = (n : Int) := ⟨(-b).toNat, by omega⟩
    have g := F70_up (a := -a) (b := n) (by omega) (by
      have h1 : bits (-a) ≤ bits a := bits_mono (by omega)
      have h2 : bits (n : Int) ≤ bits b := bits_mono (by omega)
      omega) 0
    have e0 : F70 [.int a, .int b] = (f70 (F70n 2) (parR [.int a, .int b])).map outV := rfl
    rw [e0]
    have p0 : parR [.int a, .int b] 0 = some (.fz (.int a)) := rfl
    have p1 : parR [.int a, .int b] 1 = some (.fz (.int b)) := rfl
    generalize parR [.int a, .int b] = ρ at p0 p1 ⊢
    unfold f70
    have c1 : cmpF .Eq (getAny 1) (intF 0) ρ = some false := by
      simp only [cmpF, getAny, p1, intF, Option.bind_some, cmpV, cmpII, cmpSS, cmpBB, cmpNN]; congr 1 <;> simp <;> omega
    have c2 : cmpF .Lt (getAny 1) (intF 0) ρ = some true := by
      simp only [cmpF, getAny, p1, intF, Option.bind_some, cmpV, cmpII, cmpSS, cmpBB, cmpNN]; congr 1 <;> simp <;> omega
    have hf : (-a).fdiv (n : Int) = a.fdiv b := by rw [← hbn, Int.neg_fdiv_neg]
    have hm : -((-a).fmod (n : Int)) = a.fmod b := by
      rw [Int.fmod_def, Int.fmod_def, hf, ← hbn, Int.neg_mul]; grind
    rw [if_no c1, if_yes c2]
    rw [seq_next (f := assignTF _ _) (ρ' := upd (upd ρ 2 (.fz (.int (a.fdiv b)))) 3 (.fz (.int ((-a).fmod n)))) (by
      simp only [assignTF, callF, argsF, unF, getAny, p0, p1, Option.bind_some, unV, hbn, Option.map_some, g, tupU, updL, hf])]
    rw [ret_ok (x := .tuple [.int (a.fdiv b), .int (a.fmod b)]) (by
      simp only [tupF, argsF, unF, binF, getAny, upd_at, reduceIte, Nat.reduceEqDiff, p1, Option.bind_some, unV, hm, binV, intV, Option.map_some, List.length_cons, List.length_nil, List.all_cons, List.all_nil, PV.sc, Bool.and_self, and_true, Nat.reduceAdd, Nat.reduceLeDiff, if_true])]
    rfl
  · obtain ⟨n, rfl⟩ := Int.eq_ofNat_of_zero_le hp
    exact F70_up (by exact Nat.zero_lt_of_ne_zero fun a => hb (congrArg Nat.cast a)) h 1
end Mine
end
section
namespace Mine

/-- the text of these signs -/
noncomputable abbrev mkS (l : List Nat) : Str := ⟨l.toArray⟩
theorem mkS_app (a b : List Nat) : mkS a ++ mkS b = mkS (a ++ b) := by
  show Str.append (mkS a) (mkS b) = _
  unfold Str.append; simp
theorem mkS_len (a : List Nat) : (mkS a).length = a.length := by simp [Str.length]
theorem mkS_inj {a b : List Nat} : (mkS a = mkS b) ↔ a = b := by simp [mkS]

theorem foldl_len (sep : Str) (hs : sep.length = 0) : ∀ (ys : List (List Nat)) (n : Nat), (ys.map mkS).foldl (fun acc (t : Str) => acc + t.length + sep.length) n = n + ys.flatten.length
  | [], n => by exact rfl
  | y :: ys, n => by
    rw [List.map_cons, List.foldl_cons, foldl_len sep hs ys, hs, mkS_len]
    simp; exact Nat.add_assoc n (List.length y) (List.sum (List.map List.length ys))
theorem join_mkS' : ∀ ys : List (List Nat), Str.join (mkS []) (ys.map mkS) = mkS ys.flatten
  | [] => rfl
  | [y] => by show mkS y = _; simp
  | y :: z :: r => by
    show mkS y ++ mkS [] ++ Str.join (mkS []) ((z :: r).map mkS) = _
    rw [join_mkS' (z :: r), mkS_app, mkS_app]; simp
theorem join_mkS (ys : List (List Nat)) : Txt.join (mkS []) (ys.map mkS) = mkS ys.flatten := by
  unfold Txt.join
  rw [StrLaws.glued_eq_join, join_mkS']
theorem strsOf_map : ∀ ys : List (List Nat), strsOf (ys.map fun l => PV.str (mkS l)) = some (ys.map mkS)
  | [] => rfl
  | y :: r => by rw [List.map_cons, strsOf, strsOf_map r]; rfl
theorem joinV_ok {ys : List (List Nat)} (h : ys.flatten.length ≤ 100000) : joinV [.str (mkS []), .list (ys.map fun l => .str (mkS l))] = some (.str (mkS ys.flatten)) := by
  have e := strsOf_map ys
  simp only [joinV]
  rw [e, Option.bind_some, if_pos, join_mkS]
  unfold JoinOk
  rw [List.foldl_toArray, foldl_len _ rfl]
  unfold Builtin.Str.tooLong
  rw [sizeLine_eq]
  simp only [Bool.not_eq_true', decide_eq_false_iff_not]
  omega

/-! the signs of a text in cells -/
noncomputable abbrev Cell := Bool × Nat
noncomputable def dressL : Nat → List Nat
  | 1 => [92, 41]
  | 2 => [34, 40, 34]
  | 3 => [92, 92]
  | 4 => [97]
  | 5 => [92, 34]
  | _ => []
noncomputable def parL (b : Bool) : Nat := if b then 40 else 41
noncomputable def cellL (c : Cell) : List Nat := parL c.1 :: dressL c.2
noncomputable def joinC (cs : List Cell) : List Nat := cs.flatMap cellL
noncomputable def strip (c : Cell) : Cell := if c.2 = 2 then (c.1, 0) else c
noncomputable def piece (i : Nat) (l : List Nat) : PV := .tuple [.int (i : Int), .str (mkS l)]
noncomputable def pcs (c : Cell) (i : Nat) : List PV := piece i [parL c.1] :: (match c.2 with
  | 1 => [piece (i + 2) [92, 41]]
  | 2 => [piece (i + 1) [34], piece (i + 2) [40], piece (i + 3) [34]]
  | 3 => [piece (i + 2) [92, 92]]
  | 4 => [piece (i + 1) [97]]
  | 5 => [piece (i + 2) [92, 34]]
  | _ => [])
theorem esc_plain {c i : Nat} {cs : List Nat} (h : c ≠ 92) : escGo false i (c :: cs) = piece i [c] :: escGo false (i + 1) cs := by
  have : ((⟨#[c]⟩ : Str) == "\\") = false := by
    have e : ("\\" : Str) = ⟨#[92]⟩ := by decide +kernel
    rw [e, beq_eq_false_iff_ne]
    intro q; injection q with q; simp at q; exact h q
  rw [escGo]
  simp only [Bool.false_eq_true, if_false, this]
  rfl
theorem esc_back {c i : Nat} {cs : List Nat} : escGo false i (92 :: c :: cs) = piece (i + 1) [92, c] :: escGo false (i + 2) cs := by
  have : ((⟨#[92]⟩ : Str) == "\\") = true := by decide +kernel
  rw [escGo]
  simp only [Bool.false_eq_true, if_false, this, if_true]
  rw [escGo]
  simp only [if_true]
  have e : ("\\" ++ (⟨#[c]⟩ : Str)) = mkS [92, c] := by
    have e : ("\\" : Str) = ⟨#[92]⟩ := by decide +kernel
    rw [e]; exact mkS_app [92] [c]
  rw [e]; rfl
theorem par_ne (b : Bool) : parL b ≠ 92 := by cases b <;> decide
theorem esc_cell {c : Cell} (hc : c.2 < 6) (i : Nat) (rest : List Nat) : escGo false i (cellL c ++ rest) = pcs c i ++ escGo false (i + (cellL c).length) rest := by
  obtain ⟨b, d⟩ := c
  simp only at hc
  have h0 : cellL (b, d) ++ rest = parL b :: (dressL d ++ rest) := rfl
  rw [h0, esc_plain (par_ne b)]
  have hd : d = 0 ∨ d = 1 ∨ d = 2 ∨ d = 3 ∨ d = 4 ∨ d = 5 := by grind
  rcases hd with rfl | rfl | rfl | rfl | rfl | rfl
  · rfl
  · show _ :: escGo false (i + 1) (92 :: 41 :: rest) = _
    rw [esc_back]; rfl
  · show _ :: escGo false (i + 1) (34 :: 40 :: 34 :: rest) = _
    rw [esc_plain (by decide), esc_plain (by decide), esc_plain (by decide)]; rfl
  · show _ :: escGo false (i + 1) (92 :: 92 :: rest) = _
    rw [esc_back]; rfl
  · show _ :: escGo false (i + 1) (97 :: rest) = _
    rw [esc_plain (by decide)]; rfl
  · show _ :: escGo false (i + 1) (92 :: 34 :: rest) = _
    rw [esc_back]; rfl
theorem esc_tail (i : Nat) : escGo false i [92] = [piece i [92]] := by
  have : ((⟨#[92]⟩ : Str) == "\\") = true := by decide +kernel
  rw [escGo]
  simp only [Bool.false_eq_true, if_false, this, if_true]
  rw [escGo]
  simp only [if_true]
  have e : ("\\" : Str) = ⟨#[92]⟩ := by decide +kernel
  have e2 : (((i + 1 : Nat) : Int) - 1) = (i : Int) := by grind
  rw [e, e2]; rfl
end Mine
end
section
namespace Mine

theorem pickS_mid {l : List Nat} {s p : Nat} (h1 : s ≤ p) (h2 : p ≤ l.length) : pickS (some (s : Int)) (some (p : Int)) (mkS l) = mkS ((l.drop s).take (p - s)) := by
  unfold pickS pick kms_lo kms_hi
  simp only
  rw [if_neg (by exact Int.not_ofNat_neg p), if_neg (by exact Int.not_ofNat_neg s)]
  simp only [Int.toNat_natCast]
  rw [Nat.min_eq_left (by omega), Nat.min_eq_left (by exact Nat.le_trans h1 h2)]
theorem pickS_from {l : List Nat} {s : Nat} (h1 : s ≤ l.length) : pickS (some (s : Int)) none (mkS l) = mkS (l.drop s) := by
  unfold pickS pick kms_lo kms_hi
  simp only
  rw [if_neg (by exact Int.not_ofNat_neg s)]
  simp only [Int.toNat_natCast]
  rw [Nat.min_eq_left (by omega), List.take_of_length_le (by simp)]

noncomputable abbrev strsV (rs : List (List Nat)) : List PV := rs.map fun l => PV.str (mkS l)
structure St84 (l : List Nat) (s : Nat) (rs : List (List Nat)) (ρ : Rho) : Prop where
  h0 : ρ 0 = some (.fz (.str (mkS l)))
  h1 : ρ 1 = some (.fz (.int s))
  h2 : ρ 2 = some (.fz .none)
  h3 : ρ 3 = some (.ow (strsV rs))
noncomputable abbrev body84 : Rho → Option Out := (ifF (cmpF .Eq (getAny 5) (strF "\"")) (ifF (cmpF .Is (getAny 2) noneF) (assignF 2 (getFz 4)) (seqF (ifF (cmpF .NotEq (getAny 1) (getAny 2)) (appendF 3 (sliceSF (getAny 0) (some (getAny 1)) (some (getAny 2)))) passF)
  (seqF (assignF 1 (binF .Add (getAny 4) (intF 1)))
  (assignF 2 noneF)))) passF)
noncomputable abbrev u84 : PV → Rho → Option Rho := tupU [4, 5]
theorem quote_lit : ("\"" : Str) = mkS [34] := by exact rfl
theorem ch_eq {ρ : Rho} {j : Nat} {ch : List Nat} {x : Str} {k : List Nat} (h : ρ j = some (.fz (.str (mkS ch)))) (hx : x = mkS k) : cmpF .Eq (getAny j) (strF x) ρ = some (decide (ch = k)) := by
  simp only [cmpF, getAny, h, strF, Option.bind_some, cmpV, cmpII, cmpSS, cmpBB, cmpNN, hx]
  congr 1
  rw [Bool.eq_iff_iff, beq_iff_eq, decide_eq_true_iff, mkS_inj]
theorem noop84 {l ch : List Nat} {s i : Nat} {rs : List (List Nat)} {ρ : Rho} (hc : ch ≠ [34]) (S : St84 l s rs ρ) (rest : List PV) : ∃ ρ', forF u84 body84 (piece i ch :: rest) ρ = forF u84 body84 rest ρ' ∧ St84 l s rs ρ' := by
  refine ⟨upd (upd ρ 4 (.fz (.int i))) 5 (.fz (.str (mkS ch))), ?_, by simp [upd_at, S.h0], by simp [upd_at, S.h1], by simp [upd_at, S.h2], by simp [upd_at, S.h3]⟩
  refine for_cons (ρ1 := upd (upd ρ 4 (.fz (.int i))) 5 (.fz (.str (mkS ch)))) rfl ?_
  unfold body84
  rw [if_no (by rw [ch_eq (ch := ch) (by exact rfl) quote_lit, decide_eq_false hc])]
  rfl
theorem quote84 {l : List Nat} {s p : Nat} {rs : List (List Nat)} {ρ : Rho} (hs : s < p) (hp : p ≤ l.length) (hl : l.length ≤ 1000000) (hrs : rs.length ≤ 1000000) (S : St84 l s rs ρ) (rest : List PV) :
    ∃ ρ', forF u84 body84 (piece p [34] :: piece (p + 1) [40] :: piece (p + 2) [34] :: rest) ρ = forF u84 body84 rest ρ' ∧ St84 l (p + 3) (rs ++ [(l.drop s).take (p - s)]) ρ' := by
  have e1 : forF u84 body84 (piece p [34] :: piece (p + 1) [40] :: piece (p + 2) [34] :: rest) ρ = forF u84 body84 (piece (p + 1) [40] :: piece (p + 2) [34] :: rest) (upd (upd (upd ρ 4 (.fz (.int p))) 5 (.fz (.str (mkS [34])))) 2 (.fz (.int p))) := by
    refine for_cons (ρ1 := upd (upd ρ 4 (.fz (.int p))) 5 (.fz (.str (mkS [34])))) rfl ?_
    unfold body84
    rw [if_yes (by rw [ch_eq (ch := [34]) (by simp [upd_at]) quote_lit]; rfl), if_yes (by simp only [cmpF, getAny, upd_at, reduceIte, Nat.reduceEqDiff, S.h2, noneF, Option.bind_some, cmpV, cmpII, cmpSS, cmpBB, cmpNN]), assign_ok (x := .int p) (by exact rfl)]
  have e2 : ∀ ρ0 : Rho, forF u84 body84 (piece (p + 1) [40] :: piece (p + 2) [34] :: rest) ρ0 = forF u84 body84 (piece (p + 2) [34] :: rest) (upd (upd ρ0 4 (.fz (.int (p + 1 : Nat)))) 5 (.fz (.str (mkS [40])))) := fun ρ0 => by
    refine for_cons (ρ1 := upd (upd ρ0 4 (.fz (.int (p + 1 : Nat)))) 5 (.fz (.str (mkS [40])))) rfl ?_
    unfold body84
    rw [if_no (by rw [ch_eq (ch := [40]) (by exact rfl) quote_lit]; rfl)]
    rfl
  have e3 : ∀ ρ0 : Rho, ρ0 0 = some (.fz (.str (mkS l))) → ρ0 1 = some (.fz (.int s)) → ρ0 2 = some (.fz (.int p)) → ρ0 3 = some (.ow (strsV rs)) → ∃ ρ', forF u84 body84 (piece (p + 2) [34] :: rest) ρ0 = forF u84 body84 rest ρ' ∧ St84 l (p + 3) (rs ++ [(l.drop s).take (p - s)]) ρ' := fun ρ0 h0 h1 h2 h3 => by
    refine ⟨upd (upd (upd (upd (upd ρ0 4 (.fz (.int (p + 2 : Nat)))) 5 (.fz (.str (mkS [34])))) 3 (.ow (strsV (rs ++ [(l.drop s).take (p - s)])))) 1 (.fz (.int (p + 3 : Nat)))) 2 (.fz .none), ?_, by exact (fun {α} {a} {b} => Iff.mp Option.mem_def) h0, by exact rfl, by exact rfl, by exact rfl⟩
    refine for_cons (ρ1 := upd (upd ρ0 4 (.fz (.int (p + 2 : Nat)))) 5 (.fz (.str (mkS [34])))) rfl ?_
    unfold body84
    rw [if_yes (by rw [ch_eq (ch := [34]) (by exact rfl) quote_lit]; rfl), if_no (by simp only [cmpF, getAny, upd_at, reduceIte, Nat.reduceEqDiff, h2, noneF, Option.bind_some, cmpV, cmpII, cmpSS, cmpBB, cmpNN])]
    have hne : ((s : Int) != (p : Int)) = true := by simp; omega
    rw [seq_next (f := ifF _ _ _) (ρ' := upd (upd (upd ρ0 4 (.fz (.int (p + 2 : Nat)))) 5 (.fz (.str (mkS [34])))) 3 (.ow (strsV (rs ++ [(l.drop s).take (p - s)])))) (by
      rw [if_yes (by simp only [cmpF, getAny, upd_at, reduceIte, Nat.reduceEqDiff, h1, h2, Option.bind_some, cmpV, cmpII, cmpSS, cmpBB, cmpNN, hne])]
      rw [append_ok (x := .str (mkS ((l.drop s).take (p - s)))) (xs := strsV rs) (by
        simp only [sliceSF, getAny, partF, upd_at, reduceIte, Nat.reduceEqDiff, h0, h1, h2, Option.bind_some]
        rw [if_pos (by rw [mkS_len]; exact hl), pickS_mid (by exact Nat.le_of_succ_le hs) hp]) (by exact (fun {α} {a} {b} => Iff.mp Option.mem_def) h3) rfl (by simpa using hrs)]
      simp)]
    have ha : intV .Add ((p + 2 : Nat) : Int) 1 = some ((p + 3 : Nat) : Int) := v_add (p + 2) 1
    rw [seq_next (assign_ok (x := .int (p + 3 : Nat)) (by exact rfl)), assign_ok (x := .none) rfl]
  rw [e1, e2]
  exact e3 _ (by simp [upd_at, S.h0]) (by simp [upd_at, S.h1]) (by exact rfl) (by simp [upd_at, S.h3])

theorem joinC_snoc (cs : List Cell) (c : Cell) : joinC (cs ++ [c]) = joinC cs ++ cellL c := by simp [joinC]
theorem joinC_cons (cs : List Cell) (c : Cell) : joinC (c :: cs) = cellL c ++ joinC cs := by simp [joinC]
theorem joinC_app (a b : List Cell) : joinC (a ++ b) = joinC a ++ joinC b := by simp [joinC]
theorem par_noq (b : Bool) : [parL b] ≠ [34] := by cases b <;> decide

theorem loop84 {l tail : List Nat} (ht : tail = [] ∨ tail = [92]) (hl : l.length ≤ 1000000) : ∀ (cs prev : List Cell) (ρ : Rho) (s : Nat) (rs : List (List Nat)), l = joinC prev ++ (joinC cs ++ tail) → (∀ c ∈ cs, c.2 < 6) → St84 l s rs ρ → s ≤ (joinC prev).length →
    rs.flatten ++ (joinC prev).drop s = joinC (prev.map strip) → rs.length + cs.length ≤ 1000000 →
    ∃ ρ' s' rs', forF u84 body84 (escGo false (joinC prev).length (joinC cs ++ tail)) ρ = some (.next ρ') ∧ St84 l s' rs' ρ' ∧ s' ≤ l.length ∧ rs'.flatten ++ l.drop s' = joinC ((prev ++ cs).map strip) ++ tail ∧ rs'.length ≤ rs.length + cs.length
  | [], prev, ρ, s, rs, e, _, S, hs, hi, hrs => by
    have fin : rs.flatten ++ l.drop s = joinC (prev.map strip) ++ tail := by
      rw [e, List.drop_append_of_le_length hs, ← List.append_assoc, hi]; rfl
    have hsl : s ≤ l.length := by rw [e]; simp; exact Nat.le_add_right_of_le hs
    rcases ht with rfl | rfl
    · exact ⟨ρ, s, rs, rfl, S, hsl, by rw [List.append_nil prev]; exact fin, by simp⟩
    · obtain ⟨ρ', f1, f2⟩ := noop84 (i := (joinC prev).length) (ch := [92]) (by decide) S []
      refine ⟨ρ', s, rs, ?_, f2, hsl, by rw [List.append_nil prev]; exact fin, by simp⟩
      show forF u84 body84 (escGo false (joinC prev).length [92]) ρ = _
      rw [esc_tail, f1]; rfl
  | c :: cs, prev, ρ, s, rs, e, hc, S, hs, hi, hrs => by
    have hc1 := hc c (.head _)
    have ex : joinC (c :: cs) ++ tail = cellL c ++ (joinC cs ++ tail) := by rw [joinC_cons, List.append_assoc]
    have e' : l = joinC (prev ++ [c]) ++ (joinC cs ++ tail) := by rw [e, ex, joinC_snoc, List.append_assoc]
    have elen : (joinC prev).length + (cellL c).length = (joinC (prev ++ [c])).length := by rw [joinC_snoc, List.length_append]
    have eapp : prev ++ c :: cs = (prev ++ [c]) ++ cs := by simp
    have go : ∀ (ρ1 : Rho) (s1 : Nat) (rs1 : List (List Nat)), forF u84 body84 (pcs c (joinC prev).length ++ escGo false ((joinC prev).length + (cellL c).length) (joinC cs ++ tail)) ρ = forF u84 body84 (escGo false ((joinC prev).length + (cellL c).length) (joinC cs ++ tail)) ρ1 → St84 l s1 rs1 ρ1 → s1 ≤ (joinC (prev ++ [c])).length →
        rs1.flatten ++ (joinC (prev ++ [c])).drop s1 = joinC ((prev ++ [c]).map strip) → rs1.length ≤ rs.length + 1 →
        ∃ ρ' s' rs', forF u84 body84 (escGo false (joinC prev).length (joinC (c :: cs) ++ tail)) ρ = some (.next ρ') ∧ St84 l s' rs' ρ' ∧ s' ≤ l.length ∧ rs'.flatten ++ l.drop s' = joinC ((prev ++ c :: cs).map strip) ++ tail ∧ rs'.length ≤ rs.length + (c :: cs).length := fun ρ1 s1 rs1 g1 g2 g3 g4 g5 => by
      obtain ⟨ρ', s', rs', k1, k2, k3, k4, k5⟩ := loop84 ht hl cs (prev ++ [c]) ρ1 s1 rs1 e' (fun d hd => hc d (.tail _ hd)) g2 g3 g4 (by simp at hrs; grind)
      refine ⟨ρ', s', rs', ?_, k2, k3, by rw [eapp]; exact k4, by simp; grind⟩
      rw [ex, esc_cell hc1, g1, elen, k1]
    have plain : strip c = c → (∃ ρ1, forF u84 body84 (pcs c (joinC prev).length ++ escGo false ((joinC prev).length + (cellL c).length) (joinC cs ++ tail)) ρ = forF u84 body84 (escGo false ((joinC prev).length + (cellL c).length) (joinC cs ++ tail)) ρ1 ∧ St84 l s rs ρ1) →
        ∃ ρ' s' rs', forF u84 body84 (escGo false (joinC prev).length (joinC (c :: cs) ++ tail)) ρ = some (.next ρ') ∧ St84 l s' rs' ρ' ∧ s' ≤ l.length ∧ rs'.flatten ++ l.drop s' = joinC ((prev ++ c :: cs).map strip) ++ tail ∧ rs'.length ≤ rs.length + (c :: cs).length := fun hst ⟨ρ1, g1, g2⟩ =>
      go ρ1 s rs g1 g2 (by rw [← elen]; exact Nat.le_add_right_of_le hs) (by rw [joinC_snoc, List.drop_append_of_le_length hs, ← List.append_assoc, hi, List.map_append, List.map_cons, List.map_nil, joinC_snoc, hst]) (by exact Nat.le_add_right (List.length rs) 1)
    obtain ⟨b, d⟩ := c
    have hd : d = 0 ∨ d = 1 ∨ d = 2 ∨ d = 3 ∨ d = 4 ∨ d = 5 := by simp only at hc1; grind
    rcases hd with rfl | rfl | rfl | rfl | rfl | rfl
    · exact plain rfl (noop84 (par_noq b) S _)
    · refine plain rfl ?_
      obtain ⟨ρ1, f1, f2⟩ := noop84 (i := (joinC prev).length) (par_noq b) S (piece ((joinC prev).length + 2) [92, 41] :: escGo false ((joinC prev).length + (cellL (b, 1)).length) (joinC cs ++ tail))
      obtain ⟨ρ2, g1, g2⟩ := noop84 (i := (joinC prev).length + 2) (ch := [92, 41]) (by decide) f2 (escGo false ((joinC prev).length + (cellL (b, 1)).length) (joinC cs ++ tail))
      exact ⟨ρ2, f1.trans g1, g2⟩
    · obtain ⟨ρ1, f1, f2⟩ := noop84 (i := (joinC prev).length) (par_noq b) S (piece ((joinC prev).length + 1) [34] :: piece ((joinC prev).length + 2) [40] :: piece ((joinC prev).length + 3) [34] :: escGo false ((joinC prev).length + (cellL (b, 2)).length) (joinC cs ++ tail))
      have hcl : (cellL (b, 2)).length = 4 := rfl
      have hlen : (joinC prev).length + 4 ≤ l.length := by rw [e', List.length_append, ← elen, hcl]; exact Nat.le_add_right (List.length (joinC prev) + 4) (List.length (joinC cs ++ tail))
      have hd0 : (joinC (prev ++ [(b, 2)])).drop ((joinC prev).length + 4) = [] := List.drop_of_length_le (by rw [← elen, hcl]; exact Nat.le_refl (List.length (joinC prev) + 4))
      obtain ⟨ρ2, g1, g2⟩ := quote84 (p := (joinC prev).length + 1) (by exact Nat.lt_succ_of_le hs) (by grind) hl (by exact Nat.le_of_add_right_le hrs) f2 (escGo false ((joinC prev).length + (cellL (b, 2)).length) (joinC cs ++ tail))
      refine go ρ2 ((joinC prev).length + 4) _ (f1.trans g1) g2 (by rw [← elen, hcl]; exact Nat.le_refl (List.length (joinC prev) + 4)) ?_ (by simp)
      have hslice : (l.drop s).take ((joinC prev).length + 1 - s) = (joinC prev).drop s ++ [parL b] := by
        rw [e, ex, List.drop_append_of_le_length hs]
        have : (joinC prev).length + 1 - s = ((joinC prev).drop s).length + 1 := by rw [List.length_drop]; exact Nat.sub_add_comm hs
        rw [this, List.take_length_add_append]
        rfl
      rw [hslice, hd0, List.append_nil]
      rw [List.flatten_append, List.flatten_cons, List.flatten_nil, List.append_nil, ← List.append_assoc, hi, List.map_append, List.map_cons, List.map_nil, joinC_snoc]
      rfl
    · refine plain rfl ?_
      obtain ⟨ρ1, f1, f2⟩ := noop84 (i := (joinC prev).length) (par_noq b) S (piece ((joinC prev).length + 2) [92, 92] :: escGo false ((joinC prev).length + (cellL (b, 3)).length) (joinC cs ++ tail))
      obtain ⟨ρ2, g1, g2⟩ := noop84 (i := (joinC prev).length + 2) (ch := [92, 92]) (by decide) f2 (escGo false ((joinC prev).length + (cellL (b, 3)).length) (joinC cs ++ tail))
      exact ⟨ρ2, f1.trans g1, g2⟩
    · refine plain rfl ?_
      obtain ⟨ρ1, f1, f2⟩ := noop84 (i := (joinC prev).length) (par_noq b) S (piece ((joinC prev).length + 1) [97] :: escGo false ((joinC prev).length + (cellL (b, 4)).length) (joinC cs ++ tail))
      obtain ⟨ρ2, g1, g2⟩ := noop84 (i := (joinC prev).length + 1) (ch := [97]) (by decide) f2 (escGo false ((joinC prev).length + (cellL (b, 4)).length) (joinC cs ++ tail))
      exact ⟨ρ2, f1.trans g1, g2⟩
    · refine plain rfl ?_
      obtain ⟨ρ1, f1, f2⟩ := noop84 (i := (joinC prev).length) (par_noq b) S (piece ((joinC prev).length + 2) [92, 34] :: escGo false ((joinC prev).length + (cellL (b, 5)).length) (joinC cs ++ tail))
      obtain ⟨ρ2, g1, g2⟩ := noop84 (i := (joinC prev).length + 2) (ch := [92, 34]) (by decide) f2 (escGo false ((joinC prev).length + (cellL (b, 5)).length) (joinC cs ++ tail))
      exact ⟨ρ2, f1.trans g1, g2⟩
end Mine
end
section
namespace Mine

theorem strip_lt {c : Cell} (h : c.2 < 6) : (strip c).2 < 6 ∧ (strip c).2 ≠ 2 ∧ (strip c).1 = c.1 := by
  unfold strip
  split
  · exact ⟨by simp, by exact Nat.zero_ne_add_one 1, rfl⟩
  · exact ⟨h, by assumption, rfl⟩
theorem strip_len (c : Cell) : (cellL (strip c)).length ≤ (cellL c).length := by
  unfold strip
  split
  · exact (fun {α} {l} {i} => Iff.mp List.getElem?_eq_none_iff) rfl
  · exact Nat.le_refl _
theorem joinC_strip_len : ∀ cs : List Cell, (joinC (cs.map strip)).length ≤ (joinC cs).length
  | [] => by simp
  | c :: cs => by
    rw [List.map_cons, joinC_cons, joinC_cons, List.length_append, List.length_append]
    have := strip_len c
    have := joinC_strip_len cs
    grind
theorem no_quote : ∀ {cs : List Cell}, 34 ∉ joinC cs → cs.map strip = cs
  | [], _ => rfl
  | c :: cs, h => by
    rw [joinC_cons, List.mem_append, not_or] at h
    rw [List.map_cons, no_quote h.2]
    congr 1
    unfold strip
    split
    · rename_i h2
      exact absurd (by unfold cellL; rw [h2]; exact List.mem_of_getLast? rfl) h.1
    · rfl
theorem empty_lit : ("" : Str) = mkS [] := by decide +kernel

theorem F84_ok {cs : List Cell} {tail : List Nat} (ht : tail = [] ∨ tail = [92]) (hc : ∀ c ∈ cs, c.2 < 6) (hl : (joinC cs ++ tail).length ≤ 1000) (hn : cs.length ≤ 1000) :
    F84 [.str (mkS (joinC cs ++ tail))] = some (.str (mkS (joinC (cs.map strip) ++ tail))) := by
  have e0 : F84 [.str (mkS (joinC cs ++ tail))] = (f84 (parR [.str (mkS (joinC cs ++ tail))])).map outV := rfl
  rw [e0]
  have p0 : parR [.str (mkS (joinC cs ++ tail))] 0 = some (.fz (.str (mkS (joinC cs ++ tail)))) := rfl
  generalize parR [.str (mkS (joinC cs ++ tail))] = ρ at p0 ⊢
  have ht34 : 34 ∉ tail := by rcases ht with rfl | rfl <;> decide
  have c1 : cmpF .NotIn (strF "\"") (getAny 0) ρ = some (!(decide (34 ∈ joinC cs ++ tail))) := by
    simp only [cmpF, strF, getAny, p0, Option.bind_some, cmpV, cmpII, cmpSS, cmpBB, cmpNN]
    have := StrLaws.found_one (mkS (joinC cs ++ tail)) 34
    rw [quote_lit]
    show some (!(!(Builtin.Str.occurrences (mkS (joinC cs ++ tail)) ⟨#[34]⟩ 0 (mkS (joinC cs ++ tail)).length 1).isEmpty)) = _
    rw [this]
  unfold f84
  by_cases hq : 34 ∈ joinC cs ++ tail
  · rw [decide_eq_true hq] at c1
    rw [seq_next (f := ifF _ _ _) (ρ' := ρ) (by rw [if_no c1]; rfl), seq_next (assign_ok (x := .int 0) rfl), seq_next (assign_ok (x := .none) rfl), seq_next (assignN_ok (x := []) rfl)]
    have S : St84 (joinC cs ++ tail) 0 [] (upd (upd (upd ρ 1 (.fz (.int 0))) 2 (.fz .none)) 3 (.ow [])) := ⟨p0, rfl, rfl, rfl⟩
    generalize upd (upd (upd ρ 1 (.fz (.int 0))) 2 (.fz .none)) 3 (.ow []) = ρ1 at S ⊢
    obtain ⟨ρ', s', rs', k1, k2, k3, k4, k5⟩ := loop84 (l := joinC cs ++ tail) ht (by omega) cs [] ρ1 0 [] rfl hc S (Nat.le_refl _) rfl (by simp; omega)
    have hfor : forE (genIt (getAny 0)) u84 body84 ρ1 = some (.next ρ') := by
      simp only [forE, genIt, getAny, S.h0, Option.bind_some, toEsc]
      exact k1
    rw [seq_next hfor]
    rw [List.nil_append] at k4
    simp only [List.length_nil, Nat.zero_add] at k5
    have hT : (joinC (cs.map strip) ++ tail).length ≤ 1000 := by
      have := joinC_strip_len cs
      simp at hl ⊢; grind
    have c2 : cmpF .Lt (getAny 1) (callF lenV [(getAny 0)]) ρ' = some (decide ((s' : Int) < (((joinC cs ++ tail).length : Nat) : Int))) := by
      simp only [cmpF, getAny, k2.h1, callF, argsF, k2.h0, Option.bind_some, Option.map_some, lenV, mkS_len]
      rw [if_pos (by omega)]; rfl
    by_cases hs : (s' : Int) < (((joinC cs ++ tail).length : Nat) : Int)
    · rw [decide_eq_true hs] at c2
      rw [seq_next (f := ifF _ _ _) (ρ' := upd ρ' 3 (.ow (strsV (rs' ++ [(joinC cs ++ tail).drop s'])))) (by
        rw [if_yes c2, append_ok (x := .str (mkS ((joinC cs ++ tail).drop s'))) (xs := strsV rs') (by
          simp only [sliceSF, getAny, partF, k2.h0, k2.h1, Option.bind_some]
          rw [if_pos (by rw [mkS_len]; omega), pickS_from k3]) k2.h3 rfl (by simp; omega)]
        simp)]
      rw [ret_ok (x := .str (mkS (joinC (cs.map strip) ++ tail))) (by
        simp only [callF, argsF, strF, getAny, upd_at, reduceIte, Nat.reduceEqDiff, Option.bind_some, Option.map_some]
        rw [empty_lit]
        have hf : (rs' ++ [(joinC cs ++ tail).drop s']).flatten = joinC (cs.map strip) ++ tail := by
          rw [List.flatten_append, List.flatten_cons, List.flatten_nil, List.append_nil]; exact k4
        have := joinV_ok (ys := rs' ++ [(joinC cs ++ tail).drop s']) (by rw [hf]; omega)
        rw [hf] at this
        exact this)]
      rfl
    · rw [decide_eq_false hs] at c2
      rw [seq_next (f := ifF _ _ _) (ρ' := ρ') (by rw [if_no c2]; rfl)]
      rw [List.drop_of_length_le (by omega), List.append_nil] at k4
      rw [ret_ok (x := .str (mkS (joinC (cs.map strip) ++ tail))) (by
        simp only [callF, argsF, strF, getAny, k2.h3, Option.bind_some, Option.map_some]
        rw [empty_lit]
        have := joinV_ok (ys := rs') (by rw [k4]; omega)
        rw [k4] at this
        exact this)]
      rfl
  · rw [decide_eq_false hq] at c1
    have hcs : cs.map strip = cs := no_quote fun h => hq (List.mem_append.mpr (.inl h))
    rw [hcs, seq_ret (x := .str (mkS (joinC cs ++ tail))) (by rw [if_yes c1]; exact ret_ok (by simp [getRt, p0, PV.sc]))]
    rfl

/-! the brackets told -/
noncomputable def balGo : Int → List Bool → Bool
  | o, [] => o == 0
  | o, true :: r => balGo (o + 1) r
  | o, false :: r => if o - 1 < 0 then false else balGo (o - 1) r

noncomputable abbrev body91 : Rho → Option Out := (ifF (cmpF .Eq (getAny 3) (strF "(")) (augF 1 .Add (intF 1)) (ifF (cmpF .Eq (getAny 3) (strF ")")) (seqF (augF 1 .Sub (intF 1))
  (ifF (cmpF .Lt (getAny 1) (intF 0)) (retF (boolF false)) passF)) passF))
noncomputable abbrev u91 : PV → Rho → Option Rho := tupU [2, 3]
noncomputable def K91 (xs : List PV) (ρ : Rho) : Option Out := seqF (fun ρ => forF u91 body91 xs ρ) (retF (cmpB .Eq (getAny 1) (intF 0))) ρ
theorem open_lit : ("(" : Str) = mkS [40] := by decide +kernel
theorem close_lit : (")" : Str) = mkS [41] := by decide +kernel
theorem K_next {x : PV} {xs : List PV} {ρ ρ1 ρ2 : Rho} (hu : u91 x ρ = some ρ1) (hb : body91 ρ1 = some (.next ρ2)) : K91 (x :: xs) ρ = K91 xs ρ2 := by
  unfold K91 seqF
  simp only
  rw [for_cons hu hb]
theorem noop91 {ch : List Nat} {i : Nat} {o : Int} {ρ : Rho} (h1 : ch ≠ [40]) (h2 : ch ≠ [41]) (ho : ρ 1 = some (.fz (.int o))) (rest : List PV) : ∃ ρ', K91 (piece i ch :: rest) ρ = K91 rest ρ' ∧ ρ' 1 = some (.fz (.int o)) := by
  refine ⟨upd (upd ρ 2 (.fz (.int i))) 3 (.fz (.str (mkS ch))), K_next (ρ1 := upd (upd ρ 2 (.fz (.int i))) 3 (.fz (.str (mkS ch)))) rfl ?_, ho⟩
  unfold body91
  rw [if_no (by rw [ch_eq (ch := ch) (rfl) open_lit, decide_eq_false h1]), if_no (by rw [ch_eq (ch := ch) (rfl) close_lit, decide_eq_false h2])]
  rfl
theorem open91 {i : Nat} {o : Int} {ρ : Rho} (ho : ρ 1 = some (.fz (.int o))) (rest : List PV) : ∃ ρ', K91 (piece i [40] :: rest) ρ = K91 rest ρ' ∧ ρ' 1 = some (.fz (.int (o + 1))) := by
  refine ⟨upd (upd (upd ρ 2 (.fz (.int i))) 3 (.fz (.str (mkS [40])))) 1 (.fz (.int (o + 1))), K_next (ρ1 := upd (upd ρ 2 (.fz (.int i))) 3 (.fz (.str (mkS [40])))) rfl ?_, rfl⟩
  unfold body91
  rw [if_yes (by rw [ch_eq (ch := [40]) (by exact rfl) open_lit]; rfl), aug_ok (a := o) (b := 1) (r := o + 1) (by exact (fun {α} {a} {b} => Iff.mp Option.mem_def) ho) rfl rfl (by exact Or.symm (Or.inr rfl))]
theorem close91 {i : Nat} {o : Int} {ρ : Rho} (ho : ρ 1 = some (.fz (.int o))) (rest : List PV) : (o - 1 < 0 → K91 (piece i [41] :: rest) ρ = some (.ret (.bool false))) ∧ (¬ o - 1 < 0 → ∃ ρ', K91 (piece i [41] :: rest) ρ = K91 rest ρ' ∧ ρ' 1 = some (.fz (.int (o - 1)))) := by
  have hb : body91 (upd (upd ρ 2 (.fz (.int i))) 3 (.fz (.str (mkS [41])))) = ifF (cmpF .Lt (getAny 1) (intF 0)) (retF (boolF false)) passF (upd (upd (upd ρ 2 (.fz (.int i))) 3 (.fz (.str (mkS [41])))) 1 (.fz (.int (o - 1)))) := by
    unfold body91
    rw [if_no (by rw [ch_eq (ch := [41]) (by simp [upd_at]) open_lit]; rfl), if_yes (by rw [ch_eq (ch := [41]) (by simp [upd_at]) close_lit]; rfl), seq_next (aug_ok (a := o) (b := 1) (r := o - 1) (by exact (fun {α} {a} {b} => Iff.mp Option.mem_def) ho) rfl rfl (by simp))]
  have hc : cmpF .Lt (getAny 1) (intF 0) (upd (upd (upd ρ 2 (.fz (.int i))) 3 (.fz (.str (mkS [41])))) 1 (.fz (.int (o - 1)))) = some (decide (o - 1 < 0)) := by
    exact rfl
  constructor
  · intro h
    rw [decide_eq_true h] at hc
    unfold K91
    refine seq_ret (for_ret (ρ1 := upd (upd ρ 2 (.fz (.int i))) 3 (.fz (.str (mkS [41])))) rfl ?_)
    rw [hb, if_yes hc]; rfl
  · intro h
    rw [decide_eq_false h] at hc
    exact ⟨_, K_next rfl (by rw [hb, if_no hc]; rfl), upd_self _ _ _⟩

theorem loop91 : ∀ (cs : List Cell) (i : Nat) (o : Int) (ρ : Rho), (∀ c ∈ cs, c.2 < 6 ∧ c.2 ≠ 2) → ρ 1 = some (.fz (.int o)) → K91 (escGo false i (joinC cs)) ρ = some (.ret (.bool (balGo o (cs.map (·.1)))))
  | [], i, o, ρ, _, ho => by
    show K91 [] ρ = _
    unfold K91
    rw [seq_next (ρ' := ρ) rfl]
    refine ret_ok ?_
    simp only [cmpB, cmpF, getAny, ho, intF, Option.bind_some, cmpV, cmpII, cmpSS, cmpBB, cmpNN, Option.map_some]
    rfl
  | (b, d) :: cs, i, o, ρ, hc, ho => by
    have hd := hc _ (.head _)
    have hcs : ∀ c ∈ cs, c.2 < 6 ∧ c.2 ≠ 2 := fun c h => hc c (.tail _ h)
    rw [joinC_cons, esc_cell hd.1]
    -- behind the bracket
    have rest : ∀ (o' : Int) (ρ1 : Rho), ρ1 1 = some (.fz (.int o')) → K91 ((pcs (b, d) i).tail ++ escGo false (i + (cellL (b, d)).length) (joinC cs)) ρ1 = some (.ret (.bool (balGo o' (cs.map (·.1))))) := fun o' ρ1 h1 => by
      have hd' : d = 0 ∨ d = 1 ∨ d = 3 ∨ d = 4 ∨ d = 5 := by have h1 := hd.1; have h2 := hd.2; simp only at h1 h2; grind
      rcases hd' with rfl | rfl | rfl | rfl | rfl
      · exact loop91 cs _ o' ρ1 hcs h1
      · obtain ⟨ρ2, f1, f2⟩ := noop91 (i := i + 2) (ch := [92, 41]) (by decide) (by decide) h1 (escGo false (i + (cellL (b, 1)).length) (joinC cs))
        exact f1.trans (loop91 cs _ o' ρ2 hcs f2)
      · obtain ⟨ρ2, f1, f2⟩ := noop91 (i := i + 2) (ch := [92, 92]) (by decide) (by decide) h1 (escGo false (i + (cellL (b, 3)).length) (joinC cs))
        exact f1.trans (loop91 cs _ o' ρ2 hcs f2)
      · obtain ⟨ρ2, f1, f2⟩ := noop91 (i := i + 1) (ch := [97]) (by decide) (by decide) h1 (escGo false (i + (cellL (b, 4)).length) (joinC cs))
        exact f1.trans (loop91 cs _ o' ρ2 hcs f2)
      · obtain ⟨ρ2, f1, f2⟩ := noop91 (i := i + 2) (ch := [92, 34]) (by decide) (by decide) h1 (escGo false (i + (cellL (b, 5)).length) (joinC cs))
        exact f1.trans (loop91 cs _ o' ρ2 hcs f2)
    have hp : pcs (b, d) i ++ escGo false (i + (cellL (b, d)).length) (joinC cs) = piece i [parL b] :: ((pcs (b, d) i).tail ++ escGo false (i + (cellL (b, d)).length) (joinC cs)) := rfl
    rw [hp]
    cases b with
    | true =>
      obtain ⟨ρ1, f1, f2⟩ := open91 (i := i) ho ((pcs (true, d) i).tail ++ escGo false (i + (cellL (true, d)).length) (joinC cs))
      exact f1.trans (rest _ _ f2)
    | false =>
      have hcl := close91 (i := i) ho ((pcs (false, d) i).tail ++ escGo false (i + (cellL (false, d)).length) (joinC cs))
      show K91 (piece i [41] :: _) ρ = some (.ret (.bool (if o - 1 < 0 then false else balGo (o - 1) (cs.map (·.1)))))
      by_cases h : o - 1 < 0
      · rw [if_pos h]; exact hcl.1 h
      · rw [if_neg h]
        obtain ⟨ρ1, f1, f2⟩ := hcl.2 h
        exact f1.trans (rest _ _ f2)

theorem F91_ok {cs : List Cell} (hc : ∀ c ∈ cs, c.2 < 6) (hl : (joinC cs).length ≤ 1000) (hn : cs.length ≤ 1000) : F91 [.str (mkS (joinC cs))] = some (.bool (balGo 0 (cs.map (·.1)))) := by
  have g := F84_ok (cs := cs) (tail := []) (.inl rfl) hc (by simpa using hl) hn
  rw [List.append_nil, List.append_nil] at g
  have e0 : F91 [.str (mkS (joinC cs))] = (f91 (parR [.str (mkS (joinC cs))])).map outV := rfl
  rw [e0]
  have p0 : parR [.str (mkS (joinC cs))] 0 = some (.fz (.str (mkS (joinC cs)))) := rfl
  generalize parR [.str (mkS (joinC cs))] = ρ at p0 ⊢
  unfold f91
  rw [seq_next (assign_ok (x := .str (mkS (joinC (cs.map strip)))) (by simp only [callF, argsF, getAny, p0, Option.bind_some, Option.map_some, g])), seq_next (assign_ok (x := .int 0) rfl)]
  have q0 : upd (upd ρ 0 (.fz (.str (mkS (joinC (cs.map strip)))))) 1 (.fz (.int 0)) 0 = some (.fz (.str (mkS (joinC (cs.map strip))))) := rfl
  have q1 : upd (upd ρ 0 (.fz (.str (mkS (joinC (cs.map strip)))))) 1 (.fz (.int 0)) 1 = some (.fz (.int 0)) := rfl
  generalize upd (upd ρ 0 (.fz (.str (mkS (joinC (cs.map strip)))))) 1 (.fz (.int 0)) = ρ1 at q0 q1 ⊢
  have hk := loop91 (cs.map strip) 0 0 ρ1 (fun c h => by
    obtain ⟨d, hd, rfl⟩ := List.mem_map.mp h
    have := strip_lt (hc d hd)
    exact ⟨this.1, this.2.1⟩) q1
  have hsg : (cs.map strip).map (·.1) = cs.map (·.1) := by
    rw [List.map_map]
    exact List.map_congr_left fun c h => (strip_lt (hc c h)).2.2
  rw [hsg] at hk
  have e1 : seqF (forE (genIt (getAny 0)) (tupU [2, 3]) body91) (retF (cmpB .Eq (getAny 1) (intF 0))) ρ1 = K91 (escGo false 0 (joinC (cs.map strip))) ρ1 := by
    unfold K91 seqF
    simp only [forE, genIt, getAny, q0, Option.bind_some, toEsc]
    rfl
  rw [e1, hk]
  rfl
end Mine
end
section
namespace Mine

theorem fits {n : Int} (h1 : -1000000000 ≤ n) (h2 : n ≤ 1000000000) : Builtin.Range.rangeFitsLong n = true := by
  unfold Builtin.Range.rangeFitsLong
  simp; omega
theorem size1 {a b : Int} (h : a ≤ b) : Builtin.Range.rangeSize a b 1 = b - a := by
  unfold Builtin.Range.rangeSize
  rw [if_pos (by exact Int.one_pos)]
  split
  · rw [Int.ediv_one]; exact Int.sub_add_cancel (b - a) 1
  · omega
theorem small1 {a b : Int} (h0 : 0 ≤ a) (h : a ≤ b) (hb : b ≤ 1000000) : Builtin.Range.small a b 1 = true ∧ 0 ≤ Builtin.Range.rangeSize a b 1 ∧ Builtin.Range.rangeSize a b 1 ≤ 1000000 := by
  rw [size1 h]
  refine ⟨?_, by exact Int.sub_nonneg_of_le h, by omega⟩
  unfold Builtin.Range.small
  rw [size1 h, fits (by omega) (by omega), fits (by omega) (by omega), fits (by decide) (by decide), fits (by omega) (by omega)]
  rw [if_pos (by decide), fits (by omega) (by omega)]
  simp
noncomputable abbrev natI (ns : List Nat) : List PV := ns.map fun (d : Nat) => PV.int (d : Int)
theorem rng_ok {fs : List (Rho → Option PV)} {ρ : Rho} {a b c : Int} {xs : List PV} (hx : argsF fs ρ = some xs) (hv : rangeV xs = some (a, b, c)) (h : Builtin.Range.small a b c = true ∧ 0 ≤ Builtin.Range.rangeSize a b c ∧ Builtin.Range.rangeSize a b c ≤ 1000000) : rangeF fs ρ = some ((rangeL a b c).map .int) := by
  unfold rangeF
  rw [hx, Option.bind_some, hv, Option.bind_some]
  exact if_pos h
theorem rangeL_nat {a b : Nat} (h : a ≤ b) : (rangeL (a : Int) (b : Int) 1).map PV.int = natI ((List.range (b - a)).map (a + ·)) := by
  unfold rangeL natI
  rw [size1 (by omega), show ((b : Int) - (a : Int)).toNat = b - a by exact Int.toNat_sub b a, List.map_map, List.map_map]
  apply List.map_congr_left
  intro i _
  simp
theorem rangeL_nat0 {b : Nat} : (rangeL 0 (b : Int) 1).map PV.int = natI (List.range b) := by
  unfold rangeL natI
  rw [size1 (by exact Int.natCast_nonneg b), show ((b : Int) - 0).toNat = b by exact lenZ b, List.map_map]
  apply List.map_congr_left
  intro i _
  simp
theorem rngAB {fs : List (Rho → Option PV)} {ρ : Rho} {a b : Nat} (hx : argsF fs ρ = some [.int (a : Int), .int (b : Int)]) (h : a ≤ b) (hb : b ≤ 1000000) : rangeF fs ρ = some (natI ((List.range (b - a)).map (a + ·))) := by
  rw [rng_ok hx rfl (small1 (by exact Int.natCast_nonneg a) (by omega) (by exact Nat.ToInt.of_le rfl rfl hb)), rangeL_nat h]
theorem rngB {fs : List (Rho → Option PV)} {ρ : Rho} {b : Nat} (hx : argsF fs ρ = some [.int (b : Int)]) (hb : b ≤ 1000000) : rangeF fs ρ = some (natI (List.range b)) := by
  rw [rng_ok hx rfl (small1 (by exact Int.zero_le_ofNat 0) (by exact Int.natCast_nonneg b) (by exact Nat.ToInt.of_le rfl rfl hb)), rangeL_nat0]

/-! comprehensions -/
theorem compGF {I : Rho → Prop} {u : PV → Rho → Option Rho} {t : Rho → Option Bool} {F : Rho → List PV → Option Cst} {p : PV → Bool} {h : PV → List PV} {N : Nat} : ∀ (xs : List PV) (ρ : Rho) (ys : List PV),
    (∀ x ∈ xs, ∀ (ρ : Rho) (ys' : List PV), I ρ → ys'.length ≤ N → ∃ ρ', u x ρ = some ρ' ∧ t ρ' = some (p x) ∧ (p x = true → ∃ ρ'', F ρ' ys' = some (ρ'', ys' ++ h x) ∧ I ρ'') ∧ (p x = false → I ρ')) → I ρ →
    ys.length + ((xs.filter p).flatMap h).length ≤ N → ∃ ρ1, compG u t F xs (ρ, ys) = some (ρ1, ys ++ (xs.filter p).flatMap h) ∧ I ρ1
  | [], ρ, ys, _, hI, _ => ⟨ρ, by simp [compG], hI⟩
  | x :: xs, ρ, ys, hx, hI, hN => by
    obtain ⟨ρ', e1, e2, e3, e4⟩ := hx x (.head _) ρ ys hI (by exact Nat.le_of_add_right_le hN)
    conv => enter [1, ρ1, 1, 1]; unfold compG
    simp only [e1, Option.bind_some, e2]
    cases hp : p x with
    | true =>
      obtain ⟨ρ'', f1, f2⟩ := e3 hp
      simp only [if_true, f1, Option.bind_some]
      rw [List.filter_cons_of_pos hp, List.flatMap_cons] at hN ⊢
      obtain ⟨ρ1, g1, g2⟩ := compGF xs ρ'' (ys ++ h x) (fun y hy => hx y (.tail _ hy)) f2 (by rw [List.length_append] at hN ⊢; omega)
      exact ⟨ρ1, by rw [g1, List.append_assoc], g2⟩
    | false =>
      simp only [Bool.false_eq_true, if_false]
      rw [List.filter_cons_of_neg (by rw [hp]; decide)] at hN ⊢
      exact compGF xs ρ' ys (fun y hy => hx y (.tail _ hy)) (e4 hp) hN
theorem filter_yes (xs : List PV) : xs.filter (fun _ => true) = xs := by exact filter_allG xs
theorem flat_one {α β : Type} (g : α → β) : ∀ xs : List α, xs.flatMap (fun x => [g x]) = xs.map g
  | [] => rfl
  | x :: xs => by rw [List.flatMap_cons, flat_one g xs]; rfl
/-- one frame's worth, a name, no test -/
theorem compE_one {m i : Nat} {fi : Rho → Option (List PV)} {f : Rho → Option PV} {g : PV → PV} {xs : List PV} {ρ : Rho} (hi : fi ρ = some xs) (hn : xs.length ≤ 1000000) (hf : ∀ x ∈ xs, ∀ ρ' : Rho, (∀ j, j ≠ i → ρ' j = cutR m ρ j) → ρ' i = some (.fz x) → f ρ' = some (g x)) :
    compE m fi (compG (nameU i) yesF (emF f)) ρ = some (xs.map g) := by
  unfold compE
  rw [hi, Option.bind_some]
  obtain ⟨ρ1, e, _⟩ := compGF (I := fun ρ' => ∀ j, j ≠ i → ρ' j = cutR m ρ j) (u := nameU i) (t := yesF) (F := emF f) (p := fun _ => true) (h := fun x => [g x]) (N := 1000000) xs (cutR m ρ) [] (fun x hx ρ' ys' hI hl => by
    have hI' : ∀ j, j ≠ i → upd ρ' i (.fz x) j = cutR m ρ j := fun j hj => by rw [upd_ne hj]; exact hI j hj
    refine ⟨upd ρ' i (.fz x), rfl, rfl, fun _ => ⟨upd ρ' i (.fz x), ?_, hI'⟩, fun h => by cases h⟩
    unfold emF
    rw [hf x hx _ hI' (upd_self _ _ _), Option.bind_some, if_pos hl]) (fun _ _ => rfl) (by rw [filter_yes, flat_one]; simp; omega)
  rw [e, filter_yes, flat_one]
  rfl

/-! the mate -/
noncomputable abbrev rowV (cs : List Cell) : List PV := strsV (cs.map cellL)
theorem strsV_sc (rs : List (List Nat)) : (strsV rs).all PV.sc = true := by
  rw [List.all_map, List.all_eq_true]; intro l _; rfl
theorem pick_mid {α : Type} {l : List α} {s p : Nat} (h1 : s ≤ p) (h2 : p ≤ l.length) : pick (some (s : Int)) (some (p : Int)) l = (l.drop s).take (p - s) := by
  unfold pick kms_lo kms_hi
  simp only
  rw [if_neg (by exact Int.not_ofNat_neg p), if_neg (by exact Int.not_ofNat_neg s)]
  simp only [Int.toNat_natCast]
  rw [Nat.min_eq_left (by omega), Nat.min_eq_left (by exact Nat.le_trans h1 h2)]
noncomputable def mateGo (sg : List Bool) (p : Nat) : List Nat → Int
  | [] => -1
  | e :: r => if balGo 0 ((sg.drop p).take (e + 1 - p)) then (e : Int) else mateGo sg p r
noncomputable abbrev body113 : Rho → Option Out := (seqF (assignF 3 (callF F91 [(callF joinV [(strF ""), (exF (sliceLF (getAny 0) (some (getAny 1)) (some (binF .Add (getAny 2) (intF 1)))))])]))
  (ifF (cmpF .IsNot (getAny 3) (boolF false)) (retF (iteF (cmpF .Is (getAny 3) (boolF true)) (getRt 2) (unF .USub (intF 1)))) passF))
end Mine
end
section
namespace Mine

theorem seq_congr {f f' g : Rho → Option Out} {ρ : Rho} (h : f ρ = f' ρ) : seqF f g ρ = seqF f' g ρ := by unfold seqF; rw [h]
theorem rangeV3 {a b c : Int} (hc : c ≠ 0) (h : bits c ≤ 9000) : rangeV [.int a, .int b, .int c] = some (a, b, c) := if_pos ⟨hc, noPy h⟩

structure RowOk (cs : List Cell) : Prop where
  lt : ∀ c ∈ cs, c.2 < 6
  len : cs.length ≤ 100
theorem cell_len {c : Cell} : (cellL c).length ≤ 4 := by
  obtain ⟨b, d⟩ := c
  unfold cellL dressL
  split <;> simp
theorem joinC_len : ∀ cs : List Cell, (joinC cs).length ≤ 4 * cs.length
  | [] => by exact Nat.le_mul_self (List.length (joinC []))
  | c :: cs => by
    rw [joinC_cons, List.length_append, List.length_cons]
    have := @cell_len c
    have := joinC_len cs
    grind
theorem RowOk.sub {cs ds : List Cell} (h : RowOk cs) (hs : ∀ c ∈ ds, c ∈ cs) (hl : ds.length ≤ 100) : RowOk ds := ⟨fun c hc => h.lt c (hs c hc), hl⟩
theorem join_row (cs : List Cell) (h : cs.length ≤ 100) : joinV [.str (mkS []), .list (rowV cs)] = some (.str (mkS (joinC cs))) := by
  have e : joinC cs = (cs.map cellL).flatten := by unfold joinC; rw [List.flatMap_def]
  have := joinV_ok (ys := cs.map cellL) (by rw [← e]; have := joinC_len cs; grind)
  rw [← e] at this
  exact this
theorem check_row {cs : List Cell} (h : RowOk cs) : callF F91 [callF joinV [strF "", fun _ => some (.list (rowV cs))]] (fun _ => none) = some (.bool (balGo 0 (cs.map (·.1)))) := by
  have hl := joinC_len cs
  have := h.len
  simp only [callF, argsF, strF, Option.bind_some, Option.map_some]
  rw [empty_lit, join_row cs h.len]
  simp only [Option.bind_some, Option.map_some]
  exact F91_ok h.lt (by grind) (by omega)

theorem row_mid {cs : List Cell} {p e : Nat} (h1 : p ≤ e) (h2 : e ≤ cs.length) : pick (some (p : Int)) (some (e : Int)) (rowV cs) = rowV ((cs.drop p).take (e - p)) := by
  rw [pick_mid h1 (by simpa using h2)]
  simp only [rowV, strsV, List.map_take, List.map_drop]

theorem loop113 {cs : List Cell} (h : RowOk cs) {p : Nat} : ∀ (es : List Nat) (ρ : Rho), (∀ e ∈ es, p ≤ e ∧ e < cs.length) → ρ 0 = some (.fz (.list (rowV cs))) → ρ 1 = some (.fz (.int p)) →
    seqF (fun ρ => forF (nameU 2) body113 (natI es) ρ) (retF (unF .USub (intF 1))) ρ = some (.ret (.int (mateGo (cs.map (·.1)) p es)))
  | [], ρ, _, h0, h1 => rfl
  | e :: es, ρ, he, h0, h1 => by
    obtain ⟨e1, e2⟩ := he e (.head _)
    have hadd : intV .Add (e : Int) 1 = some ((e + 1 : Nat) : Int) := v_add e 1
    have hsub : RowOk ((cs.drop p).take (e + 1 - p)) := h.sub (fun c hc => List.mem_of_mem_drop (List.mem_of_mem_take hc)) (by
      have := h.len
      rw [List.length_take, List.length_drop]; omega)
    have hb := check_row hsub
    have hsg : ((cs.drop p).take (e + 1 - p)).map (·.1) = ((cs.map (·.1)).drop p).take (e + 1 - p) := by rw [List.map_take, List.map_drop]
    rw [hsg] at hb
    have hsl : sliceLF (getAny 0) (some (getAny 1)) (some (binF .Add (getAny 2) (intF 1))) (upd ρ 2 (.fz (.int (e : Int)))) = some (rowV ((cs.drop p).take (e + 1 - p))) := by
      simp only [sliceLF, getAny, partF, binF, upd_at, reduceIte, Nat.reduceEqDiff, h0, h1, intF, Option.bind_some, binV, hadd, Option.map_some]
      rw [if_pos ⟨by have := h.len; simp; omega, strsV_sc _⟩, row_mid (by exact Nat.le_add_right_of_le e1) (by exact Nat.succ_le_of_lt e2)]
    have hf : callF F91 [(callF joinV [(strF ""), (exF (sliceLF (getAny 0) (some (getAny 1)) (some (binF .Add (getAny 2) (intF 1)))))])] (upd ρ 2 (.fz (.int (e : Int)))) = some (.bool (balGo 0 (((cs.map (·.1)).drop p).take (e + 1 - p)))) := by
      rw [← hb]
      simp only [callF, argsF, exF, hsl, strF, Option.bind_some, Option.map_some]
    obtain ⟨bb, hbb⟩ : ∃ bb, bb = balGo 0 (((cs.map (·.1)).drop p).take (e + 1 - p)) := ⟨_, rfl⟩
    rw [← hbb] at hf
    have e3 : body113 (upd ρ 2 (.fz (.int (e : Int)))) = (ifF (cmpF .IsNot (getAny 3) (boolF false)) (retF (iteF (cmpF .Is (getAny 3) (boolF true)) (getRt 2) (unF .USub (intF 1)))) passF) (upd (upd ρ 2 (.fz (.int (e : Int)))) 3 (.fz (.bool bb))) := by
      unfold body113
      rw [seq_next (assign_ok hf)]
    have e4 : cmpF .IsNot (getAny 3) (boolF false) (upd (upd ρ 2 (.fz (.int (e : Int)))) 3 (.fz (.bool bb))) = some bb := by
      simp only [cmpF, getAny, upd_at, reduceIte, boolF, Option.bind_some, cmpV, cmpII, cmpSS, cmpBB, cmpNN]
      cases bb <;> rfl
    show _ = some (Out.ret (.int (if balGo 0 (((cs.map (·.1)).drop p).take (e + 1 - p)) then (e : Int) else mateGo (cs.map (·.1)) p es)))
    rw [← hbb]
    cases bb with
    | true =>
      rw [if_pos rfl]
      refine seq_ret (for_ret (ρ1 := upd ρ 2 (.fz (.int (e : Int)))) rfl ?_)
      rw [e3, if_yes e4]
      refine ret_ok ?_
      exact rfl
    | false =>
      rw [if_neg (by decide)]
      rw [← loop113 h es (upd (upd ρ 2 (.fz (.int (e : Int)))) 3 (.fz (.bool false))) (fun x hx => he x (.tail _ hx)) (h0) (h1)]
      unfold seqF
      simp only
      rw [show natI (e :: es) = .int (e : Int) :: natI es from rfl, for_cons (ρ1 := upd ρ 2 (.fz (.int (e : Int)))) rfl (by rw [e3, if_no e4]; rfl)]

/-- the ends that are tried -/
noncomputable def EndsOk (p n : Nat) (es : List Nat) : Prop := (Builtin.Range.small ((p + 1 : Nat) : Int) (n : Int) 2 = true ∧ 0 ≤ Builtin.Range.rangeSize ((p + 1 : Nat) : Int) (n : Int) 2 ∧ Builtin.Range.rangeSize ((p + 1 : Nat) : Int) (n : Int) 2 ≤ 1000000) ∧ rangeL ((p + 1 : Nat) : Int) (n : Int) 2 = es.map (fun (e : Nat) => (e : Int))
theorem F113_ok {cs : List Cell} (h : RowOk cs) {p : Nat} {es : List Nat} (hr : EndsOk p cs.length es) (he : ∀ e ∈ es, p ≤ e ∧ e < cs.length) : F113 [.list (rowV cs), .int (p : Int)] = some (.int (mateGo (cs.map (·.1)) p es)) := by
  have e0 : F113 [.list (rowV cs), .int (p : Int)] = (f113 (parR [.list (rowV cs), .int (p : Int)])).map outV := rfl
  rw [e0]
  have p0 : parR [.list (rowV cs), .int (p : Int)] 0 = some (.fz (.list (rowV cs))) := rfl
  have p1 : parR [.list (rowV cs), .int (p : Int)] 1 = some (.fz (.int p)) := rfl
  generalize parR [.list (rowV cs), .int (p : Int)] = ρ at p0 p1 ⊢
  have hadd : intV .Add (p : Int) 1 = some ((p + 1 : Nat) : Int) := v_add p 1
  have hlen : (rowV cs).length = cs.length := by simp
  have ha : argsF [(binF .Add (getAny 1) (intF 1)), (callF lenV [(getAny 0)]), (intF 2)] ρ = some [.int ((p + 1 : Nat) : Int), .int (cs.length : Int), .int 2] := by
    simp only [argsF, binF, callF, getAny, p0, p1, intF, Option.bind_some, Option.map_some, binV, hadd, lenV, hlen]
    rw [if_pos (by have := h.len; omega)]
    rfl
  have hrg := rng_ok ha (rangeV3 (by decide) (by decide)) hr.1
  rw [hr.2] at hrg
  have hk := loop113 h es ρ he p0 p1
  have e1 : f113 ρ = seqF (fun ρ => forF (nameU 2) body113 (natI es) ρ) (retF (unF .USub (intF 1))) ρ := by
    have hfor : forE (rangeF [(binF .Add (getAny 1) (intF 1)), (callF lenV [(getAny 0)]), (intF 2)]) (nameU 2) body113 ρ = forF (nameU 2) body113 (natI es) ρ := by
      unfold forE
      rw [hrg, Option.bind_some]
      congr 1
      simp [natI]
    exact seq_congr (f' := fun ρ => forF (nameU 2) body113 (natI es) ρ) hfor
  rw [e1, hk]
  rfl
end Mine
end
section
namespace Mine

noncomputable def keep (l : List Nat) : Bool := l != [] && l != [34, 40, 34]
noncomputable def unitsC (c : Cell) : List (List Nat) := [(cellL c).take 1, (cellL c).drop 1].filter keep
noncomputable def unitsR (cs : List Cell) : List (List Nat) := cs.flatMap unitsC
theorem qdress_lit : ("\"(\"" : Str) = mkS [34, 40, 34] := by exact rfl
theorem ch_ne {ρ : Rho} {j : Nat} {ch : List Nat} {x : Str} {k : List Nat} (h : ρ j = some (.fz (.str (mkS ch)))) (hx : x = mkS k) : cmpF .NotEq (getAny j) (strF x) ρ = some (ch != k) := by
  simp only [cmpF, getAny, h, strF, Option.bind_some, cmpV, cmpII, cmpSS, cmpBB, cmpNN, hx]
  congr 1
  rw [Bool.eq_iff_iff, bne_iff_ne, bne_iff_ne, ne_eq, ne_eq, mkS_inj]

noncomputable abbrev keepF : Rho → Option Bool := andL [(cmpF .NotEq (getAny 3) (strF "")), (cmpF .NotEq (getAny 3) (strF "\"(\""))]
theorem keepF_ok {ρ : Rho} {l : List Nat} (h : ρ 3 = some (.fz (.str (mkS l)))) : keepF ρ = some (keep l) := by
  unfold keepF keep
  simp only [andL, ch_ne h empty_lit, ch_ne h qdress_lit, Option.bind_some]
  cases l != [] <;> cases l != [34, 40, 34] <;> rfl
theorem inner106 : ∀ (ls : List (List Nat)) (ρ : Rho) (ys : List PV), ys.length + ls.length ≤ 1000000 → ∃ ρ1, compG (nameU 3) keepF (emF (getFz 3)) (strsV ls) (ρ, ys) = some (ρ1, ys ++ strsV (ls.filter keep))
  | [], ρ, ys, _ => ⟨ρ, by simp [compG]⟩
  | l :: ls, ρ, ys, h => by
    rw [List.length_cons] at h
    have e : compG (nameU 3) keepF (emF (getFz 3)) (strsV (l :: ls)) (ρ, ys) = if keep l then compG (nameU 3) keepF (emF (getFz 3)) (strsV ls) (upd ρ 3 (.fz (.str (mkS l))), ys ++ [.str (mkS l)]) else compG (nameU 3) keepF (emF (getFz 3)) (strsV ls) (upd ρ 3 (.fz (.str (mkS l))), ys) := by
      show compG (nameU 3) keepF (emF (getFz 3)) (.str (mkS l) :: strsV ls) (ρ, ys) = _
      conv => lhs; unfold compG
      simp only [nameU, Option.bind_some, keepF_ok (upd_self ρ 3 (.fz (.str (mkS l))))]
      have hm : emF (getFz 3) (upd ρ 3 (.fz (.str (mkS l)))) ys = some (upd ρ 3 (.fz (.str (mkS l))), ys ++ [.str (mkS l)]) := by
        unfold emF
        simp only [getFz, upd_self, Option.bind_some]
        rw [if_pos (by exact Nat.le_of_add_right_le h)]
      rw [hm]
      rfl
    rw [e]
    cases hk : keep l with
    | true =>
      obtain ⟨ρ1, g⟩ := inner106 ls (upd ρ 3 (.fz (.str (mkS l)))) (ys ++ [.str (mkS l)]) (by simp; omega)
      exact ⟨ρ1, by simp only [if_true]; rw [g, List.filter_cons_of_pos hk]; simp⟩
    | false =>
      obtain ⟨ρ1, g⟩ := inner106 ls (upd ρ 3 (.fz (.str (mkS l)))) ys (by exact Nat.le_of_succ_le h)
      exact ⟨ρ1, by simp only [Bool.false_eq_true, if_false]; rw [g, List.filter_cons_of_neg (by rw [hk]; decide)]⟩

noncomputable def hU (x : PV) : List PV := match x with
  | .str s => strsV ([s.cps.toList.take 1, s.cps.toList.drop 1].filter keep)
  | _ => []
theorem hU_cell (c : Cell) : hU (.str (mkS (cellL c))) = strsV (unitsC c) := rfl
theorem hU_row : ∀ cs : List Cell, (rowV cs).flatMap hU = strsV (unitsR cs)
  | [] => rfl
  | c :: cs => by
    have e : rowV (c :: cs) = .str (mkS (cellL c)) :: rowV cs := rfl
    rw [e, List.flatMap_cons, hU_row cs, hU_cell]
    simp [unitsR]
theorem unitsC_len (c : Cell) : (unitsC c).length ≤ 2 := List.length_filter_le _ _
theorem unitsR_len : ∀ cs : List Cell, (unitsR cs).length ≤ 2 * cs.length
  | [] => by exact Nat.le_mul_self (List.length (unitsR []))
  | c :: cs => by
    have e : unitsR (c :: cs) = unitsC c ++ unitsR cs := rfl
    have := unitsC_len c
    have := unitsR_len cs
    rw [e, List.length_append, List.length_cons]; grind

noncomputable abbrev C106 : List PV → Cst → Option Cst := compG (nameU 2) yesF (emL (listIt (exF (listF [(sliceSF (getAny 2) none (some (intF 1))), (sliceSF (getAny 2) (some (intF 1)) none)]))) (compG (nameU 3) keepF (emF (getFz 3))))
theorem slice_head {l : List Nat} : pickS none (some 1) (mkS l) = mkS (l.take 1) := by
  unfold pickS pick kms_lo kms_hi
  simp only
  rw [if_neg (by decide)]
  simp only [List.drop_zero, Nat.sub_zero]
  cases l with
  | nil => rfl
  | cons a r => exact rfl
theorem slice_tail {l : List Nat} : pickS (some 1) none (mkS l) = mkS (l.drop 1) := by
  cases l with
  | nil => rfl
  | cons a r => exact pickS_from (s := 1) (by simp)
theorem units106 {cs : List Cell} (h : RowOk cs) {ρ : Rho} (h0 : ρ 0 = some (.fz (.list (rowV cs)))) : compE 2 (listIt (getFz 0)) C106 ρ = some (strsV (unitsR cs)) := by
  unfold compE
  have hi : listIt (getFz 0) ρ = some (rowV cs) := by simp only [listIt, getFz, h0, Option.bind_some, toL]
  rw [hi, Option.bind_some]
  have hN : ((rowV cs).filter fun _ => true).flatMap hU = strsV (unitsR cs) := by rw [filter_yes, hU_row]
  obtain ⟨ρ1, e, _⟩ := compGF (I := fun _ => True) (u := nameU 2) (t := yesF) (F := emL (listIt (exF (listF [(sliceSF (getAny 2) none (some (intF 1))), (sliceSF (getAny 2) (some (intF 1)) none)]))) (compG (nameU 3) keepF (emF (getFz 3)))) (p := fun _ => true) (h := hU) (N := 1000) (rowV cs) (cutR 2 ρ) [] (fun x hx ρ' ys' _ hl => by
    obtain ⟨l, hl', rfl⟩ := List.mem_map.mp hx
    obtain ⟨c, hc, rfl⟩ := List.mem_map.mp hl'
    refine ⟨upd ρ' 2 (.fz (.str (mkS (cellL c)))), rfl, rfl, fun _ => ?_, fun h => by cases h⟩
    have hls : listIt (exF (listF [(sliceSF (getAny 2) none (some (intF 1))), (sliceSF (getAny 2) (some (intF 1)) none)])) (upd ρ' 2 (.fz (.str (mkS (cellL c))))) = some (strsV [(cellL c).take 1, (cellL c).drop 1]) := by
      have := @cell_len c
      have hlen : (mkS (cellL c)).length ≤ 1000000 := by rw [mkS_len]; omega
      have s1 : sliceSF (getAny 2) none (some (intF 1)) (upd ρ' 2 (.fz (.str (mkS (cellL c))))) = some (.str (mkS ((cellL c).take 1))) := by
        simp only [sliceSF, getAny, partF, upd_self, intF, Option.bind_some]
        rw [if_pos hlen, slice_head]
      have s2 : sliceSF (getAny 2) (some (intF 1)) none (upd ρ' 2 (.fz (.str (mkS (cellL c))))) = some (.str (mkS ((cellL c).drop 1))) := by
        simp only [sliceSF, getAny, partF, upd_self, intF, Option.bind_some]
        rw [if_pos hlen, slice_tail]
      simp only [listIt, exF, listF, argsF, s1, s2, Option.bind_some, Option.map_some, List.length_cons, List.length_nil, Nat.reduceAdd, Nat.reduceLeDiff, if_true, toL]
      rfl
    obtain ⟨ρ2, g⟩ := inner106 [(cellL c).take 1, (cellL c).drop 1] (upd ρ' 2 (.fz (.str (mkS (cellL c))))) ys' (by simp; omega)
    refine ⟨ρ2, ?_, trivial⟩
    unfold emL
    rw [hls, Option.bind_some, g]
    rfl) trivial (by
      rw [hN]
      have := unitsR_len cs
      have := h.len
      simp; grind)
  have e' : C106 (rowV cs) (cutR 2 ρ, []) = _ := e
  rw [e', hN]
  simp

/-! their places -/
noncomputable def pl : Nat → List (List Nat) → List PV
  | _, [] => []
  | i, u :: us => piece (i + u.length - 1) u :: pl (i + u.length) us
theorem pl_app : ∀ (a b : List (List Nat)) (i : Nat), pl i (a ++ b) = pl i a ++ pl (i + a.flatten.length) b
  | [], b, i => by simp [pl]
  | u :: a, b, i => by
    rw [List.cons_append, pl, pl, pl_app a b, List.flatten_cons, List.length_append, List.cons_append, Nat.add_assoc]
theorem pcs_units {c : Cell} (hc : c.2 < 6) (i : Nat) : pcs (strip c) i = pl i (unitsC c) ∧ (cellL (strip c)) = (unitsC c).flatten := by
  obtain ⟨b, d⟩ := c
  have hd : d = 0 ∨ d = 1 ∨ d = 2 ∨ d = 3 ∨ d = 4 ∨ d = 5 := by simp only at hc; grind
  rcases hd with rfl | rfl | rfl | rfl | rfl | rfl <;> cases b <;> exact ⟨rfl, rfl⟩
theorem esc_units : ∀ (cs : List Cell) (i : Nat), (∀ c ∈ cs, c.2 < 6) → escGo false i (joinC (cs.map strip)) = pl i (unitsR cs) ∧ joinC (cs.map strip) = (unitsR cs).flatten
  | [], i, _ => ⟨rfl, rfl⟩
  | c :: cs, i, h => by
    have hc := h c (.head _)
    obtain ⟨e1, e2⟩ := pcs_units hc i
    obtain ⟨g1, g2⟩ := esc_units cs (i + (cellL (strip c)).length) fun d hd => h d (.tail _ hd)
    have e : unitsR (c :: cs) = unitsC c ++ unitsR cs := rfl
    rw [List.map_cons, joinC_cons, esc_cell (strip_lt hc).1, e, pl_app, e1, g1, e2, List.flatten_append, g2]
    exact ⟨rfl, rfl⟩
theorem unit_pos : ∀ {cs : List Cell} {u : List Nat}, u ∈ unitsR cs → 1 ≤ u.length := fun {cs u} h => by
  obtain ⟨c, _, hu⟩ := List.mem_flatMap.mp h
  have := (List.mem_filter.mp hu).2
  unfold keep at this
  cases u with
  | nil => exact Nat.le_of_ble_eq_true this
  | cons a r => simp
noncomputable def gU (us : List (List Nat)) (i : Nat) (k : Nat) : PV := piece (i + (us.take (k + 1)).flatten.length - 1) (us.getD k [])
theorem pl_range : ∀ (us : List (List Nat)) (i : Nat), pl i us = (List.range us.length).map (gU us i)
  | [], i => rfl
  | u :: us, i => by
    rw [pl, pl_range us, List.length_cons, List.range_succ_eq_map, List.map_cons, List.map_map]
    congr 1
    · simp [gU]
    · apply List.map_congr_left
      intro k _
      simp only [gU, Function.comp, List.take_succ_cons, List.flatten_cons, List.length_append, List.getD_cons_succ]
      congr 1; grind

theorem exF_ok {f : Rho → Option (List PV)} {ρ : Rho} {x : List PV} (h : f ρ = some x) : exF f ρ = some (.list x) := by unfold exF; rw [h]; rfl
theorem F106_ok {cs : List Cell} (h : RowOk cs) : F106 [.list (rowV cs)] = some (.list (pl 0 (unitsR cs))) := by
  have e0 : F106 [.list (rowV cs)] = (f106 (parR [.list (rowV cs)])).map outV := rfl
  rw [e0]
  have p0 : parR [.list (rowV cs)] 0 = some (.fz (.list (rowV cs))) := rfl
  generalize parR [.list (rowV cs)] = ρ at p0 ⊢
  unfold f106
  rw [seq_next (assign_ok (x := .list (strsV (unitsR cs))) (by
    exact exF_ok (units106 h p0)))]
  have q1 : upd ρ 1 (.fz (.list (strsV (unitsR cs)))) 1 = some (.fz (.list (strsV (unitsR cs)))) := upd_self _ _ _
  generalize upd ρ 1 (.fz (.list (strsV (unitsR cs)))) = ρ1 at q1 ⊢
  have hn : (unitsR cs).length ≤ 200 := by have := unitsR_len cs; have := h.len; grind
  have hfl : (unitsR cs).flatten.length ≤ 400 := by
    rw [← (esc_units cs 0 h.lt).2]
    have := joinC_strip_len cs
    have := joinC_len cs
    have := h.len
    grind
  have hr : rangeF [callF lenV [(getAny 1)]] ρ1 = some (natI (List.range (unitsR cs).length)) := rngB (by
    simp only [argsF, callF, getAny, q1, Option.bind_some, Option.map_some, lenV, List.length_map]
    rw [if_pos (by omega)]; rfl) (by omega)
  refine congrArg _ (ret_ok (x := .list (pl 0 (unitsR cs))) ?_) |>.trans rfl
  refine exF_ok ?_
  rw [compE_one (g := fun x => match x with | .int k => gU (unitsR cs) 0 k.toNat | _ => .none) hr (by simp; omega) (fun x hx ρ' hj hi => by
    obtain ⟨k, hk, rfl⟩ := List.mem_map.mp hx
    have hk' : k < (unitsR cs).length := List.mem_range.mp hk
    have h1 : ρ' 1 = some (.fz (.list (strsV (unitsR cs)))) := by rw [hj 1 (by decide)]; exact q1
    have hadd : intV .Add (k : Int) 1 = some ((k + 1 : Nat) : Int) := v_add k 1
    have hsl : sliceLF (getAny 1) none (some (binF .Add (getAny 2) (intF 1))) ρ' = some (strsV ((unitsR cs).take (k + 1))) := by
      simp only [sliceLF, getAny, partF, binF, h1, hi, intF, Option.bind_some, binV, hadd, Option.map_some]
      rw [if_pos ⟨by simp; omega, strsV_sc _⟩]
      have := pick_mid (l := strsV (unitsR cs)) (s := 0) (p := k + 1) (by exact Nat.le_add_left 0 (k + 1)) (by simp; exact Nat.succ_le_of_lt hk')
      rw [List.drop_zero, Nat.sub_zero] at this
      have e : pick none (some ((k + 1 : Nat) : Int)) (strsV (unitsR cs)) = pick (some ((0 : Nat) : Int)) (some ((k + 1 : Nat) : Int)) (strsV (unitsR cs)) := by
        unfold pick kms_lo; exact rfl
      rw [e, this]; simp only [strsV, List.map_take]
    have hfk : ((unitsR cs).take (k + 1)).flatten.length ≤ 400 := by
      have : (unitsR cs).flatten = ((unitsR cs).take (k + 1)).flatten ++ ((unitsR cs).drop (k + 1)).flatten := by rw [← List.flatten_append, List.take_append_drop]
      rw [this, List.length_append] at hfl; exact Nat.le_of_add_right_le hfl
    have hge : 1 ≤ ((unitsR cs).take (k + 1)).flatten.length := by
      have h2 := unit_pos (List.getElem_mem hk')
      have h3 : ((unitsR cs).take (k + 1)).flatten.length = (((unitsR cs).take k).flatten ++ (unitsR cs)[k]'hk').length := by
        rw [List.take_succ_eq_append_getElem hk', List.flatten_append, List.flatten_cons, List.flatten_nil, List.append_nil]
      rw [h3, List.length_append]; exact Nat.le_add_left_of_le h2
    have hsub : intV .Sub ((((unitsR cs).take (k + 1)).flatten.length : Nat) : Int) 1 = some ((((unitsR cs).take (k + 1)).flatten.length - 1 : Nat) : Int) := v_sub1 hge
    have hj1 := joinV_ok (ys := (unitsR cs).take (k + 1)) (by grind)
    have hg : (unitsR cs)[k]? = some ((unitsR cs)[k]'hk') := List.getElem?_eq_getElem hk'
    have hsb : subF (getAny 1) (getAny 2) ρ' = some (.str (mkS ((unitsR cs)[k]'hk'))) := by
      simp only [subF, getAny, h1, hi, Option.bind_some, subV]
      rw [if_pos (by omega)]
      have : seqIndex? (k : Int) (strsV (unitsR cs)).length = some k := by
        unfold seqIndex?
        rw [List.length_map]; simp; omega
      rw [this, Option.bind_some, List.getElem?_map, hg]; rfl
    have hln : callF lenV [(callF joinV [(strF ""), (exF (sliceLF (getAny 1) none (some (binF .Add (getAny 2) (intF 1)))))])] ρ' = some (.int ((((unitsR cs).take (k + 1)).flatten.length : Nat) : Int)) := by
      simp only [callF, argsF, exF, hsl, strF, Option.bind_some, Option.map_some]
      rw [empty_lit, hj1]
      simp only [Option.bind_some, Option.map_some, lenV]
      rw [if_pos (by rw [mkS_len]; omega), mkS_len]
    have hdd : binF .Sub (callF lenV [(callF joinV [(strF ""), (exF (sliceLF (getAny 1) none (some (binF .Add (getAny 2) (intF 1)))))])]) (intF 1) ρ' = some (.int ((((unitsR cs).take (k + 1)).flatten.length - 1 : Nat) : Int)) := by
      exact binI hln rfl hsub
    simp only [tupF, argsF, hdd, hsb, Option.bind_some, Option.map_some, Option.map_some, List.length_cons, List.length_nil, List.all_cons, List.all_nil, PV.sc, Bool.and_self, and_true, Nat.reduceAdd, Nat.reduceLeDiff, if_true]
    show some _ = some (gU (unitsR cs) 0 (k : Int).toNat)
    rw [Int.toNat_natCast]
    unfold gU piece
    rw [List.getD_eq_getElem?_getD, hg, Nat.zero_add]
    rfl)]
  rw [pl_range]
  simp only [List.map_map]
  congr 1
end Mine
end
section
namespace Mine

theorem sub_list {f g : Rho → Option PV} {ρ : Rho} {xs : List PV} {k : Nat} {x : PV} (hf : f ρ = some (.list xs)) (hg : g ρ = some (.int (k : Int))) (hx : xs[k]? = some x) (hl : xs.length ≤ 1000000) : subF f g ρ = some x := by
  have hk : k < xs.length := (List.getElem?_eq_some_iff.mp hx).1
  unfold subF
  rw [hf, Option.bind_some, hg, Option.bind_some]
  unfold subV
  simp only
  rw [if_pos (by grind)]
  have : seqIndex? (k : Int) xs.length = some k := by
    unfold seqIndex?
    simp; omega
  rw [this, Option.bind_some, hx]
theorem sub_last {f g : Rho → Option PV} {ρ : Rho} {xs : List PV} {x : PV} (hf : f ρ = some (.list (xs ++ [x]))) (hg : g ρ = some (.int (-1))) : subF f g ρ = some x := by
  unfold subF
  rw [hf, Option.bind_some, hg, Option.bind_some]
  unfold subV
  simp only
  rw [if_pos (by decide)]
  have : seqIndex? (-1) (xs ++ [x]).length = some xs.length := by
    unfold seqIndex?
    simp; grind
  rw [this, Option.bind_some]
  simp
theorem len_list {f : Rho → Option PV} {ρ : Rho} {xs : List PV} (hf : f ρ = some (.list xs)) (hl : xs.length ≤ 1000000) : callF lenV [f] ρ = some (.int (xs.length : Int)) := by
  unfold callF argsF argsF
  rw [hf]
  simp only [Option.bind_some, Option.map_some]
  unfold lenV
  simp only
  rw [if_pos hl]
theorem ite_yes {t : Rho → Option Bool} {f g : Rho → Option PV} {ρ : Rho} (h : t ρ = some true) : iteF t f g ρ = f ρ := by unfold iteF; rw [h]; rfl
theorem ite_no {t : Rho → Option Bool} {f g : Rho → Option PV} {ρ : Rho} (h : t ρ = some false) : iteF t f g ρ = g ρ := by unfold iteF; rw [h]; rfl

noncomputable def ownL : List Int := [120, 229, 24, 205]
noncomputable def cellsOf (ns : List Int) : List Int := (List.range (if 3 < ns.length then 4 else 3)).map fun k => ownL.getD k 0 + (if k < ns.length then ns.getD k 0 else 0)
theorem cellsOf_len (ns : List Int) : (cellsOf ns).length = 3 ∨ (cellsOf ns).length = 4 := by
  unfold cellsOf
  simp only [List.length_map, List.length_range]
  split <;> simp
noncomputable abbrev intsP (ns : List Int) : List PV := ns.map PV.int
theorem intsP_sc (ns : List Int) : (intsP ns).all PV.sc = true := by
  rw [List.all_map, List.all_eq_true]; intro l _; rfl
theorem F96_ok {ns : List Int} (h : ns.length ≤ 63) : F96 [.list (intsP ns)] = some (.list (intsP (cellsOf ns))) := by
  have e0 : F96 [.list (intsP ns)] = (f96 (parR [.list (intsP ns)])).map outV := rfl
  rw [e0]
  have p0 : parR [.list (intsP ns)] 0 = some (.fz (.list (intsP ns))) := rfl
  generalize parR [.list (intsP ns)] = ρ at p0 ⊢
  unfold f96
  have hl : (intsP ns).length = ns.length := by simp
  have g0 : getAny 0 ρ = some (.list (intsP ns)) := (getAny_fz p0)
  rw [seq_next (assign_ok (x := .list (intsP ownL)) rfl)]
  have q0 : upd ρ 1 (.fz (.list (intsP ownL))) 0 = some (.fz (.list (intsP ns))) := p0
  have q1 : upd ρ 1 (.fz (.list (intsP ownL))) 1 = some (.fz (.list (intsP ownL))) := upd_self _ _ _
  generalize upd ρ 1 (.fz (.list (intsP ownL))) = ρ1 at q0 q1 ⊢
  have hlen : callF lenV [(getAny 0)] ρ1 = some (.int (ns.length : Int)) := by
    have := len_list (f := getAny 0) (ρ := ρ1) (xs := intsP ns) ((getAny_fz q0)) (by omega)
    rw [this, hl]
  have ha : iteF (cmpF .Gt (callF lenV [(getAny 0)]) (intF 3)) (intF 4) (intF 3) ρ1 = some (.int ((if 3 < ns.length then 4 else 3 : Nat) : Int)) := by
    have hc : cmpF .Gt (callF lenV [(getAny 0)]) (intF 3) ρ1 = some (decide ((3 : Int) < ns.length)) := cmpI hlen rfl rfl
    by_cases hq : 3 < ns.length
    · rw [decide_eq_true (by exact Int.lt_of_toNat_lt hq)] at hc
      rw [ite_yes hc, if_pos hq]; rfl
    · rw [decide_eq_false (by omega)] at hc
      rw [ite_no hc, if_neg hq]; rfl
  rw [seq_next (assign_ok ha)]
  obtain ⟨m, hm⟩ : ∃ m, m = (if 3 < ns.length then 4 else 3 : Nat) := ⟨_, rfl⟩
  have hm4 : m ≤ 4 := by rw [hm]; split <;> grind
  rw [← hm]
  have r0 : upd ρ1 2 (.fz (.int m)) 0 = some (.fz (.list (intsP ns))) := q0
  have r1 : upd ρ1 2 (.fz (.int m)) 1 = some (.fz (.list (intsP ownL))) := q1
  have r2 : upd ρ1 2 (.fz (.int m)) 2 = some (.fz (.int m)) := upd_self _ _ _
  generalize upd ρ1 2 (.fz (.int m)) = ρ2 at r0 r1 r2 ⊢
  have hr : rangeF [(getAny 2)] ρ2 = some (natI (List.range m)) := rngB (by simp only [argsF, getAny, r2, Option.bind_some, Option.map_some]) (by grind)
  have hcomp := compE_one (m := 3) (i := 3) (f := binF .Add (subF (getAny 1) (getAny 3)) (iteF (cmpF .Lt (getAny 3) (callF lenV [(getAny 0)])) (subF (getAny 0) (getAny 3)) (intF 0))) (g := fun x => match x with | .int k => .int (ownL.getD k.toNat 0 + (if k.toNat < ns.length then ns.getD k.toNat 0 else 0)) | _ => .none) hr (by simp; omega) (fun x hx ρ' hj hi => by
    obtain ⟨k, hk, rfl⟩ := List.mem_map.mp hx
    have hk' : k < m := List.mem_range.mp hk
    have h0 : getAny 0 ρ' = some (.list (intsP ns)) := by
      have : ρ' 0 = some (.fz (.list (intsP ns))) := by rw [hj 0 (by decide)]; exact r0
      simp only [getAny, this]
    have h1 : getAny 1 ρ' = some (.list (intsP ownL)) := by
      have : ρ' 1 = some (.fz (.list (intsP ownL))) := by rw [hj 1 (by decide)]; exact r1
      simp only [getAny, this]
    have h3 : getAny 3 ρ' = some (.int (k : Int)) := (getAny_fz hi)
    have s1 : subF (getAny 1) (getAny 3) ρ' = some (.int (ownL.getD k 0)) := sub_list h1 h3 (by
      have : k = 0 ∨ k = 1 ∨ k = 2 ∨ k = 3 := by grind
      rcases this with rfl | rfl | rfl | rfl <;> rfl) (by decide)
    have s2 : iteF (cmpF .Lt (getAny 3) (callF lenV [(getAny 0)])) (subF (getAny 0) (getAny 3)) (intF 0) ρ' = some (.int (if k < ns.length then ns.getD k 0 else 0)) := by
      have hln : callF lenV [(getAny 0)] ρ' = some (.int (ns.length : Int)) := by rw [len_list h0 (by omega), hl]
      have hc : cmpF .Lt (getAny 3) (callF lenV [(getAny 0)]) ρ' = some (decide ((k : Int) < ns.length)) := cmpI h3 hln rfl
      by_cases hq : k < ns.length
      · rw [decide_eq_true (by exact (fun {n m} => Iff.mpr Int.ofNat_lt) hq)] at hc
        rw [ite_yes hc, if_pos hq]
        exact sub_list h0 h3 (by rw [List.getElem?_map, List.getElem?_eq_getElem hq, List.getD_eq_getElem?_getD, List.getElem?_eq_getElem hq]; rfl) (by omega)
      · rw [decide_eq_false (by omega)] at hc
        rw [ite_no hc, if_neg hq]; rfl
    exact binI s1 s2 rfl)
  have hres : (natI (List.range m)).map (fun x => match x with | .int k => PV.int (ownL.getD k.toNat 0 + (if k.toNat < ns.length then ns.getD k.toNat 0 else 0)) | _ => .none) = intsP (cellsOf ns) := by
    unfold cellsOf natI intsP
    rw [← hm, List.map_map, List.map_map]
    rfl
  rw [hres] at hcomp
  rw [ret_ok (x := .list (intsP (cellsOf ns))) (by
    unfold listRt
    rw [hcomp]
    simp only [Option.bind_some, intsP_sc, if_true])]
  rfl

/-! the depths -/
noncomputable def nextD (d : Nat) (x : Int) : Nat := 1 + (x.fmod ((d + 1 : Nat) : Int)).toNat
noncomputable def depthsGo : Nat → List Int → List Nat
  | _, [] => []
  | d, x :: r => nextD d x :: depthsGo (nextD d x) r
noncomputable def gen : Nat → Nat → List (List Nat)
  | _, 0 => [[]]
  | d, k + 1 => (List.range (d + 1)).flatMap fun e => (gen (e + 1) k).map fun l => (e + 1) :: l
theorem depths_gen : ∀ (xs : List Int) (d : Nat), depthsGo d xs ∈ gen d xs.length
  | [], d => by simp [depthsGo, gen]
  | x :: xs, d => by
    rw [depthsGo, List.length_cons, gen, List.mem_flatMap]
    have h1 : 0 ≤ x.fmod ((d + 1 : Nat) : Int) := Int.fmod_nonneg_of_pos _ (by exact Int.ofNat_succ_pos d)
    have h2 : x.fmod ((d + 1 : Nat) : Int) < ((d + 1 : Nat) : Int) := Int.fmod_lt_of_pos _ (by exact Int.ofNat_succ_pos d)
    refine ⟨(x.fmod ((d + 1 : Nat) : Int)).toNat, List.mem_range.mpr (by exact (fun {n} {z} h => Iff.mpr (Int.toNat_lt h)) h1 h2), List.mem_map.mpr ⟨depthsGo (nextD d x) xs, ?_, ?_⟩⟩
    · have := depths_gen xs (nextD d x)
      unfold nextD at this ⊢
      rw [Nat.add_comm 1] at this ⊢
      exact this
    · unfold nextD; rw [Nat.add_comm 1]
noncomputable abbrev bodyD : Rho → Option Out := appendF 3 (binF .Add (intF 1) (binF .Mod (getAny 4) (binF .Add (subF (getAny 3) (unF .USub (intF 1))) (intF 1))))
theorem loopD : ∀ (xs : List Int) (ds : List Nat) (d : Nat) (ρ : Rho), ρ 3 = some (.ow (natI (ds ++ [d]))) → ds.length + xs.length ≤ 1000 → ∃ ρ', forF (nameU 4) bodyD (intsP xs) ρ = some (.next ρ') ∧ ρ' 3 = some (.ow (natI (ds ++ d :: depthsGo d xs))) ∧ ∀ j, j ≠ 3 → j ≠ 4 → ρ' j = ρ j
  | [], ds, d, ρ, h3, _ => ⟨ρ, rfl, h3, fun _ _ _ => rfl⟩
  | x :: xs, ds, d, ρ, h3, hl => by
    have e3 : getAny 3 (upd ρ 4 (.fz (.int x))) = some (.list (natI ds ++ [.int (d : Int)])) := by
      simp only [getAny, upd_at, Nat.reduceEqDiff, if_false, h3]
      simp
    have e4 : getAny 4 (upd ρ 4 (.fz (.int x))) = some (.int x) := by simp only [getAny, upd_self]
    have s1 : subF (getAny 3) (unF .USub (intF 1)) (upd ρ 4 (.fz (.int x))) = some (.int (d : Int)) := sub_last e3 rfl
    have s2 := binI (op := .Add) (c := ((d + 1 : Nat) : Int)) s1 (g := intF 1) rfl (v_add d 1)
    have h1 : 0 ≤ x.fmod ((d + 1 : Nat) : Int) := Int.fmod_nonneg_of_pos _ (by exact Int.ofNat_succ_pos d)
    have hmod : intV .Mod x ((d + 1 : Nat) : Int) = some (x.fmod ((d + 1 : Nat) : Int)) := by
      show (if ((d + 1 : Nat) : Int) ≠ 0 then some (x.fmod ((d + 1 : Nat) : Int)) else none) = _
      rw [if_pos (by exact Ne.symm ((fun {x y} => Iff.mp bi_ine) rfl))]
    have s3 := binI (op := .Mod) e4 s2 hmod
    have hadd : intV .Add 1 (x.fmod ((d + 1 : Nat) : Int)) = some ((nextD d x : Nat) : Int) := by
      show some (1 + x.fmod ((d + 1 : Nat) : Int)) = _
      congr 1
      unfold nextD; omega
    have s4 := binI (op := .Add) (f := intF 1) rfl s3 hadd
    have hb : bodyD (upd ρ 4 (.fz (.int x))) = some (.next (upd (upd ρ 4 (.fz (.int x))) 3 (.ow (natI (ds ++ [d]) ++ [.int ((nextD d x : Nat) : Int)])))) := append_ok s4 (by simp only [upd_at, Nat.reduceEqDiff, if_false, h3]) rfl (by simp at hl ⊢; grind)
    obtain ⟨ρ', f1, f2, f3⟩ := loopD xs (ds ++ [d]) (nextD d x) (upd (upd ρ 4 (.fz (.int x))) 3 (.ow (natI (ds ++ [d]) ++ [.int ((nextD d x : Nat) : Int)]))) (by rw [upd_self]; simp) (by simp at hl ⊢; omega)
    refine ⟨ρ', ?_, ?_, fun j h1 h2 => ?_⟩
    · show forF (nameU 4) bodyD (.int x :: intsP xs) ρ = _
      rw [for_cons (ρ1 := upd ρ 4 (.fz (.int x))) rfl hb, f1]
    · rw [f2, depthsGo, List.append_assoc]; rfl
    · rw [f3 j h1 h2, upd_ne h1, upd_ne h2]
end Mine
end
section
namespace Mine

noncomputable abbrev Tok2 := Bool × Nat
structure RS where
  row : List Tok2
  places : List Nat
  closes : List Nat
  opens : List Nat
noncomputable def pop1 (σ : RS) : RS := ⟨σ.row ++ [(false, σ.opens.getLastD 0)], σ.places, σ.closes.set (σ.opens.getLastD 0) σ.row.length, σ.opens.dropLast⟩
noncomputable def popW : Nat → Nat → RS → RS
  | 0, _, σ => σ
  | f + 1, d, σ => if d < σ.opens.length then popW f d (pop1 σ) else σ
noncomputable def push1 (k : Nat) (σ : RS) : RS := ⟨σ.row ++ [(true, k)], σ.places ++ [σ.row.length], σ.closes, σ.opens ++ [k]⟩
noncomputable def rowGo (ds : List Nat) : List Nat → RS → RS
  | [], σ => σ
  | k :: ks, σ => rowGo ds ks (push1 k (popW 999 (ds.getD k 0) σ))
noncomputable def rs0 (n : Nat) : RS := ⟨[(true, 0)], [0], List.replicate n 0, [0]⟩
noncomputable def rowPops (ds : List Nat) : RS := popW 999 1 (rowGo ds ((List.range (ds.length - 1)).map (1 + ·)) (rs0 ds.length))
noncomputable def lawRow (ds : List Nat) : List Tok2 := (rowPops ds).row ++ [(false, 0)]
noncomputable def lawPlaces (ds : List Nat) : List Nat := (rowPops ds).places
noncomputable def lawCloses (ds : List Nat) : List Nat := (rowPops ds).closes.set 0 (rowPops ds).row.length

noncomputable def dressT : List (List Nat) := [[], [92, 41], [34, 40, 34], [92, 92], [97], [92, 34]]
theorem dressT_eq {d : Nat} (h : d < 6) : dressT[d]? = some (dressL d) := by
  have hd : d = 0 ∨ d = 1 ∨ d = 2 ∨ d = 3 ∨ d = 4 ∨ d = 5 := by grind
  rcases hd with rfl | rfl | rfl | rfl | rfl | rfl <;> rfl
noncomputable def dIdx (cells : List Int) (b : Bool) (k : Nat) : Nat := (((cells.getD (k - 1) 0).fdiv (if b then 12 else 72)).fmod 6).toNat
theorem dIdx_lt (cells : List Int) (b : Bool) (k : Nat) : dIdx cells b k < 6 := by
  unfold dIdx
  have h2 := Int.fmod_lt_of_pos ((cells.getD (k - 1) 0).fdiv (if b then 12 else 72)) (show (0 : Int) < 6 by decide)
  omega
noncomputable def rstr (cells : List Int) (t : Tok2) : Cell := (t.1, if t.2 = 0 then 0 else dIdx cells t.1 t.2)
theorem rstr_lt (cells : List Int) (t : Tok2) : (rstr cells t).2 < 6 := by
  unfold rstr
  simp only
  split
  · decide
  · exact dIdx_lt _ _ _

structure R101 (cells : List Int) (ds : List Nat) (σ : RS) (ρ : Rho) : Prop where
  h0 : ρ 0 = some (.fz (.list (intsP cells)))
  h1 : ρ 1 = some (.fz (.list (natI ds)))
  h2 : ρ 2 = some (.fz (.list (strsV dressT)))
  h3 : ρ 3 = some (.ow (rowV (σ.row.map (rstr cells))))
  h4 : ρ 4 = some (.ow (natI σ.places))
  h5 : ρ 5 = some (.ow (natI σ.closes))
  h6 : ρ 6 = some (.ow (natI σ.opens))

theorem len_ow {i : Nat} {ρ : Rho} {xs : List PV} (hf : ρ i = some (.ow xs)) (hl : xs.length ≤ 1000000) : callF lenV [getAny i] ρ = some (.int (xs.length : Int)) := len_list ((getAny_ow hf)) hl
theorem v_sub {a b : Nat} (h : b ≤ a) : intV .Sub (a : Int) (b : Int) = some ((a - b : Nat) : Int) := by
  show some ((a : Int) - (b : Int)) = _
  congr 1; exact Eq.symm (Int.ofNat_sub h)
theorem set_ok {i : Nat} {fi fe : Rho → Option PV} {ρ : Rho} {x : PV} {xs : List PV} {k : Nat} (hi : ρ i = some (.ow xs)) (he : fe ρ = some x) (hk : fi ρ = some (.int (k : Int))) (hs : x.sc = true) (hl : k < xs.length) (hl2 : xs.length ≤ 1000000) : setF i fi fe ρ = some (.next (upd ρ i (.ow (xs.set k x)))) := by
  unfold setF setV
  rw [he, Option.bind_some, hk, Option.bind_some, hi]
  simp only
  rw [if_pos ⟨hs, by exact Int.natCast_nonneg k, by exact (fun {n m} => Iff.mpr Int.ofNat_lt) hl, hl2⟩]
  simp
theorem pop_ok' {i j : Nat} {ρ : Rho} {xs : List PV} {y : PV} (hi : ρ i = some (.ow (xs ++ [y]))) (hs : y.sc = true) (hl : xs.length ≤ 100000) : popV i j ρ = some (.next (upd (upd ρ i (.ow xs)) j (.fz y))) := by
  unfold popV
  rw [hi]
  simp only
  rw [if_pos (by simp; omega)]
  simp [hs]

/-- the dress of a bracket -/
theorem dress_ok {cells : List Int} {ρ : Rho} {j k : Nat} {b : Bool} {m : Int} (h0 : ρ 0 = some (.fz (.list (intsP cells)))) (h2 : ρ 2 = some (.fz (.list (strsV dressT)))) (hj : getAny j ρ = some (.int (k : Int))) (hk : 1 ≤ k) (hk2 : k ≤ cells.length) (hl : cells.length ≤ 1000) (hm : m = if b then 12 else 72) (x : Str) (hx : x = mkS [parL b]) :
    binF .Add (strF x) (subF (getAny 2) (binF .Mod (binF .FloorDiv (subF (getAny 0) (binF .Sub (getAny j) (intF 1))) (intF m)) (intF 6))) ρ = some (.str (mkS (cellL (b, dIdx cells b k)))) := by
  have s1 : binF .Sub (getAny j) (intF 1) ρ = some (.int ((k - 1 : Nat) : Int)) := binI hj rfl (v_sub hk)
  have hg : cells[k - 1]? = some (cells.getD (k - 1) 0) := by
    rw [List.getD_eq_getElem?_getD, List.getElem?_eq_getElem (show k - 1 < cells.length by exact Nat.sub_one_lt_of_le hk hk2)]; rfl
  have g0 : getAny 0 ρ = some (.list (intsP cells)) := (getAny_fz h0)
  have g2 : getAny 2 ρ = some (.list (strsV dressT)) := (getAny_fz h2)
  have s2 : subF (getAny 0) (binF .Sub (getAny j) (intF 1)) ρ = some (.int (cells.getD (k - 1) 0)) := sub_list g0 s1 (by rw [List.getElem?_map, hg]; rfl) (by simp; omega)
  have s3 : binF .FloorDiv (subF (getAny 0) (binF .Sub (getAny j) (intF 1))) (intF m) ρ = some (.int ((cells.getD (k - 1) 0).fdiv m)) := by
    refine binI s2 rfl ?_
    show (if m ≠ 0 ∧ Builtin.divisionGoesByPylong (cells.getD (k - 1) 0) m = false then some ((cells.getD (k - 1) 0).fdiv m) else none) = _
    rw [if_pos]
    subst hm
    cases b
    · exact ⟨by decide, noPy (by decide)⟩
    · exact ⟨by decide, noPy (by decide)⟩
  have hd : (((cells.getD (k - 1) 0).fdiv m).fmod 6) = ((dIdx cells b k : Nat) : Int) := by
    have h1 : 0 ≤ (((cells.getD (k - 1) 0).fdiv m).fmod 6) := Int.fmod_nonneg_of_pos _ (by decide)
    unfold dIdx
    rw [← hm]; exact (fun {a} => Iff.mpr Int.eq_natCast_toNat) h1
  have s4 : binF .Mod (binF .FloorDiv (subF (getAny 0) (binF .Sub (getAny j) (intF 1))) (intF m)) (intF 6) ρ = some (.int ((dIdx cells b k : Nat) : Int)) := by
    refine binI s3 rfl ?_
    rw [← hd]; rfl
  have s5 : subF (getAny 2) (binF .Mod (binF .FloorDiv (subF (getAny 0) (binF .Sub (getAny j) (intF 1))) (intF m)) (intF 6)) ρ = some (.str (mkS (dressL (dIdx cells b k)))) := sub_list g2 s4 (by rw [List.getElem?_map, dressT_eq (dIdx_lt _ _ _)]; rfl) (by decide)
  unfold binF
  unfold binF at s5
  rw [s5]
  subst hx
  simp only [strF, Option.bind_some, binV]
  have hcl := @cell_len (b, dIdx cells b k)
  unfold cellL at hcl
  rw [if_pos (by rw [mkS_len, mkS_len]; simp at hcl ⊢; omega), mkS_app]
  rfl

noncomputable abbrev popB : Rho → Option Out := seqF (popV 6 8) (seqF (setF 5 (getAny 8) (callF lenV [(getAny 3)])) (appendF 3 (binF .Add (strF ")") (subF (getAny 2) (binF .Mod (binF .FloorDiv (subF (getAny 0) (binF .Sub (getAny 8) (intF 1))) (intF 72)) (intF 6))))))
theorem popB_ok {cells : List Int} {ds : List Nat} {σ : RS} {ρ : Rho} {os : List Nat} {last : Nat} (R : R101 cells ds σ ρ) (ho : σ.opens = os ++ [last]) (h1 : 1 ≤ last) (h2 : last ≤ cells.length) (h3 : last < σ.closes.length) (hc : cells.length ≤ 1000) (hl : σ.closes.length ≤ 1000) (hr : σ.row.length ≤ 1000) (hol : os.length ≤ 1000) :
    ∃ ρ', popB ρ = some (.next ρ') ∧ R101 cells ds (pop1 σ) ρ' ∧ ρ' 7 = ρ 7 := by
  have e6 : ρ 6 = some (.ow (natI os ++ [.int (last : Int)])) := by rw [R.h6, ho]; simp
  have hlast : σ.opens.getLastD 0 = last := by rw [ho]; simp
  have hdrop : σ.opens.dropLast = os := by rw [ho]; simp
  have hrl : (rowV (σ.row.map (rstr cells))).length = σ.row.length := by simp
  let ρ1 := upd (upd ρ 6 (.ow (natI os))) 8 (.fz (.int (last : Int)))
  have s1 : popV 6 8 ρ = some (.next ρ1) := pop_ok' e6 rfl (by simp; grind)
  have s2 : setF 5 (getAny 8) (callF lenV [(getAny 3)]) ρ1 = some (.next (upd ρ1 5 (.ow ((natI σ.closes).set last (.int (σ.row.length : Int)))))) := by
    refine set_ok (k := last) (R.h5) ?_ (rfl) rfl (by simpa using h3) (by simp; omega)
    have := len_ow (i := 3) (ρ := ρ1) (xs := rowV (σ.row.map (rstr cells))) (R.h3) (by rw [hrl]; grind)
    rw [this, hrl]
  let ρ2 := upd ρ1 5 (.ow ((natI σ.closes).set last (.int (σ.row.length : Int))))
  have s3 : appendF 3 (binF .Add (strF ")") (subF (getAny 2) (binF .Mod (binF .FloorDiv (subF (getAny 0) (binF .Sub (getAny 8) (intF 1))) (intF 72)) (intF 6)))) ρ2 = some (.next (upd ρ2 3 (.ow (rowV (σ.row.map (rstr cells)) ++ [.str (mkS (cellL (false, dIdx cells false last)))])))) :=
    append_ok (dress_ok (b := false) (k := last) (by simp [ρ2, ρ1, upd_at, R.h0]) (by simp [ρ2, ρ1, upd_at, R.h2]) (by simp [ρ2, ρ1, getAny, upd_at]) h1 h2 hc rfl _ close_lit) (by simp [ρ2, ρ1, upd_at, R.h3]) rfl (by rw [hrl]; omega)
  refine ⟨upd ρ2 3 (.ow (rowV (σ.row.map (rstr cells)) ++ [.str (mkS (cellL (false, dIdx cells false last)))])), ?_, ⟨R.h0, R.h1, R.h2, ?_, by simp [ρ2, ρ1, upd_at, R.h4, pop1], ?_, ?_⟩, rfl⟩
  · unfold popB
    rw [seq_next s1, seq_next s2, s3]
  · rw [upd_self]
    unfold pop1
    simp only [hlast]
    have hne : ¬ last = 0 := by exact Nat.ne_zero_of_lt h1
    simp [rstr, hne]
  · rw [upd_ne (by decide)]
    show upd ρ1 5 _ 5 = _
    rw [upd_self]
    unfold pop1
    simp only [hlast]
    simp [List.map_set]
  · rw [upd_ne (by decide)]
    show upd ρ1 5 _ 6 = _
    simp [ρ1, upd_at, pop1, hdrop]

/-- what holds between the turns -/
structure OkS (m : Nat) (σ : RS) (B : Nat) : Prop where
  op : ∃ rest, σ.opens = 0 :: rest ∧ ∀ k ∈ rest, 1 ≤ k ∧ k ≤ m
  cl : σ.closes.length = m + 1
  sz : σ.row.length + σ.opens.length ≤ B
theorem pop1_ok {m B : Nat} {σ : RS} (h : OkS m σ B) (ho : 1 < σ.opens.length) : ∃ os last, σ.opens = os ++ [last] ∧ 1 ≤ last ∧ last ≤ m ∧ OkS m (pop1 σ) B := by
  obtain ⟨rest, e, hr⟩ := h.op
  have hne : rest ≠ [] := by rintro rfl; rw [e] at ho; simp at ho
  have e2 : rest = rest.dropLast ++ [rest.getLast hne] := (List.dropLast_concat_getLast hne).symm
  have e3 : σ.opens = (0 :: rest.dropLast) ++ [rest.getLast hne] := by rw [e, List.cons_append, ← e2]
  have hm := hr _ (List.getLast_mem hne)
  have hd : σ.opens.dropLast = 0 :: rest.dropLast := by rw [e3, List.dropLast_concat]
  refine ⟨0 :: rest.dropLast, rest.getLast hne, e3, hm.1, hm.2, ⟨⟨rest.dropLast, hd, fun k hk => hr k (List.dropLast_subset _ hk)⟩, by simp [pop1, h.cl], ?_⟩⟩
  have := h.sz
  simp only [pop1, List.length_append, List.length_dropLast, List.length_cons, List.length_nil]
  omega
theorem popW_ok {m B d : Nat} (hd : 1 ≤ d) : ∀ (f : Nat) {σ : RS}, OkS m σ B → OkS m (popW f d σ) B
  | 0, σ, h => h
  | f + 1, σ, h => by
    unfold popW
    split
    · obtain ⟨_, _, _, _, _, h'⟩ := pop1_ok h (by omega)
      exact popW_ok hd f h'
    · exact h
theorem push1_ok {m B k : Nat} {σ : RS} (h : OkS m σ B) (h1 : 1 ≤ k) (h2 : k ≤ m) : OkS m (push1 k σ) (B + 2) := by
  obtain ⟨rest, e, hr⟩ := h.op
  refine ⟨⟨rest ++ [k], by simp [push1, e], fun j hj => ?_⟩, by simp [push1, h.cl], ?_⟩
  · rcases List.mem_append.mp hj with h' | h'
    · exact hr j h'
    · rw [List.mem_singleton.mp h']; exact ⟨h1, h2⟩
  · have := h.sz
    simp only [push1, List.length_append, List.length_cons, List.length_nil]
    grind

theorem pops101 {cells : List Int} {ds : List Nat} {B d : Nat} {x7 : Option Slot} {t : Rho → Option Bool} (hd : 1 ≤ d) (hB : B ≤ 1000) (hc : cells.length ≤ 900) (ht : ∀ (σ : RS) (ρ : Rho), R101 cells ds σ ρ → σ.opens.length ≤ 1000 → ρ 7 = x7 → t ρ = some (decide (d < σ.opens.length))) :
    ∀ (f : Nat) (σ : RS) (ρ : Rho), R101 cells ds σ ρ → OkS cells.length σ B → σ.opens.length ≤ d + f → ρ 7 = x7 → ∃ ρ', whileF t popB (f + 1) ρ = some (.next ρ') ∧ R101 cells ds (popW f d σ) ρ' ∧ ρ' 7 = x7
  | 0, σ, ρ, R, O, hf, h7 => by
    have ho := O.sz
    have := ht σ ρ R (by grind) h7
    rw [decide_eq_false (by exact (fun {a b} => Iff.mpr Nat.not_lt) hf)] at this
    exact ⟨ρ, while_done this, R, h7⟩
  | f + 1, σ, ρ, R, O, hf, h7 => by
    have ho := O.sz
    have h := ht σ ρ R (by omega) h7
    by_cases hq : d < σ.opens.length
    · rw [decide_eq_true hq] at h
      obtain ⟨os, last, e, l1, l2, O'⟩ := pop1_ok O (by exact Nat.lt_of_le_of_lt hd hq)
      have hlen : σ.opens.length = os.length + 1 := by rw [e]; simp
      obtain ⟨ρ1, b1, b2, b3⟩ := popB_ok R e l1 l2 (by rw [O.cl]; exact Nat.lt_succ_of_le l2) (by grind) (by rw [O.cl]; grind) (by grind) (by grind)
      obtain ⟨ρ', c1, c2, c3⟩ := pops101 hd hB hc ht f (pop1 σ) ρ1 b2 O' (by simp only [pop1, List.length_dropLast]; exact Nat.sub_le_of_le_add hf) (b3.trans h7)
      refine ⟨ρ', by rw [while_more h b1, c1], ?_, c3⟩
      unfold popW
      rw [if_pos hq]; exact c2
    · rw [decide_eq_false hq] at h
      refine ⟨ρ, while_done h, ?_, h7⟩
      unfold popW
      rw [if_neg hq]; exact R
end Mine
end
section
namespace Mine

noncomputable abbrev turn101 : Rho → Option Out := (seqF (whileF (cmpF .Gt (callF lenV [(getAny 6)]) (subF (getAny 1) (getAny 7))) popB 1000)
  (seqF (appendF 4 (callF lenV [(getAny 3)]))
  (seqF (appendF 6 (getAny 7))
  (appendF 3 (binF .Add (strF "(") (subF (getAny 2) (binF .Mod (binF .FloorDiv (subF (getAny 0) (binF .Sub (getAny 7) (intF 1))) (intF 12)) (intF 6))))))))

theorem R101.upd7 {cells : List Int} {ds : List Nat} {σ : RS} {ρ : Rho} (R : R101 cells ds σ ρ) (x : Slot) : R101 cells ds σ (upd ρ 7 x) :=
  ⟨R.h0, R.h1, R.h2, R.h3, R.h4, R.h5, R.h6⟩

theorem turn101_ok {cells : List Int} {ds : List Nat} {σ : RS} {ρ : Rho} {k B : Nat} (R : R101 cells ds σ ρ) (O : OkS cells.length σ B) (hB : B ≤ 900) (hc : cells.length ≤ 900) (h7 : ρ 7 = some (.fz (.int (k : Int)))) (hk : 1 ≤ k) (hk2 : k ≤ cells.length) (hds : ds.length = cells.length + 1) (hd : 1 ≤ ds.getD k 0) (hpl : σ.places.length ≤ 1000) :
    ∃ ρ', turn101 ρ = some (.next ρ') ∧ R101 cells ds (push1 k (popW 999 (ds.getD k 0) σ)) ρ' := by
  have hdk : (natI ds)[k]? = some (.int ((ds.getD k 0 : Nat) : Int)) := by
    rw [List.getElem?_map, List.getD_eq_getElem?_getD, List.getElem?_eq_getElem (show k < ds.length by grind)]; rfl
  have ht : ∀ (σ' : RS) (ρ' : Rho), R101 cells ds σ' ρ' → σ'.opens.length ≤ 1000 → ρ' 7 = some (.fz (.int (k : Int))) → cmpF .Gt (callF lenV [(getAny 6)]) (subF (getAny 1) (getAny 7)) ρ' = some (decide (ds.getD k 0 < σ'.opens.length)) := fun σ' ρ' R' ho h7' => by
    have g1 : getAny 1 ρ' = some (.list (natI ds)) := (getAny_fz R'.h1)
    have g7 : getAny 7 ρ' = some (.int (k : Int)) := (getAny_fz h7')
    have s1 := sub_list g1 g7 hdk (by simp; omega)
    have s2 := len_ow R'.h6 (by simp; grind)
    rw [List.length_map] at s2
    rw [cmpI s2 s1 (r := decide ((ds.getD k 0 : Int) < (σ'.opens.length : Int))) rfl]
    congr 1
    rw [Bool.eq_iff_iff, decide_eq_true_iff, decide_eq_true_iff]
    exact Int.ofNat_lt
  have hsz := O.sz
  obtain ⟨ρ1, w1, w2, w3⟩ := pops101 hd (by grind) hc ht 999 σ ρ R O (by grind) h7
  have O1 := popW_ok (d := ds.getD k 0) hd 999 O
  obtain ⟨τ, hτ⟩ : ∃ τ, τ = popW 999 (ds.getD k 0) σ := ⟨_, rfl⟩
  rw [← hτ] at w2 O1 ⊢
  have hpl1 : ∀ (f d : Nat) (σ : RS), (popW f d σ).places = σ.places := fun f => by
    induction f with
    | zero => intro d σ; rfl
    | succ f ih => intro d σ; unfold popW; split; rw [ih]; rfl; rfl
  have hplτ : τ.places.length ≤ 1000 := by rw [hτ, hpl1]; exact hpl
  have hszτ := O1.sz
  have hrl : (rowV (τ.row.map (rstr cells))).length = τ.row.length := by simp
  have s1 : appendF 4 (callF lenV [(getAny 3)]) ρ1 = some (.next (upd ρ1 4 (.ow (natI τ.places ++ [.int (τ.row.length : Int)])))) := by
    refine append_ok ?_ w2.h4 rfl (by simp; grind)
    rw [len_ow w2.h3 (by rw [hrl]; grind), hrl]
  let ρ2 := upd ρ1 4 (.ow (natI τ.places ++ [.int (τ.row.length : Int)]))
  have s2 : appendF 6 (getAny 7) ρ2 = some (.next (upd ρ2 6 (.ow (natI τ.opens ++ [.int (k : Int)])))) :=
    append_ok ((getAny_fz w3)) (w2.h6) rfl (by simp; grind)
  let ρ3 := upd ρ2 6 (.ow (natI τ.opens ++ [.int (k : Int)]))
  have s3 : appendF 3 (binF .Add (strF "(") (subF (getAny 2) (binF .Mod (binF .FloorDiv (subF (getAny 0) (binF .Sub (getAny 7) (intF 1))) (intF 12)) (intF 6)))) ρ3 = some (.next (upd ρ3 3 (.ow (rowV (τ.row.map (rstr cells)) ++ [.str (mkS (cellL (true, dIdx cells true k)))])))) :=
    append_ok (dress_ok (b := true) (k := k) (w2.h0) (w2.h2) ((getAny_fz w3)) hk hk2 (by grind) rfl _ open_lit) (w2.h3) rfl (by rw [hrl]; omega)
  refine ⟨_, by unfold turn101; rw [seq_next w1, seq_next s1, seq_next s2]; exact s3, by simp [ρ3, ρ2, upd_at, w2.h0], by simp [ρ3, ρ2, upd_at, w2.h1], by simp [ρ3, ρ2, upd_at, w2.h2], ?_, ?_, by simp [ρ3, ρ2, upd_at, w2.h5, push1], ?_⟩
  · rw [upd_self]
    have hne : ¬ k = 0 := by exact Nat.ne_zero_of_lt hk
    simp [push1, rstr, hne]
  · rw [upd_ne (by decide)]
    simp [ρ3, ρ2, upd_at, push1]
  · rw [upd_ne (by decide)]
    simp [ρ3, upd_at, push1]

theorem loop101 {cells : List Int} {ds : List Nat} (hc : cells.length ≤ 20) (hds : ds.length = cells.length + 1) (hd : ∀ k, 1 ≤ k → k ≤ cells.length → 1 ≤ ds.getD k 0) : ∀ (ks : List Nat) (σ : RS) (ρ : Rho) (B : Nat), R101 cells ds σ ρ → OkS cells.length σ B → (∀ k ∈ ks, 1 ≤ k ∧ k ≤ cells.length) → B + 2 * ks.length ≤ 200 → σ.places.length + ks.length ≤ 500 →
    ∃ ρ', forF (nameU 7) turn101 (natI ks) ρ = some (.next ρ') ∧ R101 cells ds (rowGo ds ks σ) ρ' ∧ OkS cells.length (rowGo ds ks σ) (B + 2 * ks.length)
  | [], σ, ρ, B, R, O, _, _, _ => ⟨ρ, rfl, R, O⟩
  | k :: ks, σ, ρ, B, R, O, hk, hB, hp => by
    obtain ⟨k1, k2⟩ := hk k (.head _)
    rw [List.length_cons] at hB hp
    have hdk := hd k k1 k2
    obtain ⟨ρ1, e1, R1⟩ := turn101_ok (R.upd7 (.fz (.int (k : Int)))) O (by grind) (by grind) (upd_self _ _ _) k1 k2 hds hdk (by grind)
    have O1 := push1_ok (k := k) (popW_ok (d := ds.getD k 0) hdk 999 O) k1 k2
    have hpl1 : ∀ (f d : Nat) (σ : RS), (popW f d σ).places = σ.places := fun f => by
      induction f with
      | zero => intro d σ; rfl
      | succ f ih => intro d σ; unfold popW; split; rw [ih]; rfl; rfl
    obtain ⟨ρ', f1, f2, f3⟩ := loop101 hc hds hd ks (push1 k (popW 999 (ds.getD k 0) σ)) ρ1 (B + 2) R1 O1 (fun j hj => hk j (.tail _ hj)) (by grind) (by simp [push1, hpl1]; grind)
    refine ⟨ρ', ?_, f2, ?_⟩
    · show forF (nameU 7) turn101 (.int (k : Int) :: natI ks) ρ = _
      rw [for_cons (ρ1 := upd ρ 7 (.fz (.int (k : Int)))) rfl e1, f1]
    · rw [List.length_cons, Nat.mul_add, Nat.mul_one, Nat.add_comm (2 * ks.length) 2, ← Nat.add_assoc]; exact f3

theorem F101_ok {cells : List Int} {ds : List Nat} (hc : cells.length ≤ 20) (hds : ds.length = cells.length + 1) (hd : ∀ k, 1 ≤ k → k ≤ cells.length → 1 ≤ ds.getD k 0) :
    F101 [.list (intsP cells), .list (natI ds)] = some (.tuple [.list (rowV ((lawRow ds).map (rstr cells))), .list (natI (lawPlaces ds)), .list (natI (lawCloses ds))]) := by
  have e0 : F101 [.list (intsP cells), .list (natI ds)] = (f101 (parR [.list (intsP cells), .list (natI ds)])).map outV := rfl
  rw [e0]
  have p0 : parR [.list (intsP cells), .list (natI ds)] 0 = some (.fz (.list (intsP cells))) := rfl
  have p1 : parR [.list (intsP cells), .list (natI ds)] 1 = some (.fz (.list (natI ds))) := rfl
  generalize parR [.list (intsP cells), .list (natI ds)] = ρ at p0 p1 ⊢
  unfold f101
  have hdr : exF (listF [(strF ""), (strF "\\)"), (strF "\"(\""), (strF "\\\\"), (strF "a"), (strF "\\\"")]) ρ = some (.list (strsV dressT)) := by
    have l1 : ("\\)" : Str) = mkS [92, 41] := by decide +kernel
    have l2 : ("\\\\" : Str) = mkS [92, 92] := by decide +kernel
    have l3 : ("a" : Str) = mkS [97] := by decide +kernel
    have l4 : ("\\\"" : Str) = mkS [92, 34] := by decide +kernel
    rw [empty_lit, l1, qdress_lit, l2, l3, l4]
    rfl
  rw [seq_next (assign_ok hdr)]
  rw [seq_next (assignN_ok (x := [.str (mkS [40])]) (by rw [open_lit]; rfl)), seq_next (assignN_ok (x := [.int 0]) rfl)]
  let ρ3 := upd (upd (upd ρ 2 (.fz (.list (strsV dressT)))) 3 (.ow [.str (mkS [40])])) 4 (.ow [.int 0])
  have hcl : compE 9 (listIt (getFz 1)) (compG (nameU 9) yesF (emF (intF 0))) ρ3 = some (natI (List.replicate ds.length 0)) := by
    have := compE_one (m := 9) (i := 9) (fi := listIt (getFz 1)) (f := intF 0) (g := fun _ => .int 0) (xs := natI ds) (ρ := ρ3) (by simp [ρ3, listIt, getFz, upd_at, p1, toL]) (by simp; omega) (fun x _ ρ' _ _ => rfl)
    rw [this]
    congr 1
    unfold natI
    rw [List.map_map, List.map_replicate]
    exact List.eq_replicate_iff.mpr ⟨by simp, fun b hb => by obtain ⟨_, _, rfl⟩ := List.mem_map.mp hb; rfl⟩
  rw [seq_next (assignN_ok hcl), seq_next (assignN_ok (x := [.int 0]) rfl)]
  let ρ5 := upd (upd ρ3 5 (.ow (natI (List.replicate ds.length 0)))) 6 (.ow [.int 0])
  have R : R101 cells ds (rs0 ds.length) ρ5 := ⟨p0, p1, rfl, by simp [ρ5, ρ3, upd_at, rs0, rstr]; rfl, by simp [ρ5, ρ3, upd_at, rs0], by simp [ρ5, ρ3, upd_at, rs0], by simp [ρ5, ρ3, upd_at, rs0]⟩
  have O : OkS cells.length (rs0 ds.length) 2 := ⟨⟨[], rfl, fun _ h => nomatch h⟩, by simp [rs0, hds], by simp [rs0]⟩
  have hks : ∀ k ∈ (List.range (ds.length - 1)).map (1 + ·), 1 ≤ k ∧ k ≤ cells.length := fun k hk => by
    obtain ⟨j, hj, rfl⟩ := List.mem_map.mp hk
    have := List.mem_range.mp hj
    omega
  obtain ⟨ρ6, f1, f2, f3⟩ := loop101 hc hds hd ((List.range (ds.length - 1)).map (1 + ·)) (rs0 ds.length) ρ5 2 R O hks (by simp; omega) (by simp [rs0]; omega)
  have hr : rangeF [(intF 1), (callF lenV [(getAny 1)])] ρ5 = some (natI ((List.range (ds.length - 1)).map (1 + ·))) := by
    refine rngAB (a := 1) (b := ds.length) ?_ (by grind) (by omega)
    have := len_list (f := getAny 1) (ρ := ρ5) (xs := natI ds) ((getAny_fz R.h1)) (by simp; omega)
    rw [List.length_map] at this
    simp only [argsF, intF, Option.bind_some, Option.map_some]
    rw [this]; rfl
  have hfor : forE (rangeF [(intF 1), (callF lenV [(getAny 1)])]) (nameU 7) turn101 ρ5 = some (.next ρ6) := by
    unfold forE
    rw [hr, Option.bind_some, f1]
  rw [seq_next hfor]
  have ht : ∀ (σ' : RS) (ρ' : Rho), R101 cells ds σ' ρ' → σ'.opens.length ≤ 1000 → ρ' 7 = ρ6 7 → cmpF .Gt (callF lenV [(getAny 6)]) (intF 1) ρ' = some (decide (1 < σ'.opens.length)) := fun σ' ρ' R' ho _ => by
    have s2 := len_ow R'.h6 (by simp; omega)
    rw [List.length_map] at s2
    rw [cmpI s2 rfl (r := decide ((1 : Int) < (σ'.opens.length : Int))) rfl]
    congr 1
    rw [Bool.eq_iff_iff, decide_eq_true_iff, decide_eq_true_iff]
    omega
  have hks2 : ((List.range (ds.length - 1)).map (1 + ·)).length = cells.length := by simp; exact Eq.symm (Nat.eq_sub_of_add_eq (id (Eq.symm hds)))
  rw [hks2] at f3
  have hsz := f3.sz
  obtain ⟨ρ7, w1, w2, w3⟩ := pops101 (d := 1) (Nat.le_refl _) (by grind) (by grind) ht 999 _ ρ6 f2 f3 (by omega) rfl
  rw [seq_next w1]
  have O7 := popW_ok (d := 1) (Nat.le_refl _) 999 f3
  obtain ⟨τ, hτ⟩ : ∃ τ, τ = rowPops ds := ⟨_, rfl⟩
  have hτ' : popW 999 1 (rowGo ds ((List.range (ds.length - 1)).map (1 + ·)) (rs0 ds.length)) = τ := hτ.symm
  rw [hτ'] at w2 O7
  have hszτ := O7.sz
  have hrl : (rowV (τ.row.map (rstr cells))).length = τ.row.length := by simp
  have s2 : setF 5 (intF 0) (callF lenV [(getAny 3)]) ρ7 = some (.next (upd ρ7 5 (.ow ((natI τ.closes).set 0 (.int (τ.row.length : Int)))))) := by
    refine set_ok (k := 0) w2.h5 ?_ rfl rfl (by simp [O7.cl]) (by simp [O7.cl]; grind)
    rw [len_ow w2.h3 (by rw [hrl]; grind), hrl]
  rw [seq_next s2]
  let ρ8 := upd ρ7 5 (.ow ((natI τ.closes).set 0 (.int (τ.row.length : Int))))
  have s3 : appendF 3 (strF ")") ρ8 = some (.next (upd ρ8 3 (.ow (rowV (τ.row.map (rstr cells)) ++ [.str (mkS [41])])))) :=
    append_ok (by rw [close_lit]; rfl) (w2.h3) rfl (by rw [hrl]; omega)
  rw [seq_next s3]
  let ρ9 := upd ρ8 3 (.ow (rowV (τ.row.map (rstr cells)) ++ [.str (mkS [41])]))
  have t3 : ρ9 3 = some (.ow (rowV ((lawRow ds).map (rstr cells)))) := by
    have : lawRow ds = τ.row ++ [(false, 0)] := by rw [hτ]; rfl
    rw [this]
    simp [ρ9, upd_at, rstr]; rfl
  have t4 : ρ9 4 = some (.ow (natI (lawPlaces ds))) := by
    have : lawPlaces ds = τ.places := by rw [hτ]; rfl
    rw [this]
    simp [ρ9, ρ8, upd_at, w2.h4]
  have t5 : ρ9 5 = some (.ow (natI (lawCloses ds))) := by
    have : lawCloses ds = τ.closes.set 0 τ.row.length := by rw [hτ]; rfl
    rw [this]
    simp [ρ9, ρ8, upd_at, List.map_set]
  have hsc : ∀ ns : List Nat, (natI ns).all PV.sc = true := fun ns => by
    rw [List.all_map, List.all_eq_true]; intro l _; rfl
  rw [ret_ok (x := .tuple [.list (rowV ((lawRow ds).map (rstr cells))), .list (natI (lawPlaces ds)), .list (natI (lawCloses ds))]) (by
    show tupKF [(getRt 3), (getRt 4), (getRt 5)] ρ9 = _
    have g3 : getRt 3 ρ9 = some (.list (rowV ((lawRow ds).map (rstr cells)))) := by unfold getRt; rw [t3]; simp only [strsV_sc, if_true]
    have g4 : getRt 4 ρ9 = some (.list (natI (lawPlaces ds))) := by unfold getRt; rw [t4]; simp only [hsc, if_true]
    have g5 : getRt 5 ρ9 = some (.list (natI (lawCloses ds))) := by unfold getRt; rw [t5]; simp only [hsc, if_true]
    simp only [tupKF, argsF, g3, g4, g5, Option.bind_some, Option.map_some, List.length_cons, List.length_nil, Nat.reduceAdd, Nat.reduceLeDiff, if_true])]
  rfl
end Mine
end
section
namespace Mine

noncomputable def isI (x : Option PV) (k : Int) : Bool := match x with | some (.int j) => j == k | _ => false
theorem isI_ok {x : Option PV} {k : Int} (h : isI x k = true) : x = some (.int k) := by
  unfold isI at h
  split at h
  · rw [beq_iff_eq.mp h]
  · cases h
noncomputable def isT2 (x : Option PV) (a b : Int) : Bool := match x with | some (.tuple [.int i, .int j]) => i == a && j == b | _ => false
theorem isT2_ok {x : Option PV} {a b : Int} (h : isT2 x a b = true) : x = some (.tuple [.int a, .int b]) := by
  unfold isT2 at h
  split at h
  · rw [Bool.and_eq_true, beq_iff_eq, beq_iff_eq] at h
    rw [h.1, h.2]
  · cases h
noncomputable def isInts : List PV → List Int → Bool
  | [], [] => true
  | .int i :: r, k :: ks => i == k && isInts r ks
  | _, _ => false
theorem isInts_ok : ∀ {xs : List PV} {ks : List Int}, isInts xs ks = true → xs = intsP ks
  | [], [], _ => rfl
  | [], _ :: _, h => by simp [isInts] at h
  | x :: r, [], h => by simp [isInts] at h
  | x :: r, k :: ks, h => by
    cases x <;> simp only [isInts, Bool.and_eq_true, beq_iff_eq] at h <;> first | (cases h; done) | skip
    rw [h.1, isInts_ok h.2]; rfl
noncomputable def isIs (x : Option PV) (ks : List Int) : Bool := match x with | some (.list xs) => isInts xs ks | _ => false
theorem isIs_ok {x : Option PV} {ks : List Int} (h : isIs x ks = true) : x = some (.list (intsP ks)) := by
  unfold isIs at h
  split at h
  · rw [isInts_ok h]
  · cases h

/-! what hangs on the depths alone -/
noncomputable def sgn (ds : List Nat) : List Bool := (lawRow ds).map (·.1)
noncomputable def endsL (p n : Nat) : List Nat := (List.range ((n - p) / 2)).map fun i => p + 1 + 2 * i
noncomputable def endsChk (p n : Nat) (es : List Nat) : Bool :=
  Builtin.Range.small ((p + 1 : Nat) : Int) (n : Int) 2 && decide (0 ≤ Builtin.Range.rangeSize ((p + 1 : Nat) : Int) (n : Int) 2) && decide (Builtin.Range.rangeSize ((p + 1 : Nat) : Int) (n : Int) 2 ≤ 1000000) &&
    (rangeL ((p + 1 : Nat) : Int) (n : Int) 2 == es.map (fun (e : Nat) => (e : Int))) && es.all fun e => decide (p ≤ e) && decide (e < n)
theorem endsChk_ok {p n : Nat} {es : List Nat} (h : endsChk p n es = true) : EndsOk p n es ∧ ∀ e ∈ es, p ≤ e ∧ e < n := by
  unfold endsChk at h
  simp only [Bool.and_eq_true, decide_eq_true_eq, beq_iff_eq, List.all_eq_true] at h
  exact ⟨⟨⟨h.1.1.1.1, h.1.1.1.2, h.1.1.2⟩, h.1.2⟩, h.2⟩
noncomputable def holdB (ds : List Nat) (j k : Nat) : Bool := decide ((lawPlaces ds).getD (k + 1) 0 ≤ (lawPlaces ds).getD j 0) && decide ((lawPlaces ds).getD j 0 < (lawCloses ds).getD (k + 1) 0)
noncomputable def wordL (ds : List Nat) (j : Nat) : List Nat := (List.range (ds.length - 1)).map fun k => if holdB ds j k then 65 + k else 97 + k
noncomputable def wayL (ds : List Nat) (j : Nat) : List Nat := ((List.range (ds.length - 1)).filter (holdB ds j)).map fun k => 65 + k
noncomputable def lowOf (ds : List Nat) (i j : Nat) : Nat := ((List.range (j - i)).map fun k => ds.getD (i + 1 + k) 0 - 1).foldl min (ds.getD i 0)
noncomputable def oneOf (ds : List Nat) (i j : Nat) : Nat := ds.getD i 0 - lowOf ds i j
noncomputable def twoOf (ds : List Nat) (i j : Nat) : Nat := ds.getD j 0 - lowOf ds i j
noncomputable def shownL (ds : List Nat) : List Nat := (sgn ds).map parL

noncomputable def pairChk (ds : List Nat) (i j : Nat) : Bool :=
  isT2 (F118 [.list (natI ds), .int (i : Int), .int (j : Int)]) (oneOf ds i j) (twoOf ds i j) &&
  isI (F28 [.str (mkS (wordL ds i)), .str (mkS (wordL ds j)), .int ((oneOf ds i j + twoOf ds i j : Nat) : Int)]) ((oneOf ds i j + twoOf ds i j : Nat) : Int) &&
  isI (F28 [.str (mkS (wayL ds j)), .str (mkS (wayL ds i)), .int (((2 * max (oneOf ds i j) (twoOf ds i j) : Nat) : Int) - (((i + j) % 2 : Nat) : Int))]) ((2 * max (oneOf ds i j) (twoOf ds i j) : Nat) : Int)
noncomputable def chkA (ds : List Nat) : Bool :=
  (lawPlaces ds).length == ds.length && (lawCloses ds).length == ds.length &&
  (lawPlaces ds).all (fun p => endsChk p (lawRow ds).length (endsL p (lawRow ds).length)) &&
  ((lawPlaces ds).map (fun p => mateGo (sgn ds) p (endsL p (lawRow ds).length)) == (lawCloses ds).map (fun (e : Nat) => (e : Int))) &&
  !balGo 0 (sgn ds).dropLast && !balGo 0 ((sgn ds).drop 1 ++ (sgn ds).take 1) &&
  decide ((lawRow ds).length ≤ 20) && decide (2 ≤ (lawRow ds).length)
noncomputable def chkB (ds : List Nat) : Bool :=
  isI (F28 [.str (mkS ((shownL ds).drop 1).dropLast), .str (mkS (shownL ds)), .int 4]) 4 &&
  isIs (F123 [.str (mkS (wordL ds (ds.length - 1)))]) [4, 4, 4, 2, 2 * ds.length - 2, 2 * ds.length - 4, 2, 100]
noncomputable def chkC (ds : List Nat) : Bool := (List.range ds.length).all fun j => (List.range j).all fun i => pairChk ds i j
noncomputable def chk (ds : List Nat) : Bool := chkA ds && chkB ds && chkC ds
end Mine
end
section
namespace Mine

/-! polynomials in q, and such that are linear in z -/
noncomputable def ev : List Int → Int → Int
  | [], _ => 0
  | c :: r, q => c + q * ev r q
noncomputable def padd : List Int → List Int → List Int
  | [], b => b
  | x :: a, [] => x :: a
  | x :: a, y :: b => (x + y) :: padd a b
noncomputable def pscale (c : Int) (p : List Int) : List Int := p.map (c * ·)
noncomputable def pmul : List Int → List Int → List Int
  | [], _ => []
  | x :: a, b => padd (pscale x b) (0 :: pmul a b)
noncomputable def pzero (p : List Int) : Bool := p.all (· == 0)
noncomputable def psub (a b : List Int) : List Int := padd a (pscale (-1) b)
theorem ev_padd (q : Int) : ∀ a b : List Int, ev (padd a b) q = ev a q + ev b q
  | [], b => by simp [padd, ev]
  | x :: a, [] => by simp [padd, ev]
  | x :: a, y :: b => by
    simp only [padd, ev, ev_padd q a b, Int.mul_add]; grind
theorem ev_pscale (c q : Int) : ∀ p : List Int, ev (pscale c p) q = c * ev p q
  | [] => by simp [pscale, ev]
  | x :: p => by
    have := ev_pscale c q p
    unfold pscale at this ⊢
    simp only [List.map_cons, ev, this, Int.mul_add]
    rw [← Int.mul_assoc, ← Int.mul_assoc, Int.mul_comm q c]
theorem ev_pmul (q : Int) : ∀ a b : List Int, ev (pmul a b) q = ev a q * ev b q
  | [], b => by simp [pmul, ev]
  | x :: a, b => by
    simp only [pmul, ev_padd, ev_pscale, ev, ev_pmul q a b, Int.zero_add, Int.add_mul, Int.mul_assoc]
theorem ev_psub (q : Int) (a b : List Int) : ev (psub a b) q = ev a q - ev b q := by
  unfold psub; rw [ev_padd, ev_pscale]; grind
theorem ev_pzero {p : List Int} (h : pzero p = true) (q : Int) : ev p q = 0 := by
  induction p with
  | nil => rfl
  | cons x p ih =>
    unfold pzero at h ih
    rw [List.all_cons, Bool.and_eq_true, beq_iff_eq] at h
    simp only [ev, h.1, ih h.2]; simp
noncomputable abbrev LP := List Int × List Int
noncomputable def evL (p : LP) (z q : Int) : Int := ev p.1 q + z * ev p.2 q
/-- X * Y - U * V = B * N -/
noncomputable def idChk (X Y U V B N : LP) : Bool :=
  pzero (psub (psub (pmul X.1 Y.1) (pmul U.1 V.1)) (pmul B.1 N.1)) &&
  pzero (psub (psub (padd (pmul X.1 Y.2) (pmul X.2 Y.1)) (padd (pmul U.1 V.2) (pmul U.2 V.1))) (padd (pmul B.1 N.2) (pmul B.2 N.1))) &&
  pzero (psub (psub (pmul X.2 Y.2) (pmul U.2 V.2)) (pmul B.2 N.2))
theorem idChk_ok {X Y U V B N : LP} (h : idChk X Y U V B N = true) (z q : Int) : evL X z q * evL Y z q - evL U z q * evL V z q = evL B z q * evL N z q := by
  unfold idChk at h
  rw [Bool.and_eq_true, Bool.and_eq_true] at h
  obtain ⟨⟨h1, h2⟩, h3⟩ := h
  have e1 := ev_pzero h1 q
  have e2 := ev_pzero h2 q
  have e3 := ev_pzero h3 q
  simp only [ev_psub, ev_padd, ev_pmul] at e1 e2 e3
  unfold evL
  generalize ev X.1 q = x1 at *
  generalize ev X.2 q = x2 at *
  generalize ev Y.1 q = y1 at *
  generalize ev Y.2 q = y2 at *
  generalize ev U.1 q = u1 at *
  generalize ev U.2 q = u2 at *
  generalize ev V.1 q = v1 at *
  generalize ev V.2 q = v2 at *
  generalize ev B.1 q = b1 at *
  generalize ev B.2 q = b2 at *
  generalize ev N.1 q = n1 at *
  generalize ev N.2 q = n2 at *
  grind
/-- the same number -/
noncomputable def eqChk (A B : LP) : Bool := pzero (psub A.1 B.1) && pzero (psub A.2 B.2)
theorem eqChk_ok {A B : LP} (h : eqChk A B = true) (z q : Int) : evL A z q = evL B z q := by
  unfold eqChk at h
  rw [Bool.and_eq_true] at h
  have e1 := ev_pzero h.1 q
  have e2 := ev_pzero h.2 q
  rw [ev_psub] at e1 e2
  unfold evL
  rw [show ev A.1 q = ev B.1 q by exact Int.eq_of_sub_eq_zero e1, show ev A.2 q = ev B.2 q by exact Int.eq_of_sub_eq_zero e2]
noncomputable def ppow (p : List Int) : Nat → List Int
  | 0 => [1]
  | n + 1 => pmul p (ppow p n)
theorem ev_ppow (q : Int) (p : List Int) : ∀ n, ev (ppow p n) q = ev p q ^ n
  | 0 => by simp [ppow, ev]
  | n + 1 => by rw [ppow, ev_pmul, ev_ppow q p n, Int.pow_succ, Int.mul_comm]
/-- the due -/
noncomputable def dueP (k : Nat) : LP := if k = 0 then ([], [1]) else
  (pscale ((-1) ^ k * k) (ppow [1, 1] (k - 1)), pmul (pscale ((-1) ^ k) (ppow [1, 1] (k - 1))) [(k : Int) + 1, -((k : Int) - 1)])
noncomputable def dueI (k : Nat) (z q : Int) : Int := if k = 0 then z else (-1) ^ k * (1 + q) ^ (k - 1) * ((k : Int) + z * (((k : Int) + 1) - ((k : Int) - 1) * q))
theorem dueP_ok (k : Nat) (z q : Int) : evL (dueP k) z q = dueI k z q := by
  unfold dueP dueI evL
  split
  · simp [ev]
  · simp only [ev_pscale, ev_pmul, ev_ppow, ev, Int.mul_zero, Int.add_zero, Int.mul_one]
    generalize (1 + q) ^ (k - 1) = a
    generalize (-1 : Int) ^ k = b
    generalize (k : Int) = c
    grind
end Mine
end
section
set_option maxRecDepth 100000
namespace Mine

/-- the minors' determinants, shape by shape: behind k nodes, at i, j; printed by a program of ours (wip/gencert.py) -/
noncomputable def certT : List (List Nat × List (List (List LP))) := [
  ([0,1,1,1], [[[([],[1]), ([1],[1]), ([1],[1]), ([1],[1])], [([],[1]), ([1,1],[1]), ([1,1],[1])], [([],[1]), ([1,1],[1])], [([],[1])]],
    [[([-1],[-2]), ([-1],[-1,1]), ([-1],[-1,1])], [([-1],[-2]), ([-1],[-1,1])], [([-1],[-2])]],
    [[([2,2],[3,2,-1]), ([1,1],[1,0,-1])], [([2,2],[3,2,-1])]],
    [[([-3,-6,-3],[-4,-6,0,2])]]]),
  ([0,1,1,2], [[[([],[1]), ([1],[1]), ([1],[1]), ([1,1],[1])], [([],[1]), ([1,1],[1]), ([1,1,1],[1])], [([],[1]), ([1],[1])], [([],[1])]],
    [[([-1],[-2]), ([-1],[-1,1]), ([-1,-1],[-1,0,1])], [([-1],[-2]), ([-1,-1],[-1,-1])], [([-1,-2,-1],[-2,-2])]],
    [[([2,2],[3,2,-1]), ([1,3,2],[1,3,1,-1])], [([2,4,4,2],[3,4,2,0,-1])]],
    [[([-3,-6,-3],[-4,-6,0,2])]]]),
  ([0,1,2,1], [[[([],[1]), ([1],[1]), ([1,1],[1]), ([1],[1])], [([],[1]), ([1],[1]), ([1,1],[1])], [([],[1]), ([1,1,1],[1])], [([],[1])]],
    [[([-1],[-2]), ([-1,-1],[-1,-1]), ([-1],[-1,1])], [([-1,-2,-1],[-2,-2]), ([-1,-1],[-1,0,1])], [([-1],[-2])]],
    [[([2,2],[3,2,-1]), ([1,1],[1,0,-1])], [([2,2],[3,2,-1])]],
    [[([-3,-6,-3],[-4,-6,0,2])]]]),
  ([0,1,2,2], [[[([],[1]), ([1],[1]), ([1,1],[1]), ([1,1],[1])], [([],[1]), ([1],[1]), ([1],[1])], [([],[1]), ([1,1],[1])], [([],[1])]],
    [[([-1],[-2]), ([-1,-1],[-1,-1]), ([-1,-1],[-1,-1])], [([-1,-2,-1],[-2,-2]), ([-1,-2,-1],[-1,-1])], [([-1,-2,-1],[-2,-2])]],
    [[([2,2],[3,2,-1]), ([1,1],[1,0,-1])], [([2,2],[3,2,-1])]],
    [[([-3,-6,-3],[-4,-6,0,2])]]]),
  ([0,1,2,3], [[[([],[1]), ([1],[1]), ([1,1],[1]), ([1,1,1],[1])], [([],[1]), ([1],[1]), ([1,1],[1])], [([],[1]), ([1],[1])], [([],[1])]],
    [[([-1],[-2]), ([-1,-1],[-1,-1]), ([-1,-1,-1],[-1,0,-1])], [([-1,-2,-1],[-2,-2]), ([-1,-2,-2,-1],[-1,-2,-1])], [([-1,-2,-3,-2,-1],[-2,-2,-2])]],
    [[([2,2],[3,2,-1]), ([1,3,2],[1,3,1,-1])], [([2,4,4,2],[3,4,2,0,-1])]],
    [[([-3,-6,-3],[-4,-6,0,2])]]]),
  ([0,1,1,1,1], [[[([],[1]), ([1],[1]), ([1],[1]), ([1],[1]), ([1],[1])], [([],[1]), ([1,1],[1]), ([1,1],[1]), ([1,1],[1])], [([],[1]), ([1,1],[1]), ([1,1],[1])], [([],[1]), ([1,1],[1])], [([],[1])]],
    [[([-1],[-2]), ([-1],[-1,1]), ([-1],[-1,1]), ([-1],[-1,1])], [([-1],[-2]), ([-1],[-1,1]), ([-1],[-1,1])], [([-1],[-2]), ([-1],[-1,1])], [([-1],[-2])]],
    [[([2,2],[3,2,-1]), ([1,1],[1,0,-1]), ([1,1],[1,0,-1])], [([2,2],[3,2,-1]), ([1,1],[1,0,-1])], [([2,2],[3,2,-1])]],
    [[([-3,-6,-3],[-4,-6,0,2]), ([-1,-2,-1],[-1,-1,1,1])], [([-3,-6,-3],[-4,-6,0,2])]],
    [[([4,12,12,4],[5,12,6,-4,-3])]]]),
  ([0,1,1,1,2], [[[([],[1]), ([1],[1]), ([1],[1]), ([1],[1]), ([1,1],[1])], [([],[1]), ([1,1],[1]), ([1,1],[1]), ([1,1,1],[1])], [([],[1]), ([1,1],[1]), ([1,1,1],[1])], [([],[1]), ([1],[1])], [([],[1])]],
    [[([-1],[-2]), ([-1],[-1,1]), ([-1],[-1,1]), ([-1,-1],[-1,0,1])], [([-1],[-2]), ([-1],[-1,1]), ([-1,-1],[-1,0,1])], [([-1],[-2]), ([-1,-1],[-1,-1])], [([-1,-2,-1],[-2,-2])]],
    [[([2,2],[3,2,-1]), ([1,1],[1,0,-1]), ([1,2,1],[1,1,-1,-1])], [([2,2],[3,2,-1]), ([1,3,2],[1,3,1,-1])], [([2,4,4,2],[3,4,2,0,-1])]],
    [[([-3,-6,-3],[-4,-6,0,2]), ([-1,-5,-7,-3],[-1,-5,-5,1,2])], [([-3,-8,-10,-8,-3],[-4,-8,-6,-2,2,2])]],
    [[([4,12,12,4],[5,12,6,-4,-3])]]]),
  ([0,1,1,2,1], [[[([],[1]), ([1],[1]), ([1],[1]), ([1,1],[1]), ([1],[1])], [([],[1]), ([1,1],[1]), ([1,1,1],[1]), ([1,1],[1])], [([],[1]), ([1],[1]), ([1,1],[1])], [([],[1]), ([1,1,1],[1])], [([],[1])]],
    [[([-1],[-2]), ([-1],[-1,1]), ([-1,-1],[-1,0,1]), ([-1],[-1,1])], [([-1],[-2]), ([-1,-1],[-1,-1]), ([-1],[-1,1])], [([-1,-2,-1],[-2,-2]), ([-1,-1],[-1,0,1])], [([-1],[-2])]],
    [[([2,2],[3,2,-1]), ([1,3,2],[1,3,1,-1]), ([1,1],[1,0,-1])], [([2,4,4,2],[3,4,2,0,-1]), ([1,2,1],[1,1,-1,-1])], [([2,2],[3,2,-1])]],
    [[([-3,-6,-3],[-4,-6,0,2]), ([-1,-2,-1],[-1,-1,1,1])], [([-3,-6,-3],[-4,-6,0,2])]],
    [[([4,12,12,4],[5,12,6,-4,-3])]]]),
  ([0,1,1,2,2], [[[([],[1]), ([1],[1]), ([1],[1]), ([1,1],[1]), ([1,1],[1])], [([],[1]), ([1,1],[1]), ([1,1,1],[1]), ([1,1,1],[1])], [([],[1]), ([1],[1]), ([1],[1])], [([],[1]), ([1,1],[1])], [([],[1])]],
    [[([-1],[-2]), ([-1],[-1,1]), ([-1,-1],[-1,0,1]), ([-1,-1],[-1,0,1])], [([-1],[-2]), ([-1,-1],[-1,-1]), ([-1,-1],[-1,-1])], [([-1,-2,-1],[-2,-2]), ([-1,-2,-1],[-1,-1])], [([-1,-2,-1],[-2,-2])]],
    [[([2,2],[3,2,-1]), ([1,3,2],[1,3,1,-1]), ([1,3,2],[1,3,1,-1])], [([2,4,4,2],[3,4,2,0,-1]), ([1,3,4,2],[1,2,2,0,-1])], [([2,4,4,2],[3,4,2,0,-1])]],
    [[([-3,-6,-3],[-4,-6,0,2]), ([-1,-2,-1],[-1,-1,1,1])], [([-3,-6,-3],[-4,-6,0,2])]],
    [[([4,12,12,4],[5,12,6,-4,-3])]]]),
  ([0,1,1,2,3], [[[([],[1]), ([1],[1]), ([1],[1]), ([1,1],[1]), ([1,1,1],[1])], [([],[1]), ([1,1],[1]), ([1,1,1],[1]), ([1,1,1,1],[1])], [([],[1]), ([1],[1]), ([1,1],[1])], [([],[1]), ([1],[1])], [([],[1])]],
    [[([-1],[-2]), ([-1],[-1,1]), ([-1,-1],[-1,0,1]), ([-1,-1,-1],[-1,0,0,1])], [([-1],[-2]), ([-1,-1],[-1,-1]), ([-1,-1,-1],[-1,0,-1])], [([-1,-2,-1],[-2,-2]), ([-1,-2,-2,-1],[-1,-2,-1])], [([-1,-2,-3,-2,-1],[-2,-2,-2])]],
    [[([2,2],[3,2,-1]), ([1,3,2],[1,3,1,-1]), ([1,2,3,2],[1,1,2,1,-1])], [([2,4,4,2],[3,4,2,0,-1]), ([1,4,5,4,2],[1,4,3,1,0,-1])], [([2,4,6,6,4,2],[3,4,4,2,0,0,-1])]],
    [[([-3,-6,-3],[-4,-6,0,2]), ([-1,-5,-7,-3],[-1,-5,-5,1,2])], [([-3,-8,-10,-8,-3],[-4,-8,-6,-2,2,2])]],
    [[([4,12,12,4],[5,12,6,-4,-3])]]]),
  ([0,1,2,1,1], [[[([],[1]), ([1],[1]), ([1,1],[1]), ([1],[1]), ([1],[1])], [([],[1]), ([1],[1]), ([1,1],[1]), ([1,1],[1])], [([],[1]), ([1,1,1],[1]), ([1,1,1],[1])], [([],[1]), ([1,1],[1])], [([],[1])]],
    [[([-1],[-2]), ([-1,-1],[-1,-1]), ([-1],[-1,1]), ([-1],[-1,1])], [([-1,-2,-1],[-2,-2]), ([-1,-1],[-1,0,1]), ([-1,-1],[-1,0,1])], [([-1],[-2]), ([-1],[-1,1])], [([-1],[-2])]],
    [[([2,2],[3,2,-1]), ([1,1],[1,0,-1]), ([1,1],[1,0,-1])], [([2,2],[3,2,-1]), ([1,1],[1,0,-1])], [([2,2],[3,2,-1])]],
    [[([-3,-6,-3],[-4,-6,0,2]), ([-1,-2,-1],[-1,-1,1,1])], [([-3,-6,-3],[-4,-6,0,2])]],
    [[([4,12,12,4],[5,12,6,-4,-3])]]]),
  ([0,1,2,1,2], [[[([],[1]), ([1],[1]), ([1,1],[1]), ([1],[1]), ([1,1],[1])], [([],[1]), ([1],[1]), ([1,1],[1]), ([1,1,1],[1])], [([],[1]), ([1,1,1],[1]), ([1,1,1,1],[1])], [([],[1]), ([1],[1])], [([],[1])]],
    [[([-1],[-2]), ([-1,-1],[-1,-1]), ([-1],[-1,1]), ([-1,-1],[-1,0,1])], [([-1,-2,-1],[-2,-2]), ([-1,-1],[-1,0,1]), ([-1,-2,-1],[-1,-1,1,1])], [([-1],[-2]), ([-1,-1],[-1,-1])], [([-1,-2,-1],[-2,-2])]],
    [[([2,2],[3,2,-1]), ([1,1],[1,0,-1]), ([1,2,1],[1,1,-1,-1])], [([2,2],[3,2,-1]), ([1,3,2],[1,3,1,-1])], [([2,4,4,2],[3,4,2,0,-1])]],
    [[([-3,-6,-3],[-4,-6,0,2]), ([-1,-5,-7,-3],[-1,-5,-5,1,2])], [([-3,-8,-10,-8,-3],[-4,-8,-6,-2,2,2])]],
    [[([4,12,12,4],[5,12,6,-4,-3])]]]),
  ([0,1,2,2,1], [[[([],[1]), ([1],[1]), ([1,1],[1]), ([1,1],[1]), ([1],[1])], [([],[1]), ([1],[1]), ([1],[1]), ([1,1],[1])], [([],[1]), ([1,1],[1]), ([1,1,1],[1])], [([],[1]), ([1,1,1],[1])], [([],[1])]],
    [[([-1],[-2]), ([-1,-1],[-1,-1]), ([-1,-1],[-1,-1]), ([-1],[-1,1])], [([-1,-2,-1],[-2,-2]), ([-1,-2,-1],[-1,-1]), ([-1,-1],[-1,0,1])], [([-1,-2,-1],[-2,-2]), ([-1,-1],[-1,0,1])], [([-1],[-2])]],
    [[([2,2],[3,2,-1]), ([1,1],[1,0,-1]), ([1,1],[1,0,-1])], [([2,2],[3,2,-1]), ([1,1],[1,0,-1])], [([2,2],[3,2,-1])]],
    [[([-3,-6,-3],[-4,-6,0,2]), ([-1,-2,-1],[-1,-1,1,1])], [([-3,-6,-3],[-4,-6,0,2])]],
    [[([4,12,12,4],[5,12,6,-4,-3])]]]),
  ([0,1,2,2,2], [[[([],[1]), ([1],[1]), ([1,1],[1]), ([1,1],[1]), ([1,1],[1])], [([],[1]), ([1],[1]), ([1],[1]), ([1],[1])], [([],[1]), ([1,1],[1]), ([1,1],[1])], [([],[1]), ([1,1],[1])], [([],[1])]],
    [[([-1],[-2]), ([-1,-1],[-1,-1]), ([-1,-1],[-1,-1]), ([-1,-1],[-1,-1])], [([-1,-2,-1],[-2,-2]), ([-1,-2,-1],[-1,-1]), ([-1,-2,-1],[-1,-1])], [([-1,-2,-1],[-2,-2]), ([-1,-2,-1],[-1,-1])], [([-1,-2,-1],[-2,-2])]],
    [[([2,2],[3,2,-1]), ([1,1],[1,0,-1]), ([1,1],[1,0,-1])], [([2,2],[3,2,-1]), ([1,1],[1,0,-1])], [([2,2],[3,2,-1])]],
    [[([-3,-6,-3],[-4,-6,0,2]), ([-1,-2,-1],[-1,-1,1,1])], [([-3,-6,-3],[-4,-6,0,2])]],
    [[([4,12,12,4],[5,12,6,-4,-3])]]]),
  ([0,1,2,2,3], [[[([],[1]), ([1],[1]), ([1,1],[1]), ([1,1],[1]), ([1,1,1],[1])], [([],[1]), ([1],[1]), ([1],[1]), ([1,1],[1])], [([],[1]), ([1,1],[1]), ([1,1,1],[1])], [([],[1]), ([1],[1])], [([],[1])]],
    [[([-1],[-2]), ([-1,-1],[-1,-1]), ([-1,-1],[-1,-1]), ([-1,-1,-1],[-1,0,-1])], [([-1,-2,-1],[-2,-2]), ([-1,-2,-1],[-1,-1]), ([-1,-2,-2,-1],[-1,-1])], [([-1,-2,-1],[-2,-2]), ([-1,-2,-2,-1],[-1,-2,-1])], [([-1,-2,-3,-2,-1],[-2,-2,-2])]],
    [[([2,2],[3,2,-1]), ([1,1],[1,0,-1]), ([1,2,1],[1,1,-1,-1])], [([2,2],[3,2,-1]), ([1,3,2],[1,3,1,-1])], [([2,4,4,2],[3,4,2,0,-1])]],
    [[([-3,-6,-3],[-4,-6,0,2]), ([-1,-5,-7,-3],[-1,-5,-5,1,2])], [([-3,-8,-10,-8,-3],[-4,-8,-6,-2,2,2])]],
    [[([4,12,12,4],[5,12,6,-4,-3])]]]),
  ([0,1,2,3,1], [[[([],[1]), ([1],[1]), ([1,1],[1]), ([1,1,1],[1]), ([1],[1])], [([],[1]), ([1],[1]), ([1,1],[1]), ([1,1],[1])], [([],[1]), ([1],[1]), ([1,1,1],[1])], [([],[1]), ([1,1,1,1],[1])], [([],[1])]],
    [[([-1],[-2]), ([-1,-1],[-1,-1]), ([-1,-1,-1],[-1,0,-1]), ([-1],[-1,1])], [([-1,-2,-1],[-2,-2]), ([-1,-2,-2,-1],[-1,-2,-1]), ([-1,-1],[-1,0,1])], [([-1,-2,-3,-2,-1],[-2,-2,-2]), ([-1,-1,-1],[-1,0,0,1])], [([-1],[-2])]],
    [[([2,2],[3,2,-1]), ([1,3,2],[1,3,1,-1]), ([1,1],[1,0,-1])], [([2,4,4,2],[3,4,2,0,-1]), ([1,2,1],[1,1,-1,-1])], [([2,2],[3,2,-1])]],
    [[([-3,-6,-3],[-4,-6,0,2]), ([-1,-2,-1],[-1,-1,1,1])], [([-3,-6,-3],[-4,-6,0,2])]],
    [[([4,12,12,4],[5,12,6,-4,-3])]]]),
  ([0,1,2,3,2], [[[([],[1]), ([1],[1]), ([1,1],[1]), ([1,1,1],[1]), ([1,1],[1])], [([],[1]), ([1],[1]), ([1,1],[1]), ([1],[1])], [([],[1]), ([1],[1]), ([1,1],[1])], [([],[1]), ([1,1,1],[1])], [([],[1])]],
    [[([-1],[-2]), ([-1,-1],[-1,-1]), ([-1,-1,-1],[-1,0,-1]), ([-1,-1],[-1,-1])], [([-1,-2,-1],[-2,-2]), ([-1,-2,-2,-1],[-1,-2,-1]), ([-1,-2,-1],[-1,-1])], [([-1,-2,-3,-2,-1],[-2,-2,-2]), ([-1,-2,-2,-1],[-1,-1])], [([-1,-2,-1],[-2,-2])]],
    [[([2,2],[3,2,-1]), ([1,3,2],[1,3,1,-1]), ([1,1],[1,0,-1])], [([2,4,4,2],[3,4,2,0,-1]), ([1,2,1],[1,1,-1,-1])], [([2,2],[3,2,-1])]],
    [[([-3,-6,-3],[-4,-6,0,2]), ([-1,-2,-1],[-1,-1,1,1])], [([-3,-6,-3],[-4,-6,0,2])]],
    [[([4,12,12,4],[5,12,6,-4,-3])]]]),
  ([0,1,2,3,3], [[[([],[1]), ([1],[1]), ([1,1],[1]), ([1,1,1],[1]), ([1,1,1],[1])], [([],[1]), ([1],[1]), ([1,1],[1]), ([1,1],[1])], [([],[1]), ([1],[1]), ([1],[1])], [([],[1]), ([1,1],[1])], [([],[1])]],
    [[([-1],[-2]), ([-1,-1],[-1,-1]), ([-1,-1,-1],[-1,0,-1]), ([-1,-1,-1],[-1,0,-1])], [([-1,-2,-1],[-2,-2]), ([-1,-2,-2,-1],[-1,-2,-1]), ([-1,-2,-2,-1],[-1,-2,-1])], [([-1,-2,-3,-2,-1],[-2,-2,-2]), ([-1,-2,-3,-2,-1],[-1,-1,-2])], [([-1,-2,-3,-2,-1],[-2,-2,-2])]],
    [[([2,2],[3,2,-1]), ([1,3,2],[1,3,1,-1]), ([1,3,2],[1,3,1,-1])], [([2,4,4,2],[3,4,2,0,-1]), ([1,3,4,2],[1,2,2,0,-1])], [([2,4,4,2],[3,4,2,0,-1])]],
    [[([-3,-6,-3],[-4,-6,0,2]), ([-1,-2,-1],[-1,-1,1,1])], [([-3,-6,-3],[-4,-6,0,2])]],
    [[([4,12,12,4],[5,12,6,-4,-3])]]]),
  ([0,1,2,3,4], [[[([],[1]), ([1],[1]), ([1,1],[1]), ([1,1,1],[1]), ([1,1,1,1],[1])], [([],[1]), ([1],[1]), ([1,1],[1]), ([1,1,1],[1])], [([],[1]), ([1],[1]), ([1,1],[1])], [([],[1]), ([1],[1])], [([],[1])]],
    [[([-1],[-2]), ([-1,-1],[-1,-1]), ([-1,-1,-1],[-1,0,-1]), ([-1,-1,-1,-1],[-1,0,0,-1])], [([-1,-2,-1],[-2,-2]), ([-1,-2,-2,-1],[-1,-2,-1]), ([-1,-2,-2,-2,-1],[-1,-1,-1,-1])], [([-1,-2,-3,-2,-1],[-2,-2,-2]), ([-1,-2,-3,-3,-2,-1],[-1,-2,-2,-1])], [([-1,-2,-3,-4,-3,-2,-1],[-2,-2,-2,-2])]],
    [[([2,2],[3,2,-1]), ([1,3,2],[1,3,1,-1]), ([1,2,3,2],[1,1,2,1,-1])], [([2,4,4,2],[3,4,2,0,-1]), ([1,4,5,4,2],[1,4,3,1,0,-1])], [([2,4,6,6,4,2],[3,4,4,2,0,0,-1])]],
    [[([-3,-6,-3],[-4,-6,0,2]), ([-1,-5,-7,-3],[-1,-5,-5,1,2])], [([-3,-8,-10,-8,-3],[-4,-8,-6,-2,2,2])]],
    [[([4,12,12,4],[5,12,6,-4,-3])]]])]
noncomputable def PK (ds : List Nat) (k i j : Nat) : LP := ((((certT.lookup ds).getD []).getD k []).getD (min i j - k) []).getD (max i j - min i j) ([], [])
theorem PK_symm (ds : List Nat) (k i j : Nat) : PK ds k i j = PK ds k j i := by unfold PK; rw [Nat.min_comm, Nat.max_comm]
noncomputable def smallP (p : List Int) : Bool := decide (p.length ≤ 8) && p.all fun c => decide (c.natAbs < 1024)
noncomputable def befP (ds : List Nat) (k : Nat) : LP := if k = 0 then ([1], []) else PK ds (k - 1) (k - 1) (k - 1)
noncomputable def chkD (ds : List Nat) : Bool :=
  (List.range ds.length).all fun k =>
    eqChk (PK ds k k k) (dueP k) && eqChk (PK ds 0 k k) ([], [1]) &&
    ((List.range k).all fun i => eqChk (PK ds 0 i k) (List.replicate (oneOf ds i k + twoOf ds i k) 1, [1])) &&
    ((List.range ds.length).all fun i => (List.range ds.length).all fun j =>
      smallP (PK ds k i j).1 && smallP (PK ds k i j).2 &&
      (decide (i ≤ k) || decide (j < i) || idChk (PK ds k i j) (PK ds k k k) (PK ds k i k) (PK ds k k j) (befP ds k) (PK ds (k + 1) i j)))
theorem cA111 : chkA [0,1,1,1] = true := by decide +kernel
theorem cB111 : chkB [0,1,1,1] = true := by decide +kernel
theorem cC111 : chkC [0,1,1,1] = true := by decide +kernel
theorem cD111 : chkD [0,1,1,1] = true := by decide +kernel
theorem cA112 : chkA [0,1,1,2] = true := by decide +kernel
theorem cB112 : chkB [0,1,1,2] = true := by decide +kernel
theorem cC112 : chkC [0,1,1,2] = true := by decide +kernel
theorem cD112 : chkD [0,1,1,2] = true := by decide +kernel
theorem cA121 : chkA [0,1,2,1] = true := by decide +kernel
theorem cB121 : chkB [0,1,2,1] = true := by decide +kernel
theorem cC121 : chkC [0,1,2,1] = true := by decide +kernel
theorem cD121 : chkD [0,1,2,1] = true := by decide +kernel
theorem cA122 : chkA [0,1,2,2] = true := by decide +kernel
theorem cB122 : chkB [0,1,2,2] = true := by decide +kernel
theorem cC122 : chkC [0,1,2,2] = true := by decide +kernel
theorem cD122 : chkD [0,1,2,2] = true := by decide +kernel
theorem cA123 : chkA [0,1,2,3] = true := by decide +kernel
theorem cB123 : chkB [0,1,2,3] = true := by decide +kernel
theorem cC123 : chkC [0,1,2,3] = true := by decide +kernel
theorem cD123 : chkD [0,1,2,3] = true := by decide +kernel
theorem cA1111 : chkA [0,1,1,1,1] = true := by decide +kernel
theorem cB1111 : chkB [0,1,1,1,1] = true := by decide +kernel
theorem cC1111 : chkC [0,1,1,1,1] = true := by decide +kernel
theorem cD1111 : chkD [0,1,1,1,1] = true := by decide +kernel
theorem cA1112 : chkA [0,1,1,1,2] = true := by decide +kernel
theorem cB1112 : chkB [0,1,1,1,2] = true := by decide +kernel
theorem cC1112 : chkC [0,1,1,1,2] = true := by decide +kernel
theorem cD1112 : chkD [0,1,1,1,2] = true := by decide +kernel
theorem cA1121 : chkA [0,1,1,2,1] = true := by decide +kernel
theorem cB1121 : chkB [0,1,1,2,1] = true := by decide +kernel
theorem cC1121 : chkC [0,1,1,2,1] = true := by decide +kernel
theorem cD1121 : chkD [0,1,1,2,1] = true := by decide +kernel
theorem cA1122 : chkA [0,1,1,2,2] = true := by decide +kernel
theorem cB1122 : chkB [0,1,1,2,2] = true := by decide +kernel
theorem cC1122 : chkC [0,1,1,2,2] = true := by decide +kernel
theorem cD1122 : chkD [0,1,1,2,2] = true := by decide +kernel
theorem cA1123 : chkA [0,1,1,2,3] = true := by decide +kernel
theorem cB1123 : chkB [0,1,1,2,3] = true := by decide +kernel
theorem cC1123 : chkC [0,1,1,2,3] = true := by decide +kernel
theorem cD1123 : chkD [0,1,1,2,3] = true := by decide +kernel
theorem cA1211 : chkA [0,1,2,1,1] = true := by decide +kernel
theorem cB1211 : chkB [0,1,2,1,1] = true := by decide +kernel
theorem cC1211 : chkC [0,1,2,1,1] = true := by decide +kernel
theorem cD1211 : chkD [0,1,2,1,1] = true := by decide +kernel
theorem cA1212 : chkA [0,1,2,1,2] = true := by decide +kernel
theorem cB1212 : chkB [0,1,2,1,2] = true := by decide +kernel
theorem cC1212 : chkC [0,1,2,1,2] = true := by decide +kernel
theorem cD1212 : chkD [0,1,2,1,2] = true := by decide +kernel
theorem cA1221 : chkA [0,1,2,2,1] = true := by decide +kernel
theorem cB1221 : chkB [0,1,2,2,1] = true := by decide +kernel
theorem cC1221 : chkC [0,1,2,2,1] = true := by decide +kernel
theorem cD1221 : chkD [0,1,2,2,1] = true := by decide +kernel
theorem cA1222 : chkA [0,1,2,2,2] = true := by decide +kernel
theorem cB1222 : chkB [0,1,2,2,2] = true := by decide +kernel
theorem cC1222 : chkC [0,1,2,2,2] = true := by decide +kernel
theorem cD1222 : chkD [0,1,2,2,2] = true := by decide +kernel
theorem cA1223 : chkA [0,1,2,2,3] = true := by decide +kernel
theorem cB1223 : chkB [0,1,2,2,3] = true := by decide +kernel
theorem cC1223 : chkC [0,1,2,2,3] = true := by decide +kernel
theorem cD1223 : chkD [0,1,2,2,3] = true := by decide +kernel
theorem cA1231 : chkA [0,1,2,3,1] = true := by decide +kernel
theorem cB1231 : chkB [0,1,2,3,1] = true := by decide +kernel
theorem cC1231 : chkC [0,1,2,3,1] = true := by decide +kernel
theorem cD1231 : chkD [0,1,2,3,1] = true := by decide +kernel
theorem cA1232 : chkA [0,1,2,3,2] = true := by decide +kernel
theorem cB1232 : chkB [0,1,2,3,2] = true := by decide +kernel
theorem cC1232 : chkC [0,1,2,3,2] = true := by decide +kernel
theorem cD1232 : chkD [0,1,2,3,2] = true := by decide +kernel
theorem cA1233 : chkA [0,1,2,3,3] = true := by decide +kernel
theorem cB1233 : chkB [0,1,2,3,3] = true := by decide +kernel
theorem cC1233 : chkC [0,1,2,3,3] = true := by decide +kernel
theorem cD1233 : chkD [0,1,2,3,3] = true := by decide +kernel
theorem cA1234 : chkA [0,1,2,3,4] = true := by decide +kernel
theorem cB1234 : chkB [0,1,2,3,4] = true := by decide +kernel
theorem cC1234 : chkC [0,1,2,3,4] = true := by decide +kernel
theorem cD1234 : chkD [0,1,2,3,4] = true := by decide +kernel
noncomputable def Good (ds : List Nat) : Prop := chkA ds = true ∧ chkB ds = true ∧ chkC ds = true ∧ chkD ds = true
theorem gen3 : gen 0 3 = [[1,1,1], [1,1,2], [1,2,1], [1,2,2], [1,2,3]] := by decide +kernel
theorem good3 : ∀ t ∈ gen 0 3, Good (0 :: t) := by
  rw [gen3]
  intro t ht
  simp only [List.mem_cons, List.not_mem_nil, or_false] at ht
  rcases ht with rfl | rfl | rfl | rfl | rfl
  · exact ⟨cA111, cB111, cC111, cD111⟩
  · exact ⟨cA112, cB112, cC112, cD112⟩
  · exact ⟨cA121, cB121, cC121, cD121⟩
  · exact ⟨cA122, cB122, cC122, cD122⟩
  · exact ⟨cA123, cB123, cC123, cD123⟩
theorem gen4 : gen 0 4 = [[1,1,1,1], [1,1,1,2], [1,1,2,1], [1,1,2,2], [1,1,2,3], [1,2,1,1], [1,2,1,2], [1,2,2,1], [1,2,2,2], [1,2,2,3], [1,2,3,1], [1,2,3,2], [1,2,3,3], [1,2,3,4]] := by decide +kernel
theorem good4 : ∀ t ∈ gen 0 4, Good (0 :: t) := by
  rw [gen4]
  intro t ht
  simp only [List.mem_cons, List.not_mem_nil, or_false] at ht
  rcases ht with rfl | rfl | rfl | rfl | rfl | rfl | rfl | rfl | rfl | rfl | rfl | rfl | rfl | rfl
  · exact ⟨cA1111, cB1111, cC1111, cD1111⟩
  · exact ⟨cA1112, cB1112, cC1112, cD1112⟩
  · exact ⟨cA1121, cB1121, cC1121, cD1121⟩
  · exact ⟨cA1122, cB1122, cC1122, cD1122⟩
  · exact ⟨cA1123, cB1123, cC1123, cD1123⟩
  · exact ⟨cA1211, cB1211, cC1211, cD1211⟩
  · exact ⟨cA1212, cB1212, cC1212, cD1212⟩
  · exact ⟨cA1221, cB1221, cC1221, cD1221⟩
  · exact ⟨cA1222, cB1222, cC1222, cD1222⟩
  · exact ⟨cA1223, cB1223, cC1223, cD1223⟩
  · exact ⟨cA1231, cB1231, cC1231, cD1231⟩
  · exact ⟨cA1232, cB1232, cC1232, cD1232⟩
  · exact ⟨cA1233, cB1233, cC1233, cD1233⟩
  · exact ⟨cA1234, cB1234, cC1234, cD1234⟩
end Mine
end
section
namespace Mine

structure GoodA (ds : List Nat) : Prop where
  pl : (lawPlaces ds).length = ds.length
  cl : (lawCloses ds).length = ds.length
  en : ∀ p ∈ lawPlaces ds, EndsOk p (lawRow ds).length (endsL p (lawRow ds).length) ∧ ∀ e ∈ endsL p (lawRow ds).length, p ≤ e ∧ e < (lawRow ds).length
  mt : (lawPlaces ds).map (fun p => mateGo (sgn ds) p (endsL p (lawRow ds).length)) = (lawCloses ds).map (fun (e : Nat) => (e : Int))
  b1 : balGo 0 (sgn ds).dropLast = false
  b2 : balGo 0 ((sgn ds).drop 1 ++ (sgn ds).take 1) = false
  l1 : (lawRow ds).length ≤ 20
  l2 : 2 ≤ (lawRow ds).length
theorem goodA {ds : List Nat} (h : chkA ds = true) : GoodA ds := by
  unfold chkA at h
  simp only [Bool.and_eq_true, beq_iff_eq, List.all_eq_true, Bool.not_eq_true', decide_eq_true_eq] at h
  exact ⟨h.1.1.1.1.1.1.1, h.1.1.1.1.1.1.2, fun p hp => endsChk_ok (h.1.1.1.1.1.2 p hp), h.1.1.1.1.2, h.1.1.1.2, h.1.1.2, h.1.2, h.2⟩

theorem rowOk (cells : List Int) {ds : List Nat} (h : (lawRow ds).length ≤ 20) : RowOk ((lawRow ds).map (rstr cells)) :=
  ⟨fun c hc => by obtain ⟨t, _, rfl⟩ := List.mem_map.mp hc; exact rstr_lt cells t, by simp; grind⟩
theorem rowSg (cells : List Int) (ds : List Nat) : ((lawRow ds).map (rstr cells)).map (·.1) = sgn ds := by
  rw [List.map_map]; rfl

theorem ends_ok {cells : List Int} {ds : List Nat} (A : GoodA ds) {ρ : Rho} (h5 : ρ 5 = some (.fz (.list (rowV ((lawRow ds).map (rstr cells)))))) (h6 : ρ 6 = some (.fz (.list (natI (lawPlaces ds))))) (hn : ds.length ≤ 100) :
    exF (compE 35 (listIt (getFz 6)) (compG (nameU 35) yesF (emF (callF F113 [(getAny 5), (getAny 35)])))) ρ = some (.list (natI (lawCloses ds))) := by
  have hi : listIt (getFz 6) ρ = some (natI (lawPlaces ds)) := by simp only [listIt, getFz, h6, Option.bind_some, toL]
  have hc := compE_one (m := 35) (i := 35) (f := callF F113 [(getAny 5), (getAny 35)]) (g := fun x => match x with | .int p => .int (mateGo (sgn ds) p.toNat (endsL p.toNat (lawRow ds).length)) | _ => .none) hi (by simp [A.pl]; omega) (fun x hx ρ' hj hx' => by
    obtain ⟨p, hp, rfl⟩ := List.mem_map.mp hx
    have q5 : ρ' 5 = some (.fz (.list (rowV ((lawRow ds).map (rstr cells))))) := by rw [hj 5 (by decide)]; exact h5
    obtain ⟨e1, e2⟩ := A.en p hp
    have := F113_ok (rowOk cells A.l1) (p := p) (es := endsL p (lawRow ds).length) (by rw [List.length_map]; exact e1) (by rw [List.length_map]; exact e2)
    rw [rowSg] at this
    simp only [callF, argsF, getAny, q5, hx', Option.bind_some, Option.map_some, Int.toNat_natCast]
    exact this)
  refine exF_ok ?_
  rw [hc]
  congr 1
  have e : (natI (lawPlaces ds)).map (fun x => match x with | .int p => PV.int (mateGo (sgn ds) p.toNat (endsL p.toNat (lawRow ds).length)) | _ => .none) = ((lawPlaces ds).map (fun p => mateGo (sgn ds) p (endsL p (lawRow ds).length))).map PV.int := by
    unfold natI; rw [List.map_map, List.map_map]; rfl
  rw [e, A.mt, List.map_map]
  rfl

/-! lists told apart -/
theorem neD_same {f g : Rho → Option PV} {ρ : Rho} {x : PV} (hf : f ρ = some x) (hg : g ρ = some x) (hs : SeqAt.shaped (toPy x) = true) : neDF f g ρ = some false := by
  unfold neDF
  rw [hf, Option.bind_some, hg, Option.bind_some, if_pos ⟨hs, hs⟩, SeqAt.eqv_refl _ (SeqAt.canLay_of_shaped hs)]
  rfl
/-- scalars, or tuples of scalars, of plain signs -/
noncomputable def plainS : PV → Bool
  | .none => true
  | .bool _ => true
  | .int _ => true
  | .str x => PyData.strOk x
  | _ => false
noncomputable def plainT : PV → Bool
  | .tuple xs => xs.all plainS
  | x => plainS x
theorem plainS_ok {x : PV} (h : plainS x = true) : (toPy x).canLay0 = true ∧ (toPy x).depth = 0 := by
  cases x <;> simp only [plainS] at h <;> first | (cases h; done) | simp [toPy, PyData.canLay0, PyData.depth, h]
theorem plainS_ok' {x : PV} (h : plainS x = true) : (toPy x).canLay0 = true ∧ (toPy x).depth ≤ 1 := ⟨(plainS_ok h).1, by rw [(plainS_ok h).2]; decide⟩
theorem plainSL : ∀ {xs : List PV}, xs.all plainS = true → PyData.canLayAll0 (toPyL xs) = true ∧ PyData.depthAll (toPyL xs) = 0
  | [], _ => ⟨rfl, rfl⟩
  | x :: xs, h => by
    rw [List.all_cons, Bool.and_eq_true] at h
    have h1 := plainS_ok h.1
    have h2 := plainSL h.2
    simp [toPyL, PyData.canLayAll0, PyData.depthAll, h1, h2]
theorem plainT_ok {x : PV} (h : plainT x = true) : (toPy x).canLay0 = true ∧ (toPy x).depth ≤ 1 := by
  cases x with
  | tuple xs =>
    have := plainSL (xs := xs) h
    simp [toPy, PyData.canLay0, PyData.depth, this]
  | none => exact plainS_ok' (x := .none) h
  | bool b => exact plainS_ok' (x := .bool b) h
  | int b => exact plainS_ok' (x := .int b) h
  | str b => exact plainS_ok' (x := .str b) h
  | list b => exact plainS_ok' (x := .list b) h
theorem plainTL : ∀ {xs : List PV}, xs.all plainT = true → PyData.canLayAll0 (toPyL xs) = true ∧ PyData.depthAll (toPyL xs) ≤ 1
  | [], _ => ⟨rfl, by simp [toPyL, PyData.depthAll]⟩
  | x :: xs, h => by
    rw [List.all_cons, Bool.and_eq_true] at h
    have h1 := plainT_ok h.1
    have h2 := plainTL h.2
    simp only [toPyL, PyData.canLayAll0, PyData.depthAll, h1, h2, Bool.and_self, true_and]
    grind
theorem shaped_list {xs : List PV} (h : xs.all plainT = true) : SeqAt.shaped (toPy (.list xs)) = true := by
  have := plainTL h
  unfold SeqAt.shaped
  simp only [toPy, PyData.canLay0, PyData.depth, this.1, Bool.true_and, decide_eq_true_eq]
  omega
theorem shaped_tup {xs : List PV} (h : xs.all plainS = true) : SeqAt.shaped (toPy (.tuple xs)) = true := by
  have := plainSL h
  unfold SeqAt.shaped
  simp only [toPy, PyData.canLay0, PyData.depth, this.1, this.2, Bool.true_and, decide_eq_true_eq]
  exact Nat.le_of_ble_eq_true rfl
theorem natI_plain (ns : List Nat) : (natI ns).all plainT = true := by
  rw [List.all_map, List.all_eq_true]; intro l _; rfl
theorem intsP_plain (ns : List Int) : (intsP ns).all plainT = true := by
  rw [List.all_map, List.all_eq_true]; intro l _; rfl

theorem or_nil {ρ : Rho} : orL [] ρ = some false := rfl
theorem or_no {f : Rho → Option Bool} {fs : List (Rho → Option Bool)} {ρ : Rho} {b : Bool} (h : f ρ = some false) (h2 : orL fs ρ = some b) : orL (f :: fs) ρ = some b := by
  unfold orL; rw [h, Option.bind_some]; exact h2

theorem cmpB_isnot {f : Rho → Option PV} {ρ : Rho} {b : Bool} (h : f ρ = some (.bool b)) : cmpF .IsNot f (boolF false) ρ = some b := by
  unfold cmpF
  rw [h]
  simp only [boolF, Option.bind_some, cmpV, cmpII, cmpSS, cmpBB, cmpNN]
  cases b <;> rfl

theorem row_pre {cs : List Cell} (h : cs.length ≤ 100) (hn : 1 ≤ cs.length) {f : Rho → Option PV} {ρ : Rho} (hf : f ρ = some (.list (rowV cs))) : sliceLF f none (some (unF .USub (intF 1))) ρ = some (rowV cs.dropLast) := by
  have hu : unF .USub (intF 1) ρ = some (.int (-1)) := rfl
  unfold sliceLF
  rw [hf]
  simp only [Option.bind_some, partF, hu]
  rw [if_pos ⟨by simp; omega, strsV_sc _⟩]
  congr 1
  unfold pick kms_lo kms_hi
  simp only [List.drop_zero]
  rw [if_pos (by decide)]
  simp only [rowV, strsV, List.map_map, List.length_map, List.dropLast_eq_take, List.map_take]
  rfl
theorem row_from1 {cs : List Cell} (h : cs.length ≤ 100) (hn : 1 ≤ cs.length) {f : Rho → Option PV} {ρ : Rho} (hf : f ρ = some (.list (rowV cs))) : sliceLF f (some (intF 1)) none ρ = some (rowV (cs.drop 1)) := by
  unfold sliceLF
  rw [hf]
  simp only [Option.bind_some, partF, intF]
  rw [if_pos ⟨by simp; omega, strsV_sc _⟩]
  congr 1
  unfold pick kms_lo kms_hi
  simp only
  rw [if_neg (by decide), List.take_of_length_le (by simp), show min (Int.toNat 1) (rowV cs).length = 1 by simp; exact Nat.min_eq_left hn]
  simp only [rowV, strsV, List.map_drop]
theorem row_to1 {cs : List Cell} (h : cs.length ≤ 100) (hn : 1 ≤ cs.length) {f : Rho → Option PV} {ρ : Rho} (hf : f ρ = some (.list (rowV cs))) : sliceLF f none (some (intF 1)) ρ = some (rowV (cs.take 1)) := by
  unfold sliceLF
  rw [hf]
  simp only [Option.bind_some, partF, intF]
  rw [if_pos ⟨by simp; omega, strsV_sc _⟩]
  congr 1
  unfold pick kms_lo kms_hi
  simp only [List.drop_zero, Nat.sub_zero]
  rw [if_neg (by decide), show min (Int.toNat 1) (rowV cs).length = 1 by simp; exact Nat.min_eq_left hn]
  simp only [rowV, strsV, List.map_take]
theorem check_list {cs : List Cell} (h : RowOk cs) {f : Rho → Option PV} {ρ : Rho} (hf : f ρ = some (.list (rowV cs))) : callF F91 [callF joinV [strF "", f]] ρ = some (.bool (balGo 0 (cs.map (·.1)))) := by
  have := check_row h
  rw [← this]
  simp only [callF, argsF, hf, Option.bind_some, strF]

theorem test9 {cells : List Int} {ds : List Nat} (A : GoodA ds) {ρ : Rho} (h5 : ρ 5 = some (.fz (.list (rowV ((lawRow ds).map (rstr cells)))))) (h7 : ρ 7 = some (.fz (.list (natI (lawCloses ds))))) (h8 : ρ 8 = some (.fz (.list (natI (lawCloses ds))))) :
    orL [(neDF (getAny 8) (getAny 7)), (cmpF .IsNot (callF F91 [(callF joinV [(strF ""), (exF (sliceLF (getAny 5) none (some (unF .USub (intF 1)))))])]) (boolF false))] ρ = some false := by
  have hr := rowOk cells A.l1
  have hs := row_pre (cs := (lawRow ds).map (rstr cells)) (f := getAny 5) (ρ := ρ) hr.len (by rw [List.length_map]; have := A.l2; exact Nat.one_le_of_lt this) ((getAny_fz h5))
  have hd : RowOk ((lawRow ds).map (rstr cells)).dropLast := hr.sub (fun c hc => List.dropLast_subset _ hc) (by have := hr.len; simp at this ⊢; exact Nat.le_succ_of_le this)
  have hc := check_list hd (exF_ok hs)
  have e : (((lawRow ds).map (rstr cells)).dropLast).map (·.1) = (sgn ds).dropLast := by rw [← rowSg cells ds]; simp only [List.map_dropLast]
  rw [e, A.b1] at hc
  exact or_no (neD_same (x := .list (natI (lawCloses ds))) ((getAny_fz h8)) ((getAny_fz h7)) (shaped_list (natI_plain _))) (or_no (cmpB_isnot hc) or_nil)
theorem test10 {cells : List Int} {ds : List Nat} (A : GoodA ds) {ρ : Rho} (h5 : ρ 5 = some (.fz (.list (rowV ((lawRow ds).map (rstr cells)))))) :
    cmpF .IsNot (callF F91 [(callF joinV [(strF ""), (exF (addLF (exF (sliceLF (getAny 5) (some (intF 1)) none)) (exF (sliceLF (getAny 5) none (some (intF 1))))))])]) (boolF false) ρ = some false := by
  have hr := rowOk cells A.l1
  have hn : 1 ≤ ((lawRow ds).map (rstr cells)).length := by rw [List.length_map]; have := A.l2; exact Nat.one_le_of_lt this
  have g5 : getAny 5 ρ = some (.list (rowV ((lawRow ds).map (rstr cells)))) := (getAny_fz h5)
  have s1 := exF_ok (row_from1 hr.len hn g5)
  have s2 := exF_ok (row_to1 hr.len hn g5)
  have hd : RowOk (((lawRow ds).map (rstr cells)).drop 1 ++ ((lawRow ds).map (rstr cells)).take 1) := hr.sub (fun c hc => by
    rcases List.mem_append.mp hc with h | h
    · exact List.mem_of_mem_drop h
    · exact List.mem_of_mem_take h) (by have := hr.len; simp at this ⊢; omega)
  have hadd : addLF (exF (sliceLF (getAny 5) (some (intF 1)) none)) (exF (sliceLF (getAny 5) none (some (intF 1)))) ρ = some (rowV (((lawRow ds).map (rstr cells)).drop 1 ++ ((lawRow ds).map (rstr cells)).take 1)) := by
    unfold addLF
    rw [s1, Option.bind_some, s2, Option.bind_some]
    unfold addLV
    simp only
    rw [if_pos (by have := hr.len; simp at this ⊢; omega)]
    simp
  have hc := check_list hd (exF_ok hadd)
  have e : (((lawRow ds).map (rstr cells)).drop 1 ++ ((lawRow ds).map (rstr cells)).take 1).map (·.1) = (sgn ds).drop 1 ++ (sgn ds).take 1 := by rw [← rowSg cells ds]; simp only [List.map_append, List.map_drop, List.map_take]
  rw [e, A.b2] at hc
  exact cmpB_isnot hc
end Mine
end
section
namespace Mine

theorem call1 {F : List PV → Option PV} {f : Rho → Option PV} {ρ : Rho} {x y : PV} (hf : f ρ = some x) (hF : F [x] = some y) : callF F [f] ρ = some y := by
  unfold callF argsF argsF; rw [hf]; exact hF
theorem call2 {F : List PV → Option PV} {f g : Rho → Option PV} {ρ : Rho} {x y z : PV} (hf : f ρ = some x) (hg : g ρ = some y) (hF : F [x, y] = some z) : callF F [f, g] ρ = some z := by
  unfold callF argsF argsF argsF; rw [hf, hg]; exact hF
theorem call3 {F : List PV → Option PV} {f g h : Rho → Option PV} {ρ : Rho} {x y z w : PV} (hf : f ρ = some x) (hg : g ρ = some y) (hh : h ρ = some z) (hF : F [x, y, z] = some w) : callF F [f, g, h] ρ = some w := by
  unfold callF argsF argsF argsF argsF; rw [hf, hg, hh]; exact hF
theorem tupF2 {f g : Rho → Option PV} {ρ : Rho} {x y : PV} (hf : f ρ = some x) (hg : g ρ = some y) (hx : x.sc = true) (hy : y.sc = true) : tupF [f, g] ρ = some (.tuple [x, y]) := by
  unfold tupF argsF argsF argsF; rw [hf, hg]
  simp [hx, hy]
theorem esc_app : ∀ (cs : List Cell) (i : Nat) (l : List Nat), (∀ c ∈ cs, c.2 < 6) → escGo false i (joinC cs ++ l) = escGo false i (joinC cs) ++ escGo false (i + (joinC cs).length) l
  | [], i, l, _ => rfl
  | c :: cs, i, l, h => by
    have hc := h c (.head _)
    rw [joinC_cons, List.append_assoc, esc_cell hc, esc_cell hc, esc_app cs _ l fun d hd => h d (.tail _ hd), List.append_assoc, List.length_append, Nat.add_assoc]
theorem cell_small {c : Cell} : ∀ x ∈ cellL c, x < 128 := by
  obtain ⟨b, d⟩ := c
  intro x hx
  unfold cellL at hx
  rcases List.mem_cons.mp hx with rfl | hx
  · show parL b < 128
    cases b <;> decide
  · unfold dressL at hx
    split at hx <;> simp at hx <;> omega
theorem units_small {cs : List Cell} {u : List Nat} (h : u ∈ unitsR cs) : ∀ x ∈ u, x < 128 := fun x hx => by
  obtain ⟨c, _, hu⟩ := List.mem_flatMap.mp h
  have hm := (List.mem_filter.mp hu).1
  simp only [List.mem_cons, List.not_mem_nil, or_false] at hm
  rcases hm with rfl | rfl
  · exact cell_small x (List.mem_of_mem_take hx)
  · exact cell_small x (List.mem_of_mem_drop hx)
theorem strOk_of {l : List Nat} (h : ∀ x ∈ l, x < 128) : PyData.strOk (mkS l) = true := by
  unfold PyData.strOk
  simp only [mkS, List.all_toArray, List.all_eq_true, decide_eq_true_eq]
  intro x hx
  have := h x hx; omega
theorem pl_plain : ∀ (us : List (List Nat)) (i : Nat), (∀ u ∈ us, ∀ x ∈ u, x < 128) → (pl i us).all plainT = true
  | [], i, _ => rfl
  | u :: us, i, h => by
    rw [pl, List.all_cons, pl_plain us _ fun v hv => h v (.tail _ hv), Bool.and_true]
    simp [piece, plainT, plainS, strOk_of (h u (.head _))]

theorem unitsR_eq {cs : List Cell} (h : ∀ c ∈ cs, c.2 < 6) : joinC (cs.map strip) = (unitsR cs).flatten := (esc_units cs 0 h).2

/-- the bare text -/
theorem bare_ok {cs : List Cell} (h : RowOk cs) {ρ : Rho} (h9 : ρ 9 = some (.fz (.list (pl 0 (unitsR cs))))) :
    callF joinV [(strF ""), (exF (compE 35 (listIt (getFz 9)) (compG (tupU [35, 36]) yesF (emF (getFz 36)))))] ρ = some (.str (mkS (joinC (cs.map strip)))) := by
  have hi : listIt (getFz 9) ρ = some (pl 0 (unitsR cs)) := by simp only [listIt, getFz, h9, Option.bind_some, toL]
  let hS : PV → List PV := fun x => match x with | .tuple [_, y] => [y] | _ => []
  have hpl : ∀ (us : List (List Nat)) (i : Nat), (pl i us).flatMap hS = strsV us := fun us => by
    induction us with
    | nil => intro i; rfl
    | cons u us ih => intro i; rw [pl, List.flatMap_cons, ih]; rfl
  have hmem : ∀ (us : List (List Nat)) (i : Nat), ∀ x ∈ pl i us, ∃ a u, x = .tuple [.int a, .str (mkS u)] := fun us => by
    induction us with
    | nil => intro i x hx; cases hx
    | cons u us ih =>
      intro i x hx
      rw [pl] at hx
      rcases List.mem_cons.mp hx with rfl | hx
      · exact ⟨_, _, rfl⟩
      · exact ih _ x hx
  have hN : ((pl 0 (unitsR cs)).filter fun _ => true).flatMap hS = strsV (unitsR cs) := by rw [filter_yes, hpl]
  have hlen := unitsR_len cs
  have hl2 := h.len
  have hc : compE 35 (listIt (getFz 9)) (compG (tupU [35, 36]) yesF (emF (getFz 36))) ρ = some (strsV (unitsR cs)) := by
    unfold compE
    rw [hi, Option.bind_some]
    obtain ⟨ρ1, e, _⟩ := compGF (I := fun _ => True) (u := tupU [35, 36]) (t := yesF) (F := emF (getFz 36)) (p := fun _ => true) (h := hS) (N := 1000) (pl 0 (unitsR cs)) (cutR 35 ρ) [] (fun x hx ρ' ys' _ hl => by
      obtain ⟨a, u, rfl⟩ := hmem _ _ x hx
      refine ⟨upd (upd ρ' 35 (.fz (.int a))) 36 (.fz (.str (mkS u))), rfl, rfl, fun _ => ⟨upd (upd ρ' 35 (.fz (.int a))) 36 (.fz (.str (mkS u))), ?_, trivial⟩, fun h => by cases h⟩
      unfold emF
      simp only [getFz, upd_self, Option.bind_some]
      rw [if_pos (by omega)]) trivial (by rw [hN]; simp; grind)
    have e' : (compG (tupU [35, 36]) yesF (emF (getFz 36))) (pl 0 (unitsR cs)) (cutR 35 ρ, []) = _ := e
    rw [e', hN]; simp
  have hfl : (unitsR cs).flatten.length ≤ 1000 := by
    rw [← unitsR_eq h.lt]
    have := joinC_strip_len cs
    have := joinC_len cs
    grind
  have hx := exF_ok hc
  simp only [callF, argsF, hx, strF, Option.bind_some, Option.map_some]
  rw [empty_lit, unitsR_eq h.lt]
  exact joinV_ok (by omega)

noncomputable abbrev body13 : Rho → Option Out := (seqF (assignF 12 (callF F84 [(binF .Add (callF joinV [(strF ""), (getAny 5)]) (getAny 11))]))
  (seqF (assignF 13 (exF (addLF (getFz 9) (exF (compE 35 (strIt (getAny 11)) (compG (nameU 35) yesF (emF (tupF [(callF lenV [(getAny 10)]), (getAny 35)]))))))))
  (ifF (orL [(cmpF .NotEq (getAny 12) (binF .Add (getAny 10) (getAny 11))), (neDF (exF (compE 35 (genIt (getAny 12)) (compG (nameU 35) yesF (emF (getFz 35))))) (getAny 13))]) (retF (boolF false)) passF)))
theorem binS {f g : Rho → Option PV} {ρ : Rho} {a b : List Nat} (hf : f ρ = some (.str (mkS a))) (hg : g ρ = some (.str (mkS b))) (hl : a.length + b.length ≤ 1000000) : binF .Add f g ρ = some (.str (mkS (a ++ b))) := by
  unfold binF; rw [hf, Option.bind_some, hg, Option.bind_some]
  unfold binV
  simp only
  rw [if_pos (by rw [mkS_len, mkS_len]; exact hl), mkS_app]
theorem turn13 {cs : List Cell} (h : RowOk cs) {l : List Nat} (hl : l = [] ∨ l = [92]) {ρ : Rho} (h5 : ρ 5 = some (.fz (.list (rowV cs)))) (h9 : ρ 9 = some (.fz (.list (pl 0 (unitsR cs))))) (h10 : ρ 10 = some (.fz (.str (mkS (joinC (cs.map strip)))))) (h11 : ρ 11 = some (.fz (.str (mkS l)))) :
    ∃ a b, body13 ρ = some (.next (upd (upd ρ 12 a) 13 b)) := by
  have hll : l.length ≤ 1 := by rcases hl with rfl | rfl <;> simp
  have hl2 := h.len
  have hj := joinC_len cs
  have hjs := joinC_strip_len cs
  have g5 : getAny 5 ρ = some (.list (rowV cs)) := (getAny_fz h5)
  have s1 : callF joinV [(strF ""), (getAny 5)] ρ = some (.str (mkS (joinC cs))) := by
    simp only [callF, argsF, g5, strF, Option.bind_some, Option.map_some]
    rw [empty_lit]
    exact join_row cs h.len
  have s2 := binS s1 (g := getAny 11) (b := l) ((getAny_fz h11)) (by grind)
  have s3 : callF F84 [(binF .Add (callF joinV [(strF ""), (getAny 5)]) (getAny 11))] ρ = some (.str (mkS (joinC (cs.map strip) ++ l))) := by
    have := F84_ok (cs := cs) (tail := l) hl h.lt (by rw [List.length_append]; omega) (by omega)
    exact call1 s2 this
  let ρ1 := upd ρ 12 (.fz (.str (mkS (joinC (cs.map strip) ++ l))))
  have k9 : ρ1 9 = some (.fz (.list (pl 0 (unitsR cs)))) := h9
  have k10 : ρ1 10 = some (.fz (.str (mkS (joinC (cs.map strip))))) := h10
  have k11 : ρ1 11 = some (.fz (.str (mkS l))) := h11
  have k12 : ρ1 12 = some (.fz (.str (mkS (joinC (cs.map strip) ++ l)))) := rfl
  -- the pairs behind
  have hsi : strIt (getAny 11) ρ1 = some (signsOf (mkS l)) := by simp only [strIt, getAny, k11, Option.bind_some, toSigns]
  have hcc := compE_one (m := 35) (i := 35) (f := tupF [(callF lenV [(getAny 10)]), (getAny 35)]) (g := fun x => .tuple [.int ((joinC (cs.map strip)).length : Int), x]) hsi (by simp [signsOf]; omega) (fun x hx ρ' hj' hx' => by
    have hsc : x.sc = true := by
      unfold signsOf at hx
      obtain ⟨c, _, rfl⟩ := List.mem_map.mp hx; rfl
    have q10 : ρ' 10 = some (.fz (.str (mkS (joinC (cs.map strip))))) := by rw [hj' 10 (by decide)]; exact k10
    have hln : callF lenV [(getAny 10)] ρ' = some (.int ((joinC (cs.map strip)).length : Int)) := by
      simp only [callF, argsF, getAny, q10, Option.bind_some, Option.map_some, lenV]
      rw [if_pos (by rw [mkS_len]; grind), mkS_len]
    exact tupF2 hln ((getAny_fz hx')) rfl hsc)
  have hsg : (signsOf (mkS l)).map (fun x => PV.tuple [.int ((joinC (cs.map strip)).length : Int), x]) = escGo false (joinC (cs.map strip)).length l := by
    rcases hl with rfl | rfl
    · rfl
    · rw [esc_tail]; rfl
  rw [hsg] at hcc
  have hesc : escGo false 0 (joinC (cs.map strip) ++ l) = pl 0 (unitsR cs) ++ escGo false (joinC (cs.map strip)).length l := by
    rw [esc_app _ _ _ (fun c hc => by obtain ⟨d, hd, rfl⟩ := List.mem_map.mp hc; exact (strip_lt (h.lt d hd)).1), (esc_units cs 0 h.lt).1, Nat.zero_add]
  have hulen := unitsR_len cs
  have hpll : ∀ (us : List (List Nat)) (i : Nat), (pl i us).length = us.length := fun us => by
    induction us with
    | nil => intro i; rfl
    | cons u us ih => intro i; rw [pl, List.length_cons, ih]; rfl
  have hel : (escGo false (joinC (cs.map strip)).length l).length ≤ 1 := by
    rcases hl with rfl | rfl
    · simp [escGo]
    · rw [esc_tail]; simp
  have s4 : addLF (getFz 9) (exF (compE 35 (strIt (getAny 11)) (compG (nameU 35) yesF (emF (tupF [(callF lenV [(getAny 10)]), (getAny 35)]))))) ρ1 = some (escGo false 0 (joinC (cs.map strip) ++ l)) := by
    unfold addLF
    rw [exF_ok hcc, hesc]
    simp only [getFz, k9, Option.bind_some, addLV]
    rw [if_pos (by rw [hpll]; grind)]
  let ρ2 := upd ρ1 13 (.fz (.list (escGo false 0 (joinC (cs.map strip) ++ l))))
  have m10 : ρ2 10 = some (.fz (.str (mkS (joinC (cs.map strip))))) := k10
  have m11 : ρ2 11 = some (.fz (.str (mkS l))) := k11
  have m12 : ρ2 12 = some (.fz (.str (mkS (joinC (cs.map strip) ++ l)))) := k12
  have m13 : ρ2 13 = some (.fz (.list (escGo false 0 (joinC (cs.map strip) ++ l)))) := rfl
  have t1 : cmpF .NotEq (getAny 12) (binF .Add (getAny 10) (getAny 11)) ρ2 = some false := by
    have := binS (f := getAny 10) (g := getAny 11) (ρ := ρ2) (a := joinC (cs.map strip)) (b := l) ((getAny_fz m10)) ((getAny_fz m11)) (by grind)
    unfold cmpF
    rw [this]
    simp only [getAny, m12, Option.bind_some, cmpV, cmpII, cmpSS, cmpBB, cmpNN]
    congr 1
    simp
  have hgi : genIt (getAny 12) ρ2 = some (escGo false 0 (joinC (cs.map strip) ++ l)) := by
    simp only [genIt, getAny, m12, Option.bind_some, toEsc]
    rfl
  have hcg := compE_one (m := 35) (i := 35) (f := getFz 35) (g := fun x => x) hgi (by rw [hesc, List.length_append, hpll]; omega) (fun x hx ρ' hj' hx' => (getFz_fz hx'))
  rw [List.map_id'] at hcg
  have hpl : (escGo false 0 (joinC (cs.map strip) ++ l)).all plainT = true := by
    rw [hesc, List.all_append, pl_plain _ _ (fun u hu => units_small hu), Bool.true_and]
    rcases hl with rfl | rfl
    · simp [escGo]
    · rw [esc_tail]; simp [piece, plainT, plainS, strOk_of (l := [92]) (by simp)]
  have t2 := neD_same (f := exF (compE 35 (genIt (getAny 12)) (compG (nameU 35) yesF (emF (getFz 35))))) (g := getAny 13) (ρ := ρ2) (x := .list (escGo false 0 (joinC (cs.map strip) ++ l))) (exF_ok hcg) ((getAny_fz m13)) (shaped_list hpl)
  refine ⟨.fz (.str (mkS (joinC (cs.map strip) ++ l))), .fz (.list (escGo false 0 (joinC (cs.map strip) ++ l))), ?_⟩
  unfold body13
  rw [seq_next (assign_ok s3), seq_next (assign_ok (exF_ok s4)), if_no (or_no t1 (or_no t2 or_nil))]
  rfl
theorem loop13 {cs : List Cell} (h : RowOk cs) {ρ : Rho} (h5 : ρ 5 = some (.fz (.list (rowV cs)))) (h9 : ρ 9 = some (.fz (.list (pl 0 (unitsR cs))))) (h10 : ρ 10 = some (.fz (.str (mkS (joinC (cs.map strip)))))) :
    ∃ ρ', forE (listIt (exF (listF [(strF ""), (strF "\\")]))) (nameU 11) body13 ρ = some (.next ρ') ∧ ∀ j, j ≠ 11 → j ≠ 12 → j ≠ 13 → ρ' j = ρ j := by
  have bl : ("\\" : Str) = mkS [92] := by decide +kernel
  have hi : listIt (exF (listF [(strF ""), (strF "\\")])) ρ = some [.str (mkS []), .str (mkS [92])] := by rw [empty_lit, bl]; rfl
  obtain ⟨a, b, e1⟩ := turn13 h (l := []) (.inl rfl) (ρ := upd ρ 11 (.fz (.str (mkS [])))) (h5) (h9) (h10) (upd_self _ _ _)
  let ρ1 := upd (upd (upd ρ 11 (.fz (.str (mkS [])))) 12 a) 13 b
  obtain ⟨a2, b2, e2⟩ := turn13 h (l := [92]) (.inr rfl) (ρ := upd ρ1 11 (.fz (.str (mkS [92])))) (h5) (h9) (h10) (upd_self _ _ _)
  refine ⟨upd (upd (upd ρ1 11 (.fz (.str (mkS [92])))) 12 a2) 13 b2, ?_, fun j h1 h2 h3 => ?_⟩
  · unfold forE
    rw [hi, Option.bind_some, for_cons (ρ1 := upd ρ 11 (.fz (.str (mkS [])))) rfl e1, for_cons (ρ1 := upd ρ1 11 (.fz (.str (mkS [92])))) rfl e2]
    rfl
  · rw [upd_ne h3, upd_ne h2, upd_ne h1]
    show upd (upd (upd ρ 11 _) 12 a) 13 b j = _
    rw [upd_ne h3, upd_ne h2, upd_ne h1]

theorem shown_ok {cells : List Int} {ds : List Nat} (A : GoodA ds) {ρ : Rho} (h5 : ρ 5 = some (.fz (.list (rowV ((lawRow ds).map (rstr cells)))))) :
    callF joinV [(strF ""), (exF (compE 35 (listIt (getFz 5)) (compG (nameU 35) yesF (emF (scF (subF (getAny 35) (intF 0)))))))] ρ = some (.str (mkS (shownL ds))) := by
  have hi : listIt (getFz 5) ρ = some (rowV ((lawRow ds).map (rstr cells))) := by simp only [listIt, getFz, h5, Option.bind_some, toL]
  have hc := compE_one (m := 35) (i := 35) (f := scF (subF (getAny 35) (intF 0))) (g := fun x => match x with | .str s => .str (mkS (s.cps.toList.take 1)) | _ => .none) hi (by have := A.l1; simp; omega) (fun x hx ρ' hj hx' => by
    obtain ⟨l, hl, rfl⟩ := List.mem_map.mp hx
    obtain ⟨c, hc, rfl⟩ := List.mem_map.mp hl
    have hs : subF (getAny 35) (intF 0) ρ' = some (.str (mkS [parL c.1])) := by
      simp only [subF, getAny, hx', intF, Option.bind_some, subV]
      rw [if_pos (by decide)]
      have : seqIndex? 0 (mkS (cellL c)).length = some 0 := by
        unfold seqIndex?
        rw [mkS_len]; simp [cellL]
      rw [this]
      rfl
    unfold scF
    rw [hs]
    rfl)
  have e : (rowV ((lawRow ds).map (rstr cells))).map (fun x => match x with | .str s => PV.str (mkS (s.cps.toList.take 1)) | _ => .none) = strsV ((sgn ds).map fun b => [parL b]) := by
    unfold sgn rowV strsV
    simp only [List.map_map]
    rfl
  rw [e] at hc
  have hf : ((sgn ds).map fun b => [parL b]).flatten = shownL ds := by
    unfold shownL
    rw [← List.flatMap_def, flat_one]
  have hl : (shownL ds).length ≤ 20 := by unfold shownL sgn; simp; exact A.l1
  have hj := joinV_ok (ys := (sgn ds).map fun b => [parL b]) (by rw [hf]; omega)
  rw [hf] at hj
  have hx := exF_ok hc
  simp only [callF, argsF, hx, strF, Option.bind_some, Option.map_some]
  rw [empty_lit]
  exact hj
end Mine
end
section
namespace Mine

theorem compE_t {m i : Nat} {fi : Rho → Option (List PV)} {t : Rho → Option Bool} {f : Rho → Option PV} {p : PV → Bool} {g : PV → PV} {xs : List PV} {ρ : Rho} (hi : fi ρ = some xs) (hn : xs.length ≤ 1000000)
    (ht : ∀ x ∈ xs, ∀ ρ' : Rho, (∀ j, j ≠ i → ρ' j = cutR m ρ j) → ρ' i = some (.fz x) → t ρ' = some (p x))
    (hf : ∀ x ∈ xs, ∀ ρ' : Rho, (∀ j, j ≠ i → ρ' j = cutR m ρ j) → ρ' i = some (.fz x) → f ρ' = some (g x)) :
    compE m fi (compG (nameU i) t (emF f)) ρ = some ((xs.filter p).map g) := by
  unfold compE
  rw [hi, Option.bind_some]
  obtain ⟨ρ1, e, _⟩ := compGF (I := fun ρ' => ∀ j, j ≠ i → ρ' j = cutR m ρ j) (u := nameU i) (t := t) (F := emF f) (p := p) (h := fun x => [g x]) (N := 1000000) xs (cutR m ρ) [] (fun x hx ρ' ys' hI hl => by
    have hI' : ∀ j, j ≠ i → upd ρ' i (.fz x) j = cutR m ρ j := fun j hj => by rw [upd_ne hj]; exact hI j hj
    refine ⟨upd ρ' i (.fz x), rfl, ht x hx _ hI' (upd_self _ _ _), fun _ => ⟨upd ρ' i (.fz x), ?_, hI'⟩, fun _ => hI'⟩
    unfold emF
    rw [hf x hx _ hI' (upd_self _ _ _), Option.bind_some, if_pos hl]) (fun _ _ => rfl) (by
      rw [flat_one, List.length_map]
      have := List.length_filter_le p xs
      simp; exact Nat.le_trans this hn)
  rw [e, flat_one]
  rfl

theorem abcd_lit : ("ABCD" : Str) = mkS [65, 66, 67, 68] := by decide +kernel
theorem abcd_lit2 : ("abcd" : Str) = mkS [97, 98, 99, 100] := by decide +kernel
theorem letter {x : Str} {b k j : Nat} {ρ : Rho} (hx : x = mkS [b, b + 1, b + 2, b + 3]) (hk : k < 4) (hj : getAny j ρ = some (.int (k : Int))) : scF (subF (strF x) (getAny j)) ρ = some (.str (mkS [b + k])) := by
  have hs : subF (strF x) (getAny j) ρ = some (.str (mkS [b + k])) := by
    unfold subF
    rw [hj]
    simp only [strF, Option.bind_some, subV]
    rw [if_pos (by omega), hx]
    have : seqIndex? (k : Int) (mkS [b, b + 1, b + 2, b + 3]).length = some k := by
      unfold seqIndex?
      rw [mkS_len]; simp; omega
    rw [this]
    have hk' : k = 0 ∨ k = 1 ∨ k = 2 ∨ k = 3 := by grind
    rcases hk' with rfl | rfl | rfl | rfl <;> rfl
  unfold scF
  rw [hs]
  rfl

noncomputable abbrev bodyW : Rho → Option Out := (seqF (assignF 19 (exF (compE 35 (rangeF [(intF 1), (getAny 15)]) (compG (nameU 35) yesF (emF (cmp2F .LtE .Lt (subF (getAny 6) (getAny 35)) (subF (getAny 6) (getAny 18)) (subF (getAny 8) (getAny 35))))))))
  (seqF (appendF 16 (callF joinV [(strF ""), (exF (compE 35 (rangeF [(binF .Sub (getAny 15) (intF 1))]) (compG (nameU 35) yesF (emF (iteF (tstF (subF (getAny 19) (getAny 35))) (scF (subF (strF "ABCD") (getAny 35))) (scF (subF (strF "abcd") (getAny 35))))))))]))
  (appendF 17 (callF joinV [(strF ""), (exF (compE 35 (rangeF [(binF .Sub (getAny 15) (intF 1))]) (compG (nameU 35) (tstF (subF (getAny 19) (getAny 35))) (emF (scF (subF (strF "ABCD") (getAny 35)))))))]))))

theorem natI_get {ns : List Nat} {k : Nat} (h : k < ns.length) : (natI ns)[k]? = some (.int ((ns.getD k 0 : Nat) : Int)) := by
  rw [List.getElem?_map, List.getD_eq_getElem?_getD, List.getElem?_eq_getElem h]; rfl

theorem turnW {ds : List Nat} (A : GoodA ds) (hn : 1 ≤ ds.length) (hn5 : ds.length ≤ 5) {ρ : Rho} {j : Nat} {ws vs : List (List Nat)} (h6 : ρ 6 = some (.fz (.list (natI (lawPlaces ds))))) (h8 : ρ 8 = some (.fz (.list (natI (lawCloses ds))))) (h15 : ρ 15 = some (.fz (.int (ds.length : Int)))) (h16 : ρ 16 = some (.ow (strsV ws))) (h17 : ρ 17 = some (.ow (strsV vs))) (h18 : ρ 18 = some (.fz (.int (j : Int)))) (hj : j < ds.length) (hw : ws.length ≤ 10) (hv : vs.length ≤ 10) :
    ∃ a, bodyW ρ = some (.next (upd (upd (upd ρ 19 a) 16 (.ow (strsV (ws ++ [wordL ds j])))) 17 (.ow (strsV (vs ++ [wayL ds j]))))) := by
  have hpl := A.pl
  have hcl := A.cl
  -- holds
  have hr1 : rangeF [(intF 1), (getAny 15)] ρ = some (natI ((List.range (ds.length - 1)).map (1 + ·))) := rngAB (a := 1) (b := ds.length) (by simp only [argsF, intF, getAny, h15, Option.bind_some, Option.map_some]; rfl) hn (by grind)
  have hc1 := compE_one (m := 35) (i := 35) (f := cmp2F .LtE .Lt (subF (getAny 6) (getAny 35)) (subF (getAny 6) (getAny 18)) (subF (getAny 8) (getAny 35))) (g := fun x => match x with | .int k => .bool (holdB ds j (k.toNat - 1)) | _ => .none) hr1 (by simp; grind) (fun x hx ρ' hj' hx' => by
    obtain ⟨k1, hk1, rfl⟩ := List.mem_map.mp hx
    obtain ⟨k, hk, rfl⟩ := List.mem_map.mp hk1
    have hk' := List.mem_range.mp hk
    have q6 : getAny 6 ρ' = some (.list (natI (lawPlaces ds))) := by
      have : ρ' 6 = some (.fz (.list (natI (lawPlaces ds)))) := by rw [hj' 6 (by decide)]; exact h6
      simp only [getAny, this]
    have q8 : getAny 8 ρ' = some (.list (natI (lawCloses ds))) := by
      have : ρ' 8 = some (.fz (.list (natI (lawCloses ds)))) := by rw [hj' 8 (by decide)]; exact h8
      simp only [getAny, this]
    have q18 : getAny 18 ρ' = some (.int (j : Int)) := by
      have : ρ' 18 = some (.fz (.int (j : Int))) := by rw [hj' 18 (by decide)]; exact h18
      simp only [getAny, this]
    have q35 : getAny 35 ρ' = some (.int ((1 + k : Nat) : Int)) := (getAny_fz hx')
    have s1 := sub_list q6 q35 (natI_get (by omega)) (by simp; grind)
    have s2 := sub_list q6 q18 (natI_get (by omega)) (by simp; omega)
    have s3 := sub_list q8 q35 (natI_get (by omega)) (by simp; omega)
    unfold cmp2F
    rw [s1, Option.bind_some, s2, Option.bind_some, s3]
    simp only [cmpV, cmpII, cmpSS, cmpBB, cmpNN, Option.bind_some, Option.map_some]
    show (if decide _ = true then _ else _) = some (PV.bool (holdB ds j ((1 + k : Nat) : Int).toNat.pred))
    have e : ((1 + k : Nat) : Int).toNat.pred = k := by rw [Int.toNat_natCast, Nat.pred_eq_sub_one, Nat.add_sub_cancel_left]
    rw [e]
    unfold holdB
    rw [Nat.add_comm 1 k]
    by_cases hq : (lawPlaces ds).getD (k + 1) 0 ≤ (lawPlaces ds).getD j 0
    · rw [if_pos (by rw [decide_eq_true_iff]; omega), decide_eq_true hq, Bool.true_and]
      congr 2
      rw [Bool.eq_iff_iff, decide_eq_true_iff, decide_eq_true_iff]
      omega
    · rw [if_neg (by rw [decide_eq_true_iff]; omega), decide_eq_false hq, Bool.false_and])
  have hh : (natI ((List.range (ds.length - 1)).map (1 + ·))).map (fun x => match x with | .int k => PV.bool (holdB ds j (k.toNat - 1)) | _ => .none) = (List.range (ds.length - 1)).map fun k => .bool (holdB ds j k) := by
    unfold natI
    rw [List.map_map, List.map_map]
    apply List.map_congr_left
    intro k _
    simp only [Function.comp, Int.toNat_natCast]
    rw [Nat.add_sub_cancel_left]
  rw [hh] at hc1
  obtain ⟨H, hH⟩ : ∃ H, H = (List.range (ds.length - 1)).map fun k => PV.bool (holdB ds j k) := ⟨_, rfl⟩
  rw [← hH] at hc1
  let ρ1 := upd ρ 19 (.fz (.list H))
  have k15 : ρ1 15 = some (.fz (.int (ds.length : Int))) := h15
  have k16 : ρ1 16 = some (.ow (strsV ws)) := h16
  have k17 : ρ1 17 = some (.ow (strsV vs)) := h17
  have k19 : ρ1 19 = some (.fz (.list H)) := rfl
  have hHl : H.length = ds.length - 1 := by rw [hH]; simp
  have hHk : ∀ k, k < ds.length - 1 → H[k]? = some (.bool (holdB ds j k)) := fun k hk => by rw [hH, List.getElem?_map, List.getElem?_range hk]; rfl
  have hr2 : ∀ ρ0 : Rho, ρ0 15 = some (.fz (.int (ds.length : Int))) → rangeF [(binF .Sub (getAny 15) (intF 1))] ρ0 = some (natI (List.range (ds.length - 1))) := fun ρ0 h => by
    have s := binI (op := .Sub) (f := getAny 15) (g := intF 1) (ρ := ρ0) (a := (ds.length : Int)) (b := 1) ((getAny_fz h)) rfl (v_sub1 hn)
    exact rngB (by unfold argsF argsF; rw [s]; rfl) (by omega)
  have hts : ∀ ρ' : Rho, ∀ k : Nat, k < ds.length - 1 → ρ' 19 = some (.fz (.list H)) → ρ' 35 = some (.fz (.int (k : Int))) → tstF (subF (getAny 19) (getAny 35)) ρ' = some (holdB ds j k) := fun ρ' k hk q19 q35 => by
    have s := sub_list (f := getAny 19) (g := getAny 35) (ρ := ρ') ((getAny_fz q19)) ((getAny_fz q35)) (hHk k hk) (by omega)
    unfold tstF
    rw [s]
    rfl
  have hc2 := compE_one (m := 35) (i := 35) (f := iteF (tstF (subF (getAny 19) (getAny 35))) (scF (subF (strF "ABCD") (getAny 35))) (scF (subF (strF "abcd") (getAny 35)))) (g := fun x => match x with | .int k => .str (mkS [if holdB ds j k.toNat then 65 + k.toNat else 97 + k.toNat]) | _ => .none) (hr2 ρ1 k15) (by simp; omega) (fun x hx ρ' hj' hx' => by
    obtain ⟨k, hk, rfl⟩ := List.mem_map.mp hx
    have hk' := List.mem_range.mp hk
    have q19 : ρ' 19 = some (.fz (.list H)) := by rw [hj' 19 (by decide)]; exact k19
    have q35 : getAny 35 ρ' = some (.int (k : Int)) := (getAny_fz hx')
    have t := hts ρ' k hk' q19 hx'
    simp only [Int.toNat_natCast]
    cases hb : holdB ds j k with
    | true => rw [hb] at t; rw [ite_yes t]; exact letter abcd_lit (by omega) q35
    | false => rw [hb] at t; rw [ite_no t]; exact letter abcd_lit2 (by omega) q35)
  have hw2 : (natI (List.range (ds.length - 1))).map (fun x => match x with | .int k => PV.str (mkS [if holdB ds j k.toNat then 65 + k.toNat else 97 + k.toNat]) | _ => .none) = strsV ((List.range (ds.length - 1)).map fun k => [if holdB ds j k then 65 + k else 97 + k]) := by
    unfold natI strsV
    rw [List.map_map, List.map_map]
    rfl
  rw [hw2] at hc2
  have hf2 : ((List.range (ds.length - 1)).map fun k => [if holdB ds j k then 65 + k else 97 + k]).flatten = wordL ds j := by
    rw [← List.flatMap_def, flat_one]; rfl
  have hj2 := joinV_ok (ys := (List.range (ds.length - 1)).map fun k => [if holdB ds j k then 65 + k else 97 + k]) (by rw [hf2]; unfold wordL; simp; omega)
  rw [hf2] at hj2
  have hw3 := call2 (F := joinV) (f := strF "") (ρ := ρ1) (x := .str (mkS [])) (by rw [empty_lit]; rfl) (exF_ok hc2) hj2
  have s2 := append_ok hw3 k16 rfl (by simp; omega)
  let ρ2 := upd ρ1 16 (.ow (strsV ws ++ [.str (mkS (wordL ds j))]))
  have m15 : ρ2 15 = some (.fz (.int (ds.length : Int))) := k15
  have m17 : ρ2 17 = some (.ow (strsV vs)) := k17
  have m19 : ρ2 19 = some (.fz (.list H)) := k19
  have hc3 := compE_t (m := 35) (i := 35) (t := tstF (subF (getAny 19) (getAny 35))) (f := scF (subF (strF "ABCD") (getAny 35))) (p := fun x => match x with | .int k => holdB ds j k.toNat | _ => false) (g := fun x => match x with | .int k => .str (mkS [65 + k.toNat]) | _ => .none) (hr2 ρ2 m15) (by simp; omega) (fun x hx ρ' hj' hx' => by
    obtain ⟨k, hk, rfl⟩ := List.mem_map.mp hx
    have hk' := List.mem_range.mp hk
    have q19 : ρ' 19 = some (.fz (.list H)) := by rw [hj' 19 (by decide)]; exact m19
    simp only [Int.toNat_natCast]
    exact hts ρ' k hk' q19 hx') (fun x hx ρ' hj' hx' => by
    obtain ⟨k, hk, rfl⟩ := List.mem_map.mp hx
    have hk' := List.mem_range.mp hk
    simp only [Int.toNat_natCast]
    exact letter abcd_lit (by omega) ((getAny_fz hx')))
  have hv2 : ((natI (List.range (ds.length - 1))).filter (fun x => match x with | .int k => holdB ds j k.toNat | _ => false)).map (fun x => match x with | .int k => PV.str (mkS [65 + k.toNat]) | _ => .none) = strsV (((List.range (ds.length - 1)).filter (holdB ds j)).map fun k => [65 + k]) := by
    unfold natI strsV
    rw [List.filter_map, List.map_map, List.map_map]
    rfl
  rw [hv2] at hc3
  have hf3 : (((List.range (ds.length - 1)).filter (holdB ds j)).map fun k => [65 + k]).flatten = wayL ds j := by
    rw [← List.flatMap_def, flat_one]; rfl
  have hwl : (wayL ds j).length ≤ 5 := by
    unfold wayL
    rw [List.length_map]
    have := List.length_filter_le (holdB ds j) (List.range (ds.length - 1))
    rw [List.length_range] at this; omega
  have hj3 := joinV_ok (ys := ((List.range (ds.length - 1)).filter (holdB ds j)).map fun k => [65 + k]) (by rw [hf3]; omega)
  rw [hf3] at hj3
  have hv3 := call2 (F := joinV) (f := strF "") (ρ := ρ2) (x := .str (mkS [])) (by rw [empty_lit]; rfl) (exF_ok hc3) hj3
  have s3 := append_ok hv3 m17 rfl (by simp; omega)
  refine ⟨.fz (.list H), ?_⟩
  unfold bodyW
  rw [seq_next (assign_ok (exF_ok hc1)), seq_next s2, s3]
  simp [ρ2, ρ1]
end Mine
end
section
namespace Mine

theorem loopW {ds : List Nat} (A : GoodA ds) (hn : 1 ≤ ds.length) (hn5 : ds.length ≤ 5) : ∀ (js : List Nat) (ρ : Rho) (ws vs : List (List Nat)), (∀ j ∈ js, j < ds.length) → ρ 6 = some (.fz (.list (natI (lawPlaces ds)))) → ρ 8 = some (.fz (.list (natI (lawCloses ds)))) → ρ 15 = some (.fz (.int (ds.length : Int))) → ρ 16 = some (.ow (strsV ws)) → ρ 17 = some (.ow (strsV vs)) → ws.length + js.length ≤ 10 → vs.length + js.length ≤ 10 →
    ∃ ρ', forF (nameU 18) bodyW (natI js) ρ = some (.next ρ') ∧ ρ' 16 = some (.ow (strsV (ws ++ js.map (wordL ds)))) ∧ ρ' 17 = some (.ow (strsV (vs ++ js.map (wayL ds)))) ∧ ∀ i, i ≠ 16 → i ≠ 17 → i ≠ 18 → i ≠ 19 → ρ' i = ρ i
  | [], ρ, ws, vs, _, _, _, _, h16, h17, _, _ => ⟨ρ, rfl, by simpa using h16, by simpa using h17, fun _ _ _ _ _ => rfl⟩
  | j :: js, ρ, ws, vs, hj, h6, h8, h15, h16, h17, hw, hv => by
    rw [List.length_cons] at hw hv
    obtain ⟨a, e⟩ := turnW A hn hn5 (ρ := upd ρ 18 (.fz (.int (j : Int)))) (j := j) (ws := ws) (vs := vs) (h6) (h8) (h15) (h16) (h17) (upd_self _ _ _) (hj j (.head _)) (by exact Nat.le_of_add_right_le hw) (by exact Nat.le_of_add_right_le hv)
    let ρ1 := upd (upd (upd (upd ρ 18 (.fz (.int (j : Int)))) 19 a) 16 (.ow (strsV (ws ++ [wordL ds j])))) 17 (.ow (strsV (vs ++ [wayL ds j])))
    obtain ⟨ρ', f1, f2, f3, f4⟩ := loopW A hn hn5 js ρ1 (ws ++ [wordL ds j]) (vs ++ [wayL ds j]) (fun i hi => hj i (.tail _ hi)) (h6) (h8) (h15) (rfl) (rfl) (by simp; omega) (by simp; omega)
    refine ⟨ρ', ?_, by rw [f2]; simp, by rw [f3]; simp, fun i h1 h2 h3 h4 => ?_⟩
    · show forF (nameU 18) bodyW (.int (j : Int) :: natI js) ρ = _
      rw [for_cons (ρ1 := upd ρ 18 (.fz (.int (j : Int)))) rfl e, f1]
    · rw [f4 i h1 h2 h3 h4]
      show upd (upd (upd (upd ρ 18 _) 19 a) 16 _) 17 _ i = ρ i
      rw [upd_ne h2, upd_ne h1, upd_ne h4, upd_ne h3]

/-! the table -/
noncomputable abbrev Tab := Nat → Nat → Int
noncomputable def rowT (n : Nat) (T : Tab) (i : Nat) : List PV := (List.range n).map fun j => .int (T i j)
noncomputable def tabV (n : Nat) (T : Tab) : List (List PV) := (List.range n).map fun i => rowT n T i
noncomputable def setT (T : Tab) (a b : Nat) (x : Int) : Tab := fun i j => if i = a ∧ j = b then x else T i j
theorem rowT_get {n : Nat} {T : Tab} {i j : Nat} (h : j < n) : (rowT n T i)[j]? = some (.int (T i j)) := by
  unfold rowT; rw [List.getElem?_map, List.getElem?_range h]; rfl
theorem tabV_get {n : Nat} {T : Tab} {i : Nat} (h : i < n) : (tabV n T)[i]? = some (rowT n T i) := by
  unfold tabV; rw [List.getElem?_map, List.getElem?_range h]; rfl
theorem tabV_set {n : Nat} {T : Tab} {a b : Nat} {x : Int} (ha : a < n) (hb : b < n) : (tabV n T).set a ((rowT n T a).set b (.int x)) = tabV n (setT T a b x) := by
  apply List.ext_getElem?
  intro i
  by_cases hi : i < n
  · rw [List.getElem?_set, tabV_get hi, tabV_get hi]
    by_cases hia : a = i
    · subst hia
      rw [if_pos rfl, if_pos (by simp [tabV]; exact hi)]
      congr 1
      apply List.ext_getElem?
      intro j
      by_cases hj : j < n
      · rw [List.getElem?_set, rowT_get hj, rowT_get hj]
        by_cases hjb : b = j
        · subst hjb
          rw [if_pos rfl, if_pos (by simp [rowT]; exact hj)]
          simp [setT]
        · rw [if_neg hjb]
          have : ¬ j = b := fun h => hjb h.symm
          simp [setT, this]
      · have h1 : ((rowT n T a).set b (.int x))[j]? = none := by rw [List.getElem?_eq_none]; simp [rowT]; exact Nat.le_of_not_lt hj
        have h2 : (rowT n (setT T a b x) a)[j]? = none := by rw [List.getElem?_eq_none]; simp [rowT]; exact Nat.le_of_not_lt hj
        rw [h1, h2]
    · rw [if_neg hia]
      congr 1
      unfold rowT
      apply List.map_congr_left
      intro j _
      have : ¬ i = a := fun h => hia h.symm
      simp [setT, this]
  · have h1 : ((tabV n T).set a ((rowT n T a).set b (.int x)))[i]? = none := by rw [List.getElem?_eq_none]; simp [tabV]; exact Nat.le_of_not_lt hi
    have h2 : (tabV n (setT T a b x))[i]? = none := by rw [List.getElem?_eq_none]; simp [tabV]; exact Nat.le_of_not_lt hi
    rw [h1, h2]
theorem tab_congr {n : Nat} {T T' : Tab} (h : ∀ a b, a < n → b < n → T a b = T' a b) : tabV n T = tabV n T' := by
  unfold tabV rowT
  apply List.map_congr_left
  intro i hi
  apply List.map_congr_left
  intro j hj
  rw [h i j (List.mem_range.mp hi) (List.mem_range.mp hj)]

theorem get2_ok {n : Nat} {T : Tab} {ρ : Rho} {a b : Nat} {f g : Rho → Option PV} (h : ρ 22 = some (.ow2 (tabV n T))) (hf : f ρ = some (.int (a : Int))) (hg : g ρ = some (.int (b : Int))) (ha : a < n) (hb : b < n) (hn : n ≤ 1000) : subF (subF (getAny 22) f) g ρ = some (.int (T a b)) := by
  have h22 : getAny 22 ρ = some (.list ((tabV n T).map .list)) := by simp only [getAny, h]
  have s1 : subF (getAny 22) f ρ = some (.list (rowT n T a)) := sub_list h22 hf (by rw [List.getElem?_map, tabV_get ha]; rfl) (by simp [tabV]; omega)
  exact sub_list s1 hg (rowT_get hb) (by simp [rowT]; omega)
theorem set2_ok {n : Nat} {T : Tab} {ρ : Rho} {a b : Nat} {x : Int} {fr fi fe : Rho → Option PV} (h : ρ 22 = some (.ow2 (tabV n T))) (he : fe ρ = some (.int x)) (hr : fr ρ = some (.int (a : Int))) (hi : fi ρ = some (.int (b : Int))) (ha : a < n) (hb : b < n) (hn : n ≤ 1000) : set2F 22 fr fi fe ρ = some (.next (upd ρ 22 (.ow2 (tabV n (setT T a b x))))) := by
  unfold set2F set2V
  rw [he, Option.bind_some, hr, Option.bind_some, hi, Option.bind_some, h]
  simp only
  rw [if_pos ⟨rfl, by exact Int.natCast_nonneg a, by omega, by exact Int.natCast_nonneg b, by omega⟩]
  simp only [Int.toNat_natCast]
  rw [tabV_get ha, Option.bind_some, if_pos (by simp [rowT]; omega), tabV_set ha hb]

theorem rowsOf_lists : ∀ xs : List (List PV), (∀ x ∈ xs, x.all PV.sc = true) → rowsOf (xs.map .list) = some xs
  | [], _ => rfl
  | x :: xs, h => by
    rw [List.map_cons, rowsOf, rowsOf_lists xs fun y hy => h y (.tail _ hy), if_pos (h x (.head _))]; rfl
theorem tabV_sc {n : Nat} {T : Tab} : ∀ x ∈ tabV n T, x.all PV.sc = true := fun x hx => by
  obtain ⟨i, _, rfl⟩ := List.mem_map.mp hx
  unfold rowT
  rw [List.all_map, List.all_eq_true]; intro j _; rfl
theorem init_ok {n : Nat} {z : Int} {ρ : Rho} (h15 : ρ 15 = some (.fz (.int (n : Int)))) (h21 : ρ 21 = some (.fz (.int z))) (hn : n ≤ 1000) :
    assign2N 22 (compE 35 (rangeF [(getAny 15)]) (compG (nameU 35) yesF (emN (compE 36 (rangeF [(getAny 15)]) (compG (nameU 36) yesF (emF (getFz 21))))))) ρ = some (.next (upd ρ 22 (.ow2 (tabV n fun _ _ => z)))) := by
  have hr : ∀ ρ0 : Rho, ρ0 15 = some (.fz (.int (n : Int))) → rangeF [(getAny 15)] ρ0 = some (natI (List.range n)) := fun ρ0 h => rngB (by simp only [argsF, getAny, h, Option.bind_some, Option.map_some]) (by omega)
  have hin : ∀ ρ0 : Rho, ρ0 15 = some (.fz (.int (n : Int))) → ρ0 21 = some (.fz (.int z)) → compE 36 (rangeF [(getAny 15)]) (compG (nameU 36) yesF (emF (getFz 21))) ρ0 = some (rowT n (fun _ _ => z) 0) := fun ρ0 h h' => by
    have := compE_one (m := 36) (i := 36) (f := getFz 21) (g := fun _ => .int z) (hr ρ0 h) (by simp; omega) (fun x hx ρ' hj hx' => by
      have : ρ' 21 = some (.fz (.int z)) := by rw [hj 21 (by decide)]; exact h'
      simp only [getFz, this])
    rw [this]
    congr 1
    unfold natI rowT
    rw [List.map_map]; rfl
  have hc : compE 35 (rangeF [(getAny 15)]) (compG (nameU 35) yesF (emN (compE 36 (rangeF [(getAny 15)]) (compG (nameU 36) yesF (emF (getFz 21)))))) ρ = some ((tabV n fun _ _ => z).map .list) := by
    unfold compE
    rw [hr ρ h15, Option.bind_some]
    have hN : (((natI (List.range n)).filter fun _ => true).flatMap fun _ => [PV.list (rowT n (fun _ _ => z) 0)]) = (tabV n fun _ _ => z).map .list := by
      rw [filter_yes, flat_one]
      unfold natI tabV
      rw [List.map_map, List.map_map]; rfl
    obtain ⟨ρ1, e, _⟩ := compGF (I := fun ρ' => ρ' 15 = some (.fz (.int (n : Int))) ∧ ρ' 21 = some (.fz (.int z))) (u := nameU 35) (t := yesF) (F := emN (compE 36 (rangeF [(getAny 15)]) (compG (nameU 36) yesF (emF (getFz 21))))) (p := fun _ => true) (h := fun _ => [.list (rowT n (fun _ _ => z) 0)]) (N := 1000000) (natI (List.range n)) (cutR 35 ρ) [] (fun x hx ρ' ys' hI hl => by
      have hI' : upd ρ' 35 (.fz x) 15 = some (.fz (.int (n : Int))) ∧ upd ρ' 35 (.fz x) 21 = some (.fz (.int z)) := by simp [upd_at, hI.1, hI.2]
      refine ⟨upd ρ' 35 (.fz x), rfl, rfl, fun _ => ⟨upd ρ' 35 (.fz x), ?_, hI'⟩, fun h => by cases h⟩
      unfold emN
      rw [hin _ hI'.1 hI'.2, Option.bind_some, if_pos hl]) ⟨h15, h21⟩ (by rw [hN]; simp [tabV]; omega)
    have e' : compG (nameU 35) yesF (emN (compE 36 (rangeF [(getAny 15)]) (compG (nameU 36) yesF (emF (getFz 21))))) (natI (List.range n)) (cutR 35 ρ, []) = _ := e
    rw [hN] at e'
    show (compG (nameU 35) yesF (emN (compE 36 (rangeF [(getAny 15)]) (compG (nameU 36) yesF (emF (getFz 21))))) (natI (List.range n)) (cutR 35 ρ, [])).map (·.2) = _
    rw [e']
    simp
  unfold assign2N
  rw [hc, Option.bind_some, rowsOf_lists _ tabV_sc]
  rfl
end Mine
end
section
namespace Mine

structure CF (ds : List Nat) (w : Nat) (z : Int) (ρ : Rho) : Prop where
  h3 : ρ 3 = some (.ow (natI ds))
  h16 : ρ 16 = some (.ow (strsV ((List.range ds.length).map (wordL ds))))
  h17 : ρ 17 = some (.ow (strsV ((List.range ds.length).map (wayL ds))))
  h20 : ρ 20 = some (.fz (.int (w : Int)))
  h21 : ρ 21 = some (.fz (.int z))
theorem CF.upd {ds : List Nat} {w : Nat} {z : Int} {ρ : Rho} (h : CF ds w z ρ) {i : Nat} (x : Slot) (hi : i = 18 ∨ 22 ≤ i) : CF ds w z (upd ρ i x) :=
  ⟨by rw [upd_ne (by omega)]; exact h.h3, by rw [upd_ne (by omega)]; exact h.h16, by rw [upd_ne (by omega)]; exact h.h17, by rw [upd_ne (by omega)]; exact h.h20, by rw [upd_ne (by omega)]; exact h.h21⟩

noncomputable abbrev bodyF : Rho → Option Out := (seqF (assignTF (tupU [24, 25]) (callF F118 [(getAny 3), (getAny 23), (getAny 18)]))
  (seqF (assignF 26 (callF F28 [(subF (getAny 16) (getAny 23)), (subF (getAny 16) (getAny 18)), (binF .Add (getAny 24) (getAny 25))]))
  (seqF (ifF (orL [(cmpF .NotEq (getAny 26) (binF .Add (getAny 24) (getAny 25))), (tstF (isboolF (getAny 26)))]) (retF (boolF false)) passF)
  (seqF (ifF (cmpF .NotEq (callF F28 [(subF (getAny 17) (getAny 18)), (subF (getAny 17) (getAny 23)), (binF .Sub (binF .Mult (intF 2) (callF maxV [(getAny 24), (getAny 25)])) (binF .Mod (binF .Add (getAny 23) (getAny 18)) (intF 2)))]) (binF .Mult (intF 2) (callF maxV [(getAny 24), (getAny 25)]))) (retF (boolF false)) passF)
  (seqF (set2F 22 (getAny 23) (getAny 18) (binF .Add (getAny 21) (callF F56 [(exF (mulLF (listF [(intF 1)]) (getAny 26))), (getAny 20)])))
  (set2F 22 (getAny 18) (getAny 23) (subF (subF (getAny 22) (getAny 23)) (getAny 18))))))))

theorem pairOk {ds : List Nat} {i j : Nat} (h : chkC ds = true) (hj : j < ds.length) (hi : i < j) : pairChk ds i j = true := by
  unfold chkC at h
  have h1 := List.all_eq_true.mp h j (List.mem_range.mpr hj)
  exact List.all_eq_true.mp h1 i (List.mem_range.mpr hi)

noncomputable def onesV (w d : Nat) : Int := ((val w (List.replicate d 1) : Nat) : Int)
theorem onesV_ev (w : Nat) : ∀ d, onesV w d = ev (List.replicate d 1) (2 ^ w)
  | 0 => rfl
  | d + 1 => by
    have := onesV_ev w d
    unfold onesV at this ⊢
    rw [List.replicate_succ, List.replicate_succ, val, ev, ← this]
    push_cast
    rfl
noncomputable def wayD (ds : List Nat) (i j : Nat) : Nat := oneOf ds i j + twoOf ds i j

theorem turnF {ds : List Nat} {w : Nat} {z : Int} (hC : chkC ds = true) (hn5 : ds.length ≤ 5) (hds : ∀ d ∈ ds, d ≤ 10) (hw : 1 ≤ w) (hw2 : w ≤ 3000) {ρ : Rho} {i j : Nat} {T : Tab} (c : CF ds w z ρ) (h18 : ρ 18 = some (.fz (.int (j : Int)))) (h23 : ρ 23 = some (.fz (.int (i : Int)))) (h22 : ρ 22 = some (.ow2 (tabV ds.length T))) (hij : i < j) (hj : j < ds.length) :
    ∃ ρ', bodyF ρ = some (.next ρ') ∧ CF ds w z ρ' ∧ ρ' 18 = some (.fz (.int (j : Int))) ∧ ρ' 22 = some (.ow2 (tabV ds.length (setT (setT T i j (z + onesV w (wayD ds i j))) j i (z + onesV w (wayD ds i j))))) ∧ ∀ k, k ≠ 22 → k ≠ 24 → k ≠ 25 → k ≠ 26 → ρ' k = ρ k := by
  have hp := pairOk hC hj hij
  unfold pairChk at hp
  rw [Bool.and_eq_true, Bool.and_eq_true] at hp
  have p1 := isT2_ok hp.1.1
  have p2 := isI_ok hp.1.2
  have p3 := isI_ok hp.2
  obtain ⟨one, hone⟩ : ∃ one, one = oneOf ds i j := ⟨_, rfl⟩
  obtain ⟨two, htwo⟩ : ∃ two, two = twoOf ds i j := ⟨_, rfl⟩
  have hwd : wayD ds i j = one + two := by rw [hone, htwo]; rfl
  rw [← hone, ← htwo] at p1 p2 p3
  have hdk : ∀ k, ds.getD k 0 ≤ 10 := fun k => by
    rw [List.getD_eq_getElem?_getD]
    cases h : ds[k]? with
    | none => simp
    | some x => exact hds x (List.mem_of_getElem? h)
  have ho : one ≤ 10 := by rw [hone]; unfold oneOf; have := hdk i; grind
  have ht : two ≤ 10 := by rw [htwo]; unfold twoOf; have := hdk j; omega
  have hwl : ∀ (f : Nat → List Nat) (k : Nat), k < ds.length → (strsV ((List.range ds.length).map f))[k]? = some (.str (mkS (f k))) := fun f k hk => by
    rw [List.getElem?_map, List.getElem?_map, List.getElem?_range hk]; rfl
  have g18 : getAny 18 ρ = some (.int (j : Int)) := (getAny_fz h18)
  have g23 : getAny 23 ρ = some (.int (i : Int)) := (getAny_fz h23)
  have g3 : getAny 3 ρ = some (.list (natI ds)) := (getAny_ow c.h3)
  have s1 : assignTF (tupU [24, 25]) (callF F118 [(getAny 3), (getAny 23), (getAny 18)]) ρ = some (.next (upd (upd ρ 24 (.fz (.int (one : Int)))) 25 (.fz (.int (two : Int))))) := by
    unfold assignTF
    rw [call3 g3 g23 g18 p1]
    rfl
  let ρ1 := upd (upd ρ 24 (.fz (.int (one : Int)))) 25 (.fz (.int (two : Int)))
  have c1 : CF ds w z ρ1 := (c.upd _ (.inr (by decide))).upd _ (.inr (by decide))
  have k18 : ρ1 18 = some (.fz (.int (j : Int))) := h18
  have k23 : ρ1 23 = some (.fz (.int (i : Int))) := h23
  have k22 : ρ1 22 = some (.ow2 (tabV ds.length T)) := h22
  have k24 : getAny 24 ρ1 = some (.int (one : Int)) := rfl
  have k25 : getAny 25 ρ1 = some (.int (two : Int)) := rfl
  have kk18 : getAny 18 ρ1 = some (.int (j : Int)) := (getAny_fz k18)
  have kk23 : getAny 23 ρ1 = some (.int (i : Int)) := (getAny_fz k23)
  have w1 := sub_list (f := getAny 16) ((getAny_ow c1.h16)) kk23 (hwl (wordL ds) i (by exact Nat.lt_trans hij hj)) (by simp; grind)
  have w2 := sub_list (f := getAny 16) ((getAny_ow c1.h16)) kk18 (hwl (wordL ds) j hj) (by simp; omega)
  have a1 : binF .Add (getAny 24) (getAny 25) ρ1 = some (.int ((one + two : Nat) : Int)) := binI k24 k25 (v_add one two)
  have s2 := call3 w1 w2 a1 p2
  let ρ2 := upd ρ1 26 (.fz (.int ((one + two : Nat) : Int)))
  have c2 : CF ds w z ρ2 := c1.upd _ (.inr (by decide))
  have m18 : ρ2 18 = some (.fz (.int (j : Int))) := k18
  have m23 : ρ2 23 = some (.fz (.int (i : Int))) := k23
  have m22 : ρ2 22 = some (.ow2 (tabV ds.length T)) := k22
  have m24 : getAny 24 ρ2 = some (.int (one : Int)) := rfl
  have m25 : getAny 25 ρ2 = some (.int (two : Int)) := rfl
  have m26 : getAny 26 ρ2 = some (.int ((one + two : Nat) : Int)) := rfl
  have mm18 : getAny 18 ρ2 = some (.int (j : Int)) := (getAny_fz m18)
  have mm23 : getAny 23 ρ2 = some (.int (i : Int)) := (getAny_fz m23)
  have a2 : binF .Add (getAny 24) (getAny 25) ρ2 = some (.int ((one + two : Nat) : Int)) := binI m24 m25 (v_add one two)
  have t1 : orL [(cmpF .NotEq (getAny 26) (binF .Add (getAny 24) (getAny 25))), (tstF (isboolF (getAny 26)))] ρ2 = some false := by
    refine or_no (cmpI m26 a2 (by simp [cmpV, cmpII, cmpSS, cmpBB, cmpNN])) (or_no ?_ or_nil)
    unfold tstF isboolF
    rw [m26]
    rfl
  have v1 := sub_list (f := getAny 17) ((getAny_ow c2.h17)) mm18 (hwl (wayL ds) j hj) (by simp; omega)
  have v2 := sub_list (f := getAny 17) ((getAny_ow c2.h17)) mm23 (hwl (wayL ds) i (by exact Nat.lt_trans hij hj)) (by simp; omega)
  have hmx : callF maxV [(getAny 24), (getAny 25)] ρ2 = some (.int ((max one two : Nat) : Int)) := by
    refine call2 m24 m25 ?_
    unfold maxV
    simp only
    congr 2
    split <;> grind
  have hmul : binF .Mult (intF 2) (callF maxV [(getAny 24), (getAny 25)]) ρ2 = some (.int ((2 * max one two : Nat) : Int)) := by
    refine binI (a := ((2 : Nat) : Int)) rfl hmx ?_
    exact v_mul (by
      have h1 := bits_small (b := 2) (by decide)
      have h2 := bits_small (b := max one two) (by omega)
      have : LIM = 134217728 := rfl
      omega)
  have hmod : binF .Mod (binF .Add (getAny 23) (getAny 18)) (intF 2) ρ2 = some (.int (((i + j) % 2 : Nat) : Int)) := by
    refine binI (b := 2) (binI mm23 mm18 (v_add i j)) rfl ?_
    show (if (2 : Int) ≠ 0 then some (((i + j : Nat) : Int).fmod 2) else none) = _
    rw [if_pos (by decide), Int.fmod_eq_emod_of_nonneg _ (by decide)]
    rfl
  have hsub : binF .Sub (binF .Mult (intF 2) (callF maxV [(getAny 24), (getAny 25)])) (binF .Mod (binF .Add (getAny 23) (getAny 18)) (intF 2)) ρ2 = some (.int (((2 * max one two : Nat) : Int) - (((i + j) % 2 : Nat) : Int))) := binI hmul hmod rfl
  have t2 : cmpF .NotEq (callF F28 [(subF (getAny 17) (getAny 18)), (subF (getAny 17) (getAny 23)), (binF .Sub (binF .Mult (intF 2) (callF maxV [(getAny 24), (getAny 25)])) (binF .Mod (binF .Add (getAny 23) (getAny 18)) (intF 2)))]) (binF .Mult (intF 2) (callF maxV [(getAny 24), (getAny 25)])) ρ2 = some false :=
    cmpI (call3 v1 v2 hsub p3) hmul (by simp [cmpV, cmpII, cmpSS, cmpBB, cmpNN])
  -- the entry
  have hml : mulLF (listF [(intF 1)]) (getAny 26) ρ2 = some (natsV (List.replicate (one + two) 1)) := by
    have hl : listF [(intF 1)] ρ2 = some [.int 1] := rfl
    unfold mulLF
    rw [hl, m26]
    simp only [Option.bind_some, mulLV]
    rw [if_pos ⟨by omega, by omega, rfl⟩, Int.toNat_natCast]
    unfold natsV
    rw [List.map_replicate]
    rfl
  have h56 : callF F56 [(exF (mulLF (listF [(intF 1)]) (getAny 26))), (getAny 20)] ρ2 = some (.int (onesV w (one + two))) := by
    refine call2 (exF_ok hml) (y := .int (w : Int)) ((getAny_fz c2.h20)) ?_
    refine F56_ok (by simp; omega) (fun d hd => ?_) ?_ (by omega)
    · rw [(List.mem_replicate.mp hd).2]; exact Nat.one_lt_two_pow (by omega)
    · rw [List.length_replicate]
      have : w * (one + two) ≤ 3000 * 20 := Nat.mul_le_mul hw2 (by omega)
      omega
  have hv : binF .Add (getAny 21) (callF F56 [(exF (mulLF (listF [(intF 1)]) (getAny 26))), (getAny 20)]) ρ2 = some (.int (z + onesV w (one + two))) := binI ((getAny_fz c2.h21)) h56 rfl
  have s5 := set2_ok m22 hv mm23 mm18 (by omega) hj (by omega)
  let ρ3 := upd ρ2 22 (.ow2 (tabV ds.length (setT T i j (z + onesV w (one + two)))))
  have n22 : ρ3 22 = some (.ow2 (tabV ds.length (setT T i j (z + onesV w (one + two))))) := rfl
  have n18 : getAny 18 ρ3 = some (.int (j : Int)) := (getAny_fz m18)
  have n23 : getAny 23 ρ3 = some (.int (i : Int)) := (getAny_fz m23)
  have hg := get2_ok n22 n23 n18 (by omega) hj (by omega)
  have hg' : setT T i j (z + onesV w (one + two)) i j = z + onesV w (one + two) := by simp [setT]
  rw [hg'] at hg
  have s6 := set2_ok n22 hg n18 n23 hj (by omega) (by omega)
  refine ⟨upd ρ3 22 (.ow2 (tabV ds.length (setT (setT T i j (z + onesV w (one + two))) j i (z + onesV w (one + two))))), ?_, (c2.upd _ (.inr (by decide))).upd _ (.inr (by decide)), m18, by rw [hwd, upd_self], fun k h1 h2 h3 h4 => ?_⟩
  · unfold bodyF
    rw [seq_next s1, seq_next (assign_ok s2), seq_next (f := ifF _ _ _) (ρ' := ρ2) (by rw [if_no t1]; rfl), seq_next (f := ifF _ _ _) (ρ' := ρ2) (by rw [if_no t2]; rfl), seq_next s5, s6]
  · rw [upd_ne h1]
    show upd ρ2 22 _ k = _
    rw [upd_ne h1]
    show upd ρ1 26 _ k = _
    rw [upd_ne h4]
    show upd (upd ρ 24 _) 25 _ k = _
    rw [upd_ne h3, upd_ne h2]
end Mine
end
section
namespace Mine

noncomputable def PZ (ds : List Nat) (z q : Int) (k a b : Nat) : Int := evL (PK ds k a b) z q
theorem PZ_symm (ds : List Nat) (z q : Int) (k a b : Nat) : PZ ds z q k a b = PZ ds z q k b a := by unfold PZ; rw [PK_symm]
structure GoodD (ds : List Nat) (w : Nat) (z : Int) : Prop where
  due : ∀ k, k < ds.length → PZ ds z (2 ^ w) k k k = dueI k z (2 ^ w)
  diag : ∀ k, k < ds.length → PZ ds z (2 ^ w) 0 k k = z
  fill : ∀ k, k < ds.length → ∀ i, i < k → PZ ds z (2 ^ w) 0 i k = z + onesV w (wayD ds i k)
  step : ∀ k, k < ds.length → ∀ i j, k < i → i ≤ j → j < ds.length → PZ ds z (2 ^ w) k i j * PZ ds z (2 ^ w) k k k - PZ ds z (2 ^ w) k i k * PZ ds z (2 ^ w) k k j = (if k = 0 then 1 else PZ ds z (2 ^ w) (k - 1) (k - 1) (k - 1)) * PZ ds z (2 ^ w) (k + 1) i j
  small : ∀ k, k < ds.length → ∀ i, i < ds.length → ∀ j, j < ds.length → smallP (PK ds k i j).1 = true ∧ smallP (PK ds k i j).2 = true
theorem goodD {ds : List Nat} (h : chkD ds = true) (w : Nat) (z : Int) : GoodD ds w z := by
  unfold chkD at h
  have hk : ∀ k, k < ds.length → _ := fun k hk => List.all_eq_true.mp h k (List.mem_range.mpr hk)
  simp only [Bool.and_eq_true, List.all_eq_true, List.mem_range, Bool.or_eq_true, decide_eq_true_eq] at hk
  refine ⟨fun k l => ?_, fun k l => ?_, fun k l i hi => ?_, fun k l i j h1 h2 h3 => ?_, fun k l i hi j hj => ?_⟩
  · have := eqChk_ok (hk k l).1.1.1 z (2 ^ w)
    rw [dueP_ok] at this
    exact this
  · have := eqChk_ok (hk k l).1.1.2 z (2 ^ w)
    unfold PZ
    rw [this]
    simp [evL, ev]
  · have := eqChk_ok ((hk k l).1.2 i hi) z (2 ^ w)
    unfold PZ
    rw [this]
    have e := onesV_ev w (wayD ds i k)
    unfold wayD at e ⊢
    simp only [evL, ev, Int.mul_zero, Int.add_zero, Int.mul_one]
    rw [← e]; exact Int.add_comm (onesV w (oneOf ds i k + twoOf ds i k)) z
  · have := ((hk k l).2 i (by exact Nat.lt_of_le_of_lt h2 h3) j h3).2
    rcases this with (h | h) | h
    · omega
    · omega
    · have := idChk_ok h z (2 ^ w)
      unfold PZ
      rw [this]
      congr 1
      unfold befP
      split
      · simp [evL, ev]
      · rfl
  · exact ((hk k l).2 i hi j hj).1

noncomputable def tabF (ds : List Nat) (z q : Int) (j i : Nat) : Tab := fun a b => if max a b < j ∨ (max a b = j ∧ min a b < i) then PZ ds z q 0 a b else z

theorem if_iff {α : Type} {c d : Prop} [Decidable c] [Decidable d] {x y : α} (h : c ↔ d) : (if c then x else y) = if d then x else y := ite_congr (propext h) (fun _ => rfl) fun _ => rfl
theorem mm_le (a b : Nat) : min a b ≤ max a b := Nat.le_trans (Nat.min_le_left a b) (Nat.le_max_left a b)
theorem e_step {i j x y : Nat} (h : ¬ (x = i ∧ y = j)) : (x < i ∨ (x = i ∧ y < j)) ↔ (x < i ∨ (x = i ∧ y < j + 1)) :=
  ⟨fun q => q.imp id fun e => ⟨e.1, Nat.lt_succ_of_lt e.2⟩, fun q => q.imp id fun e => ⟨e.1, Nat.lt_of_le_of_ne (Nat.le_of_lt_succ e.2) fun q => h ⟨e.1, q⟩⟩⟩
theorem mm_eq {a b i j : Nat} (h1 : min a b = i) (h2 : max a b = j) : (a = i ∧ b = j) ∨ (a = j ∧ b = i) := by
  rcases Nat.le_total a b with h | h
  · rw [Nat.min_eq_left h] at h1; rw [Nat.max_eq_right h] at h2; exact .inl ⟨h1, h2⟩
  · rw [Nat.min_eq_right h] at h1; rw [Nat.max_eq_left h] at h2; exact .inr ⟨h2, h1⟩
theorem tabF_step {ds : List Nat} {w : Nat} {z : Int} (D : GoodD ds w z) {i j : Nat} (hij : i < j) (hj : j < ds.length) (a b : Nat) : setT (setT (tabF ds z (2 ^ w) j i) i j (z + onesV w (wayD ds i j))) j i (z + onesV w (wayD ds i j)) a b = tabF ds z (2 ^ w) j (i + 1) a b := by
  have hf := D.fill j hj i hij
  have hle := Nat.le_of_lt hij
  unfold setT tabF
  by_cases h1 : a = j ∧ b = i
  · rw [if_pos h1, h1.1, h1.2, if_pos (.inr ⟨Nat.max_eq_left hle, Nat.lt_succ_of_le (Nat.min_le_right j i)⟩), PZ_symm, hf]
  · rw [if_neg h1]
    by_cases h2 : a = i ∧ b = j
    · rw [if_pos h2, h2.1, h2.2, if_pos (.inr ⟨Nat.max_eq_right hle, Nat.lt_succ_of_le (Nat.min_le_left i j)⟩), hf]
    · rw [if_neg h2]
      exact if_iff (e_step fun e => (mm_eq e.2 e.1).elim h2 h1)
theorem tabF_next {ds : List Nat} {w : Nat} {z : Int} (D : GoodD ds w z) {j : Nat} (hj : j < ds.length) (a b : Nat) : tabF ds z (2 ^ w) j j a b = tabF ds z (2 ^ w) (j + 1) 0 a b := by
  unfold tabF
  by_cases h1 : max a b < j ∨ (max a b = j ∧ min a b < j)
  · rw [if_pos h1, if_pos (.inl (h1.elim Nat.lt_succ_of_lt fun e => Nat.lt_succ_of_le (Nat.le_of_eq e.1)))]
  · rw [if_neg h1]
    by_cases h2 : max a b < j + 1
    · have ey := Nat.le_antisymm (Nat.le_of_lt_succ h2) (Nat.le_of_not_lt fun h => h1 (.inl h))
      obtain ⟨e1, e2⟩ : a = j ∧ b = j := (mm_eq (Nat.le_antisymm (Nat.le_trans (mm_le a b) (Nat.le_of_eq ey)) (Nat.le_of_not_lt fun h => h1 (.inr ⟨ey, h⟩))) ey).elim id id
      rw [if_pos (.inl h2), e1, e2, D.diag j hj]
    · rw [if_neg fun q => q.elim h2 fun e => Nat.not_lt_zero _ e.2]

/-- what the fill leaves alone -/
noncomputable def KeepF (ρ ρ' : Rho) : Prop := ∀ k, k ≠ 18 → (k < 22 ∨ 26 < k) → ρ' k = ρ k
theorem lt_of_add {i m j : Nat} (e : i + (m + 1) = j) : i < j := Nat.lt_of_lt_of_eq (Nat.lt_add_of_pos_right (Nat.succ_pos m)) e
theorem innerF {ds : List Nat} {w : Nat} {z : Int} (hC : chkC ds = true) (D : GoodD ds w z) (hn5 : ds.length ≤ 5) (hds : ∀ d ∈ ds, d ≤ 10) (hw : 1 ≤ w) (hw2 : w ≤ 3000) {j : Nat} (hj : j < ds.length) : ∀ (m i : Nat) (ρ : Rho), i + m = j → CF ds w z ρ → ρ 18 = some (.fz (.int (j : Int))) → ρ 22 = some (.ow2 (tabV ds.length (tabF ds z (2 ^ w) j i))) →
    ∃ ρ', forF (nameU 23) bodyF (natI (List.range' i m)) ρ = some (.next ρ') ∧ CF ds w z ρ' ∧ ρ' 22 = some (.ow2 (tabV ds.length (tabF ds z (2 ^ w) j j))) ∧ KeepF ρ ρ'
  | 0, i, ρ, e, c, h18, h22 => by
    obtain rfl : i = j := e
    exact ⟨ρ, rfl, c, h22, fun _ _ _ => rfl⟩
  | m + 1, i, ρ, e, c, h18, h22 => by
    obtain ⟨ρ1, b1, b2, b3, b4, b5⟩ := turnF hC hn5 hds hw hw2 (ρ := upd ρ 23 (.fz (.int (i : Int)))) (i := i) (j := j) (T := tabF ds z (2 ^ w) j i) (c.upd _ (.inr (by decide))) (h18) (upd_self _ _ _) (h22) (lt_of_add e) hj
    have e22 : ρ1 22 = some (.ow2 (tabV ds.length (tabF ds z (2 ^ w) j (i + 1)))) := by
      rw [b4, tab_congr (T' := tabF ds z (2 ^ w) j (i + 1)) fun a b _ _ => tabF_step D (lt_of_add e) hj a b]
    obtain ⟨ρ', f1, f2, f3, f4⟩ := innerF hC D hn5 hds hw hw2 hj m (i + 1) ρ1 ((Nat.succ_add_eq_add_succ i m).trans e) b2 b3 e22
    refine ⟨ρ', ?_, f2, f3, fun k h1 h2 => ?_⟩
    · rw [List.range'_succ]
      show forF (nameU 23) bodyF (.int (i : Int) :: natI (List.range' (i + 1) m)) ρ = _
      rw [for_cons (ρ1 := upd ρ 23 (.fz (.int (i : Int)))) rfl b1, f1]
    · rw [f4 k h1 h2, b5 k (by omega) (by omega) (by omega) (by omega), upd_ne (by omega)]
theorem outerF {ds : List Nat} {w : Nat} {z : Int} (hC : chkC ds = true) (D : GoodD ds w z) (hn5 : ds.length ≤ 5) (hds : ∀ d ∈ ds, d ≤ 10) (hw : 1 ≤ w) (hw2 : w ≤ 3000) : ∀ (m j : Nat) (ρ : Rho), j + m = ds.length → CF ds w z ρ → ρ 22 = some (.ow2 (tabV ds.length (tabF ds z (2 ^ w) j 0))) →
    ∃ ρ', forF (nameU 18) (forE (rangeF [(getAny 18)]) (nameU 23) bodyF) (natI (List.range' j m)) ρ = some (.next ρ') ∧ CF ds w z ρ' ∧ ρ' 22 = some (.ow2 (tabV ds.length (tabF ds z (2 ^ w) ds.length 0))) ∧ KeepF ρ ρ'
  | 0, j, ρ, e, c, h22 => by
    have e : j = ds.length := e
    rw [e] at h22
    exact ⟨ρ, rfl, c, h22, fun _ _ _ => rfl⟩
  | m + 1, j, ρ, e, c, h22 => by
    let ρ0 := upd ρ 18 (.fz (.int (j : Int)))
    obtain ⟨ρ1, b1, b2, b3, b4⟩ := innerF hC D hn5 hds hw hw2 (lt_of_add e) j 0 ρ0 (Nat.zero_add j) (c.upd _ (.inl rfl)) (upd_self _ _ _) (h22)
    have hb : forE (rangeF [(getAny 18)]) (nameU 23) bodyF ρ0 = some (.next ρ1) := by
      have h18 : getAny 18 ρ0 = some (.int (j : Int)) := by simp only [getAny, ρ0, upd_self]
      have hr : rangeF [(getAny 18)] ρ0 = some (natI (List.range j)) := rngB (by unfold argsF argsF; rw [h18]; rfl) (Nat.le_trans (Nat.le_of_lt (lt_of_add e)) (Nat.le_trans hn5 (by decide)))
      unfold forE
      rw [hr, Option.bind_some, List.range_eq_range', b1]
    have e22 : ρ1 22 = some (.ow2 (tabV ds.length (tabF ds z (2 ^ w) (j + 1) 0))) := by
      rw [b3, tab_congr (T' := tabF ds z (2 ^ w) (j + 1) 0) fun a b _ _ => tabF_next D (lt_of_add e) a b]
    obtain ⟨ρ', f1, f2, f3, f4⟩ := outerF hC D hn5 hds hw hw2 m (j + 1) ρ1 ((Nat.succ_add_eq_add_succ j m).trans e) b2 e22
    refine ⟨ρ', ?_, f2, f3, fun k h1 h2 => ?_⟩
    · rw [List.range'_succ]
      show forF (nameU 18) (forE (rangeF [(getAny 18)]) (nameU 23) bodyF) (.int (j : Int) :: natI (List.range' (j + 1) m)) ρ = _
      rw [for_cons (ρ1 := ρ0) rfl hb, f1]
    · rw [f4 k h1 h2, b4 k h1 h2]
      exact upd_ne h1
theorem fill_ok {ds : List Nat} {w : Nat} {z : Int} (hC : chkC ds = true) (D : GoodD ds w z) (hn5 : ds.length ≤ 5) (hds : ∀ d ∈ ds, d ≤ 10) (hw : 1 ≤ w) (hw2 : w ≤ 3000) {ρ : Rho} (c : CF ds w z ρ) (h15 : ρ 15 = some (.fz (.int (ds.length : Int)))) (h22 : ρ 22 = some (.ow2 (tabV ds.length fun _ _ => z))) :
    ∃ ρ', forE (rangeF [(getAny 15)]) (nameU 18) (forE (rangeF [(getAny 18)]) (nameU 23) bodyF) ρ = some (.next ρ') ∧ ρ' 22 = some (.ow2 (tabV ds.length (PZ ds z (2 ^ w) 0))) ∧ KeepF ρ ρ' := by
  have e0 : tabV ds.length (fun _ _ => z) = tabV ds.length (tabF ds z (2 ^ w) 0 0) := tab_congr fun a b _ _ => by
    unfold tabF
    rw [if_neg fun q => q.elim (Nat.not_lt_zero _) fun e => Nat.not_lt_zero _ e.2]
  rw [e0] at h22
  obtain ⟨ρ', f1, f2, f3, f4⟩ := outerF hC D hn5 hds hw hw2 ds.length 0 ρ (by exact Nat.zero_add (List.length ds)) c h22
  refine ⟨ρ', ?_, ?_, f4⟩
  · unfold forE
    rw [rngB (b := ds.length) (argsC (getAny_fz h15) rfl) (Nat.le_trans hn5 (by decide)), Option.bind_some, List.range_eq_range']
    exact f1
  · rw [f3, tab_congr (T' := PZ ds z (2 ^ w) 0) fun a b ha hb => by
      unfold tabF
      rw [if_pos (.inl (Nat.max_lt.mpr ⟨ha, hb⟩))]]
end Mine
end
section
namespace Mine

theorem bits_mulI (a b : Int) : bits (a * b) ≤ bits a + bits b := bitsI_le (by
  rw [Int.natAbs_mul, Nat.pow_add]
  have h1 := lt_bitsI a
  have h2 := lt_bitsI b
  rcases Nat.eq_zero_or_pos b.natAbs with h | h
  · rw [h, Nat.mul_zero]; exact Nat.mul_pos (Nat.two_pow_pos _) (Nat.two_pow_pos _)
  · exact Nat.mul_lt_mul'' h1 h2)
theorem bits_addI {a b : Int} {m : Nat} (ha : bits a ≤ m) (hb : bits b ≤ m) : bits (a + b) ≤ m + 1 := bitsI_le (by
  have h1 := Nat.lt_of_lt_of_le (lt_bitsI a) (Nat.pow_le_pow_right (by decide) ha)
  have h2 := Nat.lt_of_lt_of_le (lt_bitsI b) (Nat.pow_le_pow_right (by decide) hb)
  have := Int.natAbs_add_le a b
  rw [Nat.pow_succ]; grind)
theorem bits_negI (a : Int) : bits (-a) ≤ bits a := bits_mono (by omega)
theorem bits_subI {a b : Int} {m : Nat} (ha : bits a ≤ m) (hb : bits b ≤ m) : bits (a - b) ≤ m + 1 := by
  rw [Int.sub_eq_add_neg]
  exact bits_addI ha (Nat.le_trans (bits_negI b) hb)
theorem bits_powI (a : Int) : ∀ k : Nat, bits (a ^ k) ≤ bits a * k + 1
  | 0 => by simp; decide
  | k + 1 => by
    rw [Int.pow_succ]
    have h1 := bits_mulI (a ^ k) a
    have h2 := bits_powI a k
    rw [Nat.mul_add, Nat.mul_one]; omega
theorem vI_mul {a b : Int} (h : bits a + bits b ≤ LIM) : intV .Mult a b = some (a * b) := by
  show (if bits a + bits b ≤ 134217728 then some (a * b) else none) = _
  rw [if_pos h]

theorem bits_ev {q : Int} {m : Nat} (hq : bits q ≤ m) : ∀ (p : List Int), (∀ c ∈ p, c.natAbs < 1024) → bits (ev p q) ≤ (m + 11) * p.length
  | [], _ => by simp [ev]; decide
  | c :: r, h => by
    have h1 : bits c ≤ 10 := bitsI_le (h c (.head _))
    have h2 := bits_ev hq r fun d hd => h d (.tail _ hd)
    have h3 := bits_mulI q (ev r q)
    rw [ev, List.length_cons, Nat.mul_add, Nat.mul_one]
    have := bits_addI (a := c) (b := q * ev r q) (m := (m + 11) * r.length + m + 10) (by exact Nat.le_add_left_of_le h1) (by omega)
    omega
theorem bits_evL {P : LP} {z q : Int} {m : Nat} (hq : bits q ≤ m) (h1 : smallP P.1 = true) (h2 : smallP P.2 = true) : bits (evL P z q) ≤ bits z + (m + 11) * 8 + 1 := by
  unfold smallP at h1 h2
  simp only [Bool.and_eq_true, decide_eq_true_eq, List.all_eq_true] at h1 h2
  have e1 := bits_ev hq P.1 h1.2
  have e2 := bits_ev hq P.2 h2.2
  have l1 := Nat.mul_le_mul_left (m + 11) h1.1
  have l2 := Nat.mul_le_mul_left (m + 11) h2.1
  have h3 := bits_mulI z (ev P.2 q)
  unfold evL
  exact bits_addI (by omega) (by omega)

/-- what is known of the width and of z -/
structure ZF (w : Nat) (z : Int) : Prop where
  w1 : 2 ≤ w
  w2 : w ≤ 2402
  zb : bits z ≤ 7000
  odd : z.emod 2 = 1
theorem bits_q {w : Nat} {z : Int} (F : ZF w z) : bits ((2 : Int) ^ w) ≤ 2403 := by
  have e : (2 : Int) ^ w = ((2 ^ w : Nat) : Int) := by push_cast; rfl
  rw [e]
  have : bits ((2 ^ w : Nat) : Int) ≤ w + 1 := bits_le (by rw [Nat.pow_succ]; have := Nat.two_pow_pos w; omega)
  have := F.w2
  omega
theorem bits_PZ {ds : List Nat} {w : Nat} {z : Int} (F : ZF w z) (D : GoodD ds w z) {k i j : Nat} (hk : k < ds.length) (hi : i < ds.length) (hj : j < ds.length) : bits (PZ ds z (2 ^ w) k i j) ≤ 30000 := by
  have := D.small k hk i hi j hj
  have h := bits_evL (z := z) (bits_q F) this.1 this.2
  have := F.zb
  unfold PZ
  omega
theorem due_ne {w : Nat} {z : Int} (F : ZF w z) (k : Nat) : dueI k z (2 ^ w) ≠ 0 := by
  have hz := F.odd
  have hz' : z % 2 = 1 := hz
  unfold dueI
  split
  · rintro rfl; cases hz
  · have hq : ((2 : Int) ^ w) % 2 = 0 := by
      obtain ⟨v, hv⟩ : ∃ v, w = v + 1 := ⟨w - 1, by have := F.w1; omega⟩
      rw [hv, Int.pow_succ]; exact Int.mul_emod_left (2 ^ v) 2
    have hq0 : (0 : Int) < 2 ^ w := Int.pow_pos (by decide)
    obtain ⟨q, hqq⟩ : ∃ q, q = (2 : Int) ^ w := ⟨_, rfl⟩
    rw [← hqq] at hq hq0 ⊢
    refine Int.mul_ne_zero (Int.mul_ne_zero ?_ ?_) ?_
    · have : ((-1 : Int) ^ k).natAbs = 1 := by rw [Int.natAbs_pow]; simp
      intro h; rw [h] at this; cases this
    · exact Int.ne_of_gt (Int.pow_pos (by omega))
    · intro h
      obtain ⟨u, hu⟩ : ∃ u, q = 2 * u := ⟨q / 2, by exact Eq.symm (Int.mul_ediv_cancel_of_emod_eq_zero hq)⟩
      obtain ⟨v, hv⟩ : ∃ v, z = 2 * v + 1 := ⟨z / 2, by grind⟩
      obtain ⟨c, hc⟩ : ∃ c : Int, c = (k : Int) := ⟨_, rfl⟩
      rw [← hc, hu, hv] at h
      have e : c + (2 * v + 1) * (c + 1 - (c - 1) * (2 * u)) = 2 * (c + v * (c + 1) - (2 * v + 1) * (c - 1) * u) + 1 := by grind
      rw [e] at h
      grind

theorem sub_tup0 {f : Rho → Option PV} {ρ : Rho} {x y : PV} (hf : f ρ = some (.tuple [x, y])) : subF f (intF 0) ρ = some x := by
  unfold subF
  rw [hf]
  simp only [Option.bind_some, intF, subV]
  rw [if_pos (by decide)]
  rfl
theorem scF_int {f : Rho → Option PV} {ρ : Rho} {a : Int} (h : f ρ = some (.int a)) : scF f ρ = some (.int a) := by unfold scF; rw [h]; rfl

theorem fdiv_rest {b x y : Int} (hb : b ≠ 0) : (b * x + y.fmod b).fdiv b = x ∧ (b * x + y.fmod b).fmod b = y.fmod b := by
  have hm : (b * x + y.fmod b).fmod b = y.fmod b := by
    rw [Int.add_comm, Int.add_mul_fmod_self_left, Int.fmod_fmod]
  refine ⟨?_, hm⟩
  have h := Int.mul_fdiv_add_fmod (b * x + y.fmod b) b
  rw [hm] at h
  exact Int.eq_of_mul_eq_mul_left hb (by omega)
end Mine
end
section
namespace Mine

noncomputable abbrev restE : Rho → Option Out := (seqF (assignF 33 (binF .Mod (binF .Add (intF 5) (getAny 1)) (getAny 28)))
  (seqF (assignF 34 (callF F70 [(binF .Add (getAny 32) (getAny 33)), (getAny 28)]))
  (seqF (ifF (orL [(neDF (getAny 34) (tupF [(subF (getAny 34) (intF 0)), (getAny 33)])), (cmpF .NotEq (binF .Mult (subF (getAny 34) (intF 0)) (getAny 28)) (getAny 32))]) (retF (boolF false)) passF)
  (assignF 32 (scF (subF (getAny 34) (intF 0)))))))
noncomputable abbrev bodyE : Rho → Option Out := (seqF (assignF 32 (binF .Sub (binF .Mult (subF (subF (getAny 22) (getAny 23)) (getAny 18)) (getAny 30)) (binF .Mult (subF (subF (getAny 22) (getAny 23)) (getAny 29)) (subF (subF (getAny 22) (getAny 29)) (getAny 18)))))
  (seqF (ifF (cmpF .Gt (getAny 29) (intF 0)) restE passF)
  (seqF (set2F 22 (getAny 23) (getAny 18) (getAny 32))
  (set2F 22 (getAny 18) (getAny 23) (getAny 32)))))

/-- a division leaves just its rest -/
theorem restE_ok {ρ : Rho} {total X bef : Int} (h1 : ρ 1 = some (.fz (.int total))) (h28 : ρ 28 = some (.fz (.int bef))) (h32 : ρ 32 = some (.fz (.int (bef * X)))) (hb : bef ≠ 0) (hbb : bits bef ≤ 30000) (hX : bits X ≤ 30000) :
    ∃ a b, restE ρ = some (.next (upd (upd (upd ρ 33 a) 34 b) 32 (.fz (.int X)))) := by
  obtain ⟨rest, hrest⟩ : ∃ rest, rest = (5 + total).fmod bef := ⟨_, rfl⟩
  have s1 : binF .Mod (binF .Add (intF 5) (getAny 1)) (getAny 28) ρ = some (.int rest) := by
    have g1 : getAny 1 ρ = some (.int total) := (getAny_fz h1)
    have g28 : getAny 28 ρ = some (.int bef) := (getAny_fz h28)
    refine binI (binI (a := 5) rfl g1 rfl) g28 ?_
    show (if bef ≠ 0 then some ((5 + total).fmod bef) else none) = _
    rw [if_pos hb, hrest]
  let ρ1 := upd ρ 33 (.fz (.int rest))
  have k28 : getAny 28 ρ1 = some (.int bef) := (getAny_fz h28)
  have k32 : getAny 32 ρ1 = some (.int (bef * X)) := (getAny_fz h32)
  have k33 : getAny 33 ρ1 = some (.int rest) := rfl
  have hrb : bits rest ≤ 30000 := by
    refine Nat.le_trans (bits_mono ?_) hbb
    rw [hrest]
    rcases Int.lt_or_gt_of_ne hb with h | h
    · have h1 := Int.fmod_def (5 + total) bef
      have h2 : (5 + total).fmod bef = -((-(5 + total)).fmod (-bef)) := by
        rw [Int.fmod_def, Int.fmod_def, Int.neg_fdiv_neg, Int.neg_mul]; grind
      have h3 := Int.fmod_nonneg_of_pos (-(5 + total)) (show 0 < -bef by exact Int.neg_pos_of_neg h)
      have h4 := Int.fmod_lt_of_pos (-(5 + total)) (show 0 < -bef by exact Int.neg_pos_of_neg h)
      exact natAbs_fmod_le (5 + total) bef hb
    · have h3 := Int.fmod_nonneg_of_pos (5 + total) h
      have h4 := Int.fmod_lt_of_pos (5 + total) h
      exact natAbs_fmod_le (5 + total) bef hb
  have htop := bits_mulI bef X
  have hsum := bits_addI (a := bef * X) (b := rest) (m := 60000) (by grind) (by omega)
  have hd := fdiv_rest (b := bef) (x := X) (y := 5 + total) hb
  rw [← hrest] at hd
  have g := F70_ok (a := bef * X + rest) (b := bef) hb (by omega)
  rw [hd.1, hd.2] at g
  have s2 : callF F70 [(binF .Add (getAny 32) (getAny 33)), (getAny 28)] ρ1 = some (.tuple [.int X, .int rest]) := call2 (binI k32 k33 rfl) k28 g
  let ρ2 := upd ρ1 34 (.fz (.tuple [.int X, .int rest]))
  have m34 : getAny 34 ρ2 = some (.tuple [.int X, .int rest]) := rfl
  have m28 : getAny 28 ρ2 = some (.int bef) := (getAny_fz h28)
  have m32 : getAny 32 ρ2 = some (.int (bef * X)) := (getAny_fz h32)
  have m33 : getAny 33 ρ2 = some (.int rest) := rfl
  have s3 := sub_tup0 m34
  have t1 := neD_same (ρ := ρ2) (x := .tuple [.int X, .int rest]) m34 (tupF2 s3 m33 rfl rfl) (shaped_tup rfl)
  have t2 : cmpF .NotEq (binF .Mult (subF (getAny 34) (intF 0)) (getAny 28)) (getAny 32) ρ2 = some false :=
    cmpI (binI s3 m28 (vI_mul (by have : LIM = 134217728 := rfl; grind))) m32 (by rw [Int.mul_comm]; simp [cmpV, cmpII, cmpSS, cmpBB, cmpNN])
  refine ⟨.fz (.int rest), .fz (.tuple [.int X, .int rest]), ?_⟩
  unfold restE
  rw [seq_next (assign_ok s1), seq_next (assign_ok s2), seq_next (f := ifF _ _ _) (ρ' := ρ2) (by rw [if_no (or_no t1 (or_no t2 or_nil))]; rfl), assign_ok (scF_int s3)]

theorem turnE {ds : List Nat} {w : Nat} {z total bef : Int} (F : ZF w z) (D : GoodD ds w z) (hn5 : ds.length ≤ 5) {ρ : Rho} {k i j : Nat} {T : Tab} (hki : k < i) (hij : i ≤ j) (hj : j < ds.length)
    (h1 : ρ 1 = some (.fz (.int total))) (h28 : ρ 28 = some (.fz (.int bef))) (hbef : bef = if k = 0 then 1 else PZ ds z (2 ^ w) (k - 1) (k - 1) (k - 1)) (h29 : ρ 29 = some (.fz (.int (k : Int)))) (h30 : ρ 30 = some (.fz (.int (PZ ds z (2 ^ w) k k k))))
    (h23 : ρ 23 = some (.fz (.int (i : Int)))) (h18 : ρ 18 = some (.fz (.int (j : Int)))) (h22 : ρ 22 = some (.ow2 (tabV ds.length T))) (t1 : T i j = PZ ds z (2 ^ w) k i j) (t2 : T i k = PZ ds z (2 ^ w) k i k) (t3 : T k j = PZ ds z (2 ^ w) k k j) :
    ∃ ρ', bodyE ρ = some (.next ρ') ∧ ρ' 22 = some (.ow2 (tabV ds.length (setT (setT T i j (PZ ds z (2 ^ w) (k + 1) i j)) j i (PZ ds z (2 ^ w) (k + 1) i j)))) ∧ ∀ a, a ≠ 22 → a ≠ 32 → a ≠ 33 → a ≠ 34 → ρ' a = ρ a := by
  have hL : LIM = 134217728 := rfl
  have g23 : getAny 23 ρ = some (.int (i : Int)) := (getAny_fz h23)
  have g18 : getAny 18 ρ = some (.int (j : Int)) := (getAny_fz h18)
  have g29 : getAny 29 ρ = some (.int (k : Int)) := (getAny_fz h29)
  have g30 : getAny 30 ρ = some (.int (PZ ds z (2 ^ w) k k k)) := (getAny_fz h30)
  have e1 := get2_ok h22 g23 g18 (by exact Nat.lt_of_le_of_lt hij hj) hj (by grind)
  have e2 := get2_ok h22 g23 g29 (by exact Nat.lt_of_le_of_lt hij hj) (by omega) (by omega)
  have e3 := get2_ok h22 g29 g18 (by omega) hj (by omega)
  rw [t1] at e1
  rw [t2] at e2
  rw [t3] at e3
  have b1 := bits_PZ F D (k := k) (i := i) (j := j) (by omega) (by exact Nat.lt_of_le_of_lt hij hj) hj
  have b2 := bits_PZ F D (k := k) (i := k) (j := k) (by omega) (by omega) (by omega)
  have b3 := bits_PZ F D (k := k) (i := i) (j := k) (by omega) (by omega) (by omega)
  have b4 := bits_PZ F D (k := k) (i := k) (j := j) (by omega) (by omega) hj
  have b5 := bits_PZ F D (k := k + 1) (i := i) (j := j) (by omega) (by omega) hj
  have hst := D.step k (by omega) i j hki hij hj
  rw [← hbef] at hst
  have hbb : bits bef ≤ 30000 := by
    rw [hbef]
    split
    · decide
    · exact bits_PZ F D (by omega) (by omega) (by omega)
  have hbne : bef ≠ 0 := by
    rw [hbef]
    split
    · decide
    · rw [D.due (k - 1) (by omega)]; exact due_ne F _
  obtain ⟨X, hX⟩ : ∃ X, X = PZ ds z (2 ^ w) (k + 1) i j := ⟨_, rfl⟩
  rw [← hX] at hst b5 ⊢
  have s1 : binF .Sub (binF .Mult (subF (subF (getAny 22) (getAny 23)) (getAny 18)) (getAny 30)) (binF .Mult (subF (subF (getAny 22) (getAny 23)) (getAny 29)) (subF (subF (getAny 22) (getAny 29)) (getAny 18))) ρ = some (.int (bef * X)) := by
    rw [← hst]
    exact binI (binI e1 g30 (vI_mul (by omega))) (binI e2 e3 (vI_mul (by omega))) rfl
  let ρ1 := upd ρ 32 (.fz (.int (bef * X)))
  have k29 : getAny 29 ρ1 = some (.int (k : Int)) := (getAny_fz h29)
  -- behind the division
  have mid : ∃ ρ2, ifF (cmpF .Gt (getAny 29) (intF 0)) restE passF ρ1 = some (.next ρ2) ∧ ρ2 32 = some (.fz (.int X)) ∧ ∀ a, a ≠ 32 → a ≠ 33 → a ≠ 34 → ρ2 a = ρ a := by
    have hc : cmpF .Gt (getAny 29) (intF 0) ρ1 = some (decide ((0 : Int) < k)) := cmpI k29 rfl rfl
    by_cases hk : k = 0
    · rw [decide_eq_false (by omega)] at hc
      rw [if_pos hk] at hbef
      refine ⟨ρ1, by rw [if_no hc]; rfl, ?_, fun a h _ _ => upd_ne h⟩
      have he : bef * X = X := by rw [hbef, Int.one_mul]
      show upd ρ 32 (.fz (.int (bef * X))) 32 = _
      rw [he]; exact upd_self _ _ _
    · rw [decide_eq_true (by omega)] at hc
      obtain ⟨a, b, e⟩ := restE_ok (ρ := ρ1) (total := total) (X := X) (bef := bef) (h1) (h28) (upd_self _ _ _) hbne hbb b5
      refine ⟨_, by rw [if_yes hc]; exact e, upd_self _ _ _, fun c h1 h2 h3 => ?_⟩
      rw [upd_ne h1, upd_ne h3, upd_ne h2]
      exact upd_ne h1
  obtain ⟨ρ2, m1, m2, m3⟩ := mid
  have m22 : ρ2 22 = some (.ow2 (tabV ds.length T)) := by rw [m3 22 (by decide) (by decide) (by decide)]; exact h22
  have m23 : getAny 23 ρ2 = some (.int (i : Int)) := by
    have := m3 23 (by decide) (by decide) (by decide)
    simp only [getAny, this, h23]
  have m18 : getAny 18 ρ2 = some (.int (j : Int)) := by
    have := m3 18 (by decide) (by decide) (by decide)
    simp only [getAny, this, h18]
  have m32 : getAny 32 ρ2 = some (.int X) := (getAny_fz m2)
  have s5 := set2_ok m22 m32 m23 m18 (by omega) hj (by omega)
  let ρ3 := upd ρ2 22 (.ow2 (tabV ds.length (setT T i j X)))
  have n22 : ρ3 22 = some (.ow2 (tabV ds.length (setT T i j X))) := upd_self _ _ _
  have ne : ∀ a, a ≠ 22 → getAny a ρ3 = getAny a ρ2 := fun a h => by simp only [getAny, ρ3, upd_ne h]
  have s6 := set2_ok n22 ((ne 32 (by decide)).trans m32) ((ne 18 (by decide)).trans m18) ((ne 23 (by decide)).trans m23) hj (by omega) (by omega)
  refine ⟨upd ρ3 22 (.ow2 (tabV ds.length (setT (setT T i j X) j i X))), ?_, upd_self _ _ _, fun a h1 h2 h3 h4 => ?_⟩
  · unfold bodyE
    rw [seq_next (assign_ok s1), seq_next m1, seq_next s5]
    exact s6
  · rw [upd_ne h1]
    show upd ρ2 22 _ a = _
    rw [upd_ne h1, m3 a h2 h3 h4]
end Mine
end
section
namespace Mine

noncomputable def stT (ds : List Nat) (z q : Int) (k : Nat) : Tab := fun a b => PZ ds z q (min k (min a b)) a b
noncomputable def tabE (ds : List Nat) (z q : Int) (k i j : Nat) : Tab := fun a b => if k < min a b ∧ (min a b < i ∨ (min a b = i ∧ max a b < j)) then PZ ds z q (k + 1) a b else PZ ds z q (min k (min a b)) a b
theorem e_start {k x y : Nat} (h : x ≤ y) : ¬ (k < x ∧ (x < k + 1 ∨ (x = k + 1 ∧ y < k + 1))) := fun ⟨h1, h2⟩ =>
  h2.elim (fun h => Nat.not_lt_of_le (Nat.le_of_lt_succ h) h1) fun e => Nat.lt_irrefl _ (Nat.lt_of_le_of_lt (e.1 ▸ h) e.2)
theorem e_row {i n x y : Nat} (h : x ≤ y) (hy : y < n) : (x < i ∨ (x = i ∧ y < n)) ↔ (x < i + 1 ∨ (x = i + 1 ∧ y < i + 1)) :=
  ⟨fun h => .inl (h.elim Nat.lt_succ_of_lt fun e => Nat.lt_succ_of_le (Nat.le_of_eq e.1)), fun q => q.elim (fun q => (Nat.lt_or_eq_of_le (Nat.le_of_lt_succ q)).imp id fun e => ⟨e, hy⟩) fun e => (Nat.lt_irrefl _ (Nat.lt_of_le_of_lt (e.1 ▸ h) e.2)).elim⟩
theorem tabE_start {ds : List Nat} {z q : Int} {k : Nat} (a b : Nat) : stT ds z q k a b = tabE ds z q k (k + 1) (k + 1) a b := (if_neg (e_start (mm_le a b))).symm
theorem tabE_end {ds : List Nat} {z q : Int} {k i : Nat} (a b : Nat) (ha : a < ds.length) (hb : b < ds.length) (hi : ds.length ≤ i) : tabE ds z q k i i a b = stT ds z q (k + 1) a b := by
  unfold stT tabE
  by_cases h : k < min a b
  · rw [if_pos ⟨h, .inl (Nat.lt_of_lt_of_le (Nat.lt_of_le_of_lt (Nat.min_le_left a b) ha) hi)⟩, Nat.min_eq_left h]
  · rw [if_neg fun q => h q.1, Nat.min_eq_right (Nat.le_succ_of_le (Nat.le_of_not_lt h)), Nat.min_eq_right (Nat.le_of_not_lt h)]
theorem tabE_row {ds : List Nat} {z q : Int} {k i : Nat} (a b : Nat) (ha : a < ds.length) (hb : b < ds.length) : tabE ds z q k i ds.length a b = tabE ds z q k (i + 1) (i + 1) a b :=
  if_iff (and_congr_right fun _ => e_row (mm_le a b) (Nat.max_lt.mpr ⟨ha, hb⟩))
theorem tabE_at {ds : List Nat} {z q : Int} {k i j a b : Nat} (h1 : min a b = i) (h2 : max a b = j) (hk : k < i) : tabE ds z q k i (j + 1) a b = PZ ds z q (k + 1) a b :=
  if_pos ⟨h1 ▸ hk, .inr ⟨h1, h2 ▸ Nat.lt_succ_self _⟩⟩
theorem tabE_not {ds : List Nat} {z q : Int} {k i j a b x : Nat} (h : min a b = x) (hx : x ≤ k) : tabE ds z q k i j a b = PZ ds z q x a b := by
  unfold tabE
  rw [h, if_neg fun q => Nat.not_lt_of_le hx q.1, Nat.min_eq_right hx]
theorem tabE_step {ds : List Nat} {z q : Int} {k i j : Nat} (hki : k < i) (hij : i ≤ j) (a b : Nat) : setT (setT (tabE ds z q k i j) i j (PZ ds z q (k + 1) i j)) j i (PZ ds z q (k + 1) i j) a b = tabE ds z q k i (j + 1) a b := by
  unfold setT
  by_cases h1 : a = j ∧ b = i
  · rw [if_pos h1, h1.1, h1.2, tabE_at (Nat.min_eq_right hij) (Nat.max_eq_left hij) hki, PZ_symm]
  · rw [if_neg h1]
    by_cases h2 : a = i ∧ b = j
    · rw [if_pos h2, h2.1, h2.2, tabE_at (Nat.min_eq_left hij) (Nat.max_eq_right hij) hki]
    · rw [if_neg h2]
      exact if_iff (and_congr_right fun _ => e_step fun e => (mm_eq e.1 e.2).elim h2 h1)

theorem tabE_cur {ds : List Nat} {z q : Int} {k i j : Nat} (hki : k < i) (hij : i ≤ j) : tabE ds z q k i j i j = PZ ds z q k i j := by
  unfold tabE
  rw [Nat.min_eq_left hij, Nat.max_eq_right hij, if_neg fun h => h.2.elim (Nat.lt_irrefl _) fun e => Nat.lt_irrefl _ e.2, Nat.min_eq_left (Nat.le_of_lt hki)]
structure CS (ds : List Nat) (w : Nat) (z total bef : Int) (k : Nat) (ρ : Rho) : Prop where
  h1 : ρ 1 = some (.fz (.int total))
  h15 : ρ 15 = some (.fz (.int (ds.length : Int)))
  h28 : ρ 28 = some (.fz (.int bef))
  h29 : ρ 29 = some (.fz (.int (k : Int)))
  h30 : ρ 30 = some (.fz (.int (PZ ds z (2 ^ w) k k k)))
noncomputable def KeepE (ρ ρ' : Rho) : Prop := ∀ a, a ≠ 18 → a ≠ 22 → a ≠ 23 → a ≠ 32 → a ≠ 33 → a ≠ 34 → ρ' a = ρ a
theorem CS.keep {ds : List Nat} {w : Nat} {z total bef : Int} {k : Nat} {ρ ρ' : Rho} (c : CS ds w z total bef k ρ) (h : KeepE ρ ρ') : CS ds w z total bef k ρ' :=
  ⟨by rw [h 1 (by decide) (by decide) (by decide) (by decide) (by decide) (by decide)]; exact c.h1, by rw [h 15 (by decide) (by decide) (by decide) (by decide) (by decide) (by decide)]; exact c.h15, by rw [h 28 (by decide) (by decide) (by decide) (by decide) (by decide) (by decide)]; exact c.h28,
    by rw [h 29 (by decide) (by decide) (by decide) (by decide) (by decide) (by decide)]; exact c.h29, by rw [h 30 (by decide) (by decide) (by decide) (by decide) (by decide) (by decide)]; exact c.h30⟩
theorem KeepE.trans {a b c : Rho} (x : KeepE a b) (y : KeepE b c) : KeepE a c := fun i h1 h2 h3 h4 h5 h6 => (y i h1 h2 h3 h4 h5 h6).trans (x i h1 h2 h3 h4 h5 h6)

theorem innerE {ds : List Nat} {w : Nat} {z total bef : Int} (F : ZF w z) (D : GoodD ds w z) (hn5 : ds.length ≤ 5) {k i : Nat} (hki : k < i) (hbef : bef = if k = 0 then 1 else PZ ds z (2 ^ w) (k - 1) (k - 1) (k - 1)) : ∀ (m j : Nat) (ρ : Rho), j + m = ds.length → i ≤ j → CS ds w z total bef k ρ → ρ 23 = some (.fz (.int (i : Int))) → ρ 22 = some (.ow2 (tabV ds.length (tabE ds z (2 ^ w) k i j))) →
    ∃ ρ', forF (nameU 18) bodyE (natI (List.range' j m)) ρ = some (.next ρ') ∧ ρ' 22 = some (.ow2 (tabV ds.length (tabE ds z (2 ^ w) k i ds.length))) ∧ KeepE ρ ρ' ∧ ρ' 23 = ρ 23
  | 0, j, ρ, e, hij, c, h23, h22 => by
    have : j = ds.length := by omega
    rw [this] at h22
    exact ⟨ρ, rfl, h22, fun _ _ _ _ _ _ _ => rfl, rfl⟩
  | m + 1, j, ρ, e, hij, c, h23, h22 => by
    let ρ0 := upd ρ 18 (.fz (.int (j : Int)))
    have c0 : CS ds w z total bef k ρ0 := c.keep fun a h _ _ _ _ _ => upd_ne h
    obtain ⟨ρ1, b1, b2, b3⟩ := turnE F D hn5 (T := tabE ds z (2 ^ w) k i j) hki hij (by grind) c0.h1 c0.h28 hbef c0.h29 c0.h30 (h23) (upd_self _ _ _) (h22)
      (tabE_cur hki hij) (tabE_not (Nat.min_eq_right (Nat.le_of_lt hki)) (Nat.le_refl k)) (tabE_not (Nat.min_eq_left (Nat.le_trans (Nat.le_of_lt hki) hij)) (Nat.le_refl k))
    rw [tab_congr (T' := tabE ds z (2 ^ w) k i (j + 1)) fun a b _ _ => tabE_step hki hij a b] at b2
    have hk1 : KeepE ρ ρ1 := fun a h1 h2 h3 h4 h5 h6 => by rw [b3 a h2 h4 h5 h6]; exact upd_ne h1
    have h23' : ρ1 23 = some (.fz (.int (i : Int))) := by rw [b3 23 (by decide) (by decide) (by decide) (by decide)]; simp [ρ0, upd_at, h23]
    obtain ⟨ρ', f1, f2, f3, f4⟩ := innerE F D hn5 hki hbef m (j + 1) ρ1 (by grind) (by exact Nat.le_add_right_of_le hij) (c.keep hk1) h23' b2
    refine ⟨ρ', ?_, f2, hk1.trans f3, f4.trans (h23'.trans h23.symm)⟩
    rw [List.range'_succ]
    show forF (nameU 18) bodyE (.int (j : Int) :: natI (List.range' (j + 1) m)) ρ = _
    rw [for_cons (ρ1 := ρ0) rfl b1, f1]

noncomputable abbrev rowE : Rho → Option Out := forE (rangeF [(getAny 23), (getAny 15)]) (nameU 18) bodyE
theorem range_eq (a b : Nat) : (List.range (b - a)).map (a + ·) = List.range' a (b - a) := by
  rw [List.range'_eq_map_range]
theorem middleE {ds : List Nat} {w : Nat} {z total bef : Int} (F : ZF w z) (D : GoodD ds w z) (hn5 : ds.length ≤ 5) {k : Nat} (hbef : bef = if k = 0 then 1 else PZ ds z (2 ^ w) (k - 1) (k - 1) (k - 1)) : ∀ (m i : Nat) (ρ : Rho), i + m = ds.length → k < i → CS ds w z total bef k ρ → ρ 22 = some (.ow2 (tabV ds.length (tabE ds z (2 ^ w) k i i))) →
    ∃ ρ', forF (nameU 23) rowE (natI (List.range' i m)) ρ = some (.next ρ') ∧ ρ' 22 = some (.ow2 (tabV ds.length (stT ds z (2 ^ w) (k + 1)))) ∧ KeepE ρ ρ'
  | 0, i, ρ, e, hki, c, h22 => by
    rw [tab_congr (T' := stT ds z (2 ^ w) (k + 1)) fun a b ha hb => tabE_end a b ha hb (by exact Nat.le_of_eq (id (Eq.symm e)))] at h22
    exact ⟨ρ, rfl, h22, fun _ _ _ _ _ _ _ => rfl⟩
  | m + 1, i, ρ, e, hki, c, h22 => by
    let ρ0 := upd ρ 23 (.fz (.int (i : Int)))
    have c0 : CS ds w z total bef k ρ0 := c.keep fun a _ _ h _ _ _ => upd_ne h
    obtain ⟨ρ1, b1, b2, b3, b4⟩ := innerE F D hn5 hki hbef (ds.length - i) i ρ0 (by omega) (Nat.le_refl _) c0 (upd_self _ _ _) (h22)
    rw [tab_congr (T' := tabE ds z (2 ^ w) k (i + 1) (i + 1)) fun a b ha hb => tabE_row a b ha hb] at b2
    have hr : rowE ρ0 = some (.next ρ1) := by
      have h23 : getAny 23 ρ0 = some (.int (i : Int)) := by simp only [getAny, ρ0, upd_self]
      have h15 : getAny 15 ρ0 = some (.int (ds.length : Int)) := (getAny_fz c0.h15)
      have hg := rngAB (a := i) (b := ds.length) (fs := [(getAny 23), (getAny 15)]) (ρ := ρ0) (by unfold argsF argsF argsF; rw [h23, h15]; rfl) (by exact Nat.le.intro e) (by grind)
      unfold rowE forE
      rw [hg, Option.bind_some, range_eq, b1]
    have hk1 : KeepE ρ ρ1 := fun a h1 h2 h3 h4 h5 h6 => by rw [b3 a h1 h2 h3 h4 h5 h6]; exact upd_ne h3
    obtain ⟨ρ', f1, f2, f3⟩ := middleE F D hn5 hbef m (i + 1) ρ1 (by grind) (by exact Nat.lt_add_right 1 hki) (c.keep hk1) b2
    refine ⟨ρ', ?_, f2, hk1.trans f3⟩
    rw [List.range'_succ]
    show forF (nameU 23) rowE (.int (i : Int) :: natI (List.range' (i + 1) m)) ρ = _
    rw [for_cons (ρ1 := ρ0) rfl hr, f1]

noncomputable abbrev dueF : Rho → Option PV := (binF .Mult (binF .Mult (binF .Pow (unF .USub (intF 1)) (getAny 29)) (binF .Pow (binF .Add (intF 1) (getAny 27)) (binF .Sub (getAny 29) (intF 1)))) (binF .Add (getAny 29) (binF .Mult (getAny 21) (binF .Sub (binF .Add (getAny 29) (intF 1)) (binF .Mult (binF .Sub (getAny 29) (intF 1)) (getAny 27))))))
theorem vI_pow {a b : Int} (h0 : 0 ≤ b) (h : (bits a : Int) * b ≤ 134217728) : intV .Pow a b = some (a ^ b.toNat) := by
  show (if 0 ≤ b ∧ (bits a : Int) * b ≤ 134217728 then some (a ^ b.toNat) else none) = _
  rw [if_pos ⟨h0, h⟩]
theorem bits_mul_le {a b : Int} {m n : Nat} (ha : bits a ≤ m) (hb : bits b ≤ n) : bits (a * b) ≤ m + n := Nat.le_trans (bits_mulI a b) (Nat.add_le_add ha hb)
theorem bits_pow_le {a : Int} {m k j : Nat} (ha : bits a ≤ m) (hk : k ≤ j) : bits (a ^ k) ≤ m * j + 1 := Nat.le_trans (bits_powI a k) (Nat.succ_le_succ (Nat.mul_le_mul ha hk))
theorem vI_mul_le {a b : Int} {m n : Nat} (ha : bits a ≤ m) (hb : bits b ≤ n) (h : Nat.ble (m + n) 134217728 = true) : intV .Mult a b = some (a * b) := vI_mul (Nat.le_trans (Nat.add_le_add ha hb) (Nat.le_of_ble_eq_true h))
theorem vI_powN {a : Int} {k m j : Nat} (ha : bits a ≤ m) (hk : k ≤ j) (h : Nat.ble (m * j) 134217728 = true) : intV .Pow a (k : Int) = some (a ^ k) := by
  rw [vI_pow (Int.natCast_nonneg k) (by rw [← Int.natCast_mul]; exact Int.ofNat_le.mpr (Nat.le_trans (Nat.mul_le_mul ha hk) (Nat.le_of_ble_eq_true h))), Int.toNat_natCast]
theorem dueF_ok {w : Nat} {z : Int} (F : ZF w z) {k : Nat} (hk : 1 ≤ k) (hk5 : k ≤ 5) {ρ : Rho} (h29 : ρ 29 = some (.fz (.int (k : Int)))) (h27 : ρ 27 = some (.fz (.int (2 ^ w)))) (h21 : ρ 21 = some (.fz (.int z))) : dueF ρ = some (.int (dueI k z (2 ^ w))) := by
  have hq := bits_q F
  have hz := F.zb
  unfold dueI
  generalize (2 : Int) ^ w = q at hq h27 ⊢
  rw [if_neg (Nat.ne_of_gt hk)]
  have g29 : getAny 29 ρ = some (.int (k : Int)) := getAny_fz h29
  have g27 : getAny 27 ρ = some (.int q) := getAny_fz h27
  have bk : bits (k : Int) ≤ 20 := bits_small (Nat.le_trans hk5 (by decide))
  have bk1 := bits_subI (b := 1) bk (by decide)
  have b3 := bits_addI (a := 1) (b := q) (m := 2403) (by decide) hq
  have b7 := bits_mul_le bk1 hq
  have b8 := bits_subI (m := 2424) (Nat.le_trans (bits_addI (b := 1) bk (by decide)) (by decide)) b7
  have hk1 : ((k : Int) - 1) = ((k - 1 : Nat) : Int) := (Int.ofNat_sub hk).symm
  exact binI (binI (binI (a := -1) rfl g29 (vI_powN (m := 1) (by decide) hk5 rfl)) (binI (binI rfl g27 rfl) (binI g29 rfl rfl) (by rw [hk1]; exact vI_powN b3 (Nat.le_trans (Nat.sub_le k 1) hk5) rfl)) (vI_mul_le (bits_pow_le (m := 1) (by decide) hk5) (bits_pow_le b3 (Nat.le_trans (Nat.sub_le k 1) hk5)) rfl))
    (binI g29 (binI (getAny_fz h21) (binI (binI g29 rfl rfl) (binI (binI g29 rfl rfl) g27 (vI_mul_le bk1 hq rfl)) rfl) (vI_mul_le hz b8 rfl)) rfl) (vI_mul_le (bits_mul_le (bits_pow_le (m := 1) (by decide) hk5) (bits_pow_le b3 (Nat.le_trans (Nat.sub_le k 1) hk5))) (bits_addI (m := 9425) (Nat.le_trans bk (by decide)) (bits_mul_le hz b8)) rfl)
end Mine
end
section
namespace Mine

noncomputable abbrev bodyK : Rho → Option Out := (seqF (assignF 30 (scF (subF (subF (getAny 22) (getAny 29)) (getAny 29))))
  (seqF (assignF 31 (getFz 21))
  (seqF (ifF (cmpF .Gt (getAny 29) (intF 0)) (assignF 31 dueF) passF)
  (seqF (ifF (cmpF .NotEq (getAny 30) (getAny 31)) (retF (boolF false)) passF)
  (seqF (forE (rangeF [(binF .Add (getAny 29) (intF 1)), (getAny 15)]) (nameU 23) rowE)
  (assignF 28 (getFz 30)))))))
structure CK (ds : List Nat) (w : Nat) (z total : Int) (ρ : Rho) : Prop where
  h1 : ρ 1 = some (.fz (.int total))
  h15 : ρ 15 = some (.fz (.int (ds.length : Int)))
  h21 : ρ 21 = some (.fz (.int z))
  h27 : ρ 27 = some (.fz (.int (2 ^ w)))
noncomputable def befI (ds : List Nat) (w : Nat) (z : Int) (k : Nat) : Int := if k = 0 then 1 else PZ ds z (2 ^ w) (k - 1) (k - 1) (k - 1)

theorem turnK {ds : List Nat} {w : Nat} {z total : Int} (F : ZF w z) (D : GoodD ds w z) (hn5 : ds.length ≤ 5) {k : Nat} (hk : k < ds.length) {ρ : Rho} (c : CK ds w z total ρ) (h29 : ρ 29 = some (.fz (.int (k : Int)))) (h28 : ρ 28 = some (.fz (.int (befI ds w z k)))) (h22 : ρ 22 = some (.ow2 (tabV ds.length (stT ds z (2 ^ w) k)))) :
    ∃ ρ', bodyK ρ = some (.next ρ') ∧ CK ds w z total ρ' ∧ ρ' 28 = some (.fz (.int (befI ds w z (k + 1)))) ∧ ρ' 22 = some (.ow2 (tabV ds.length (stT ds z (2 ^ w) (k + 1)))) := by
  have g29 : getAny 29 ρ = some (.int (k : Int)) := (getAny_fz h29)
  have e1 := get2_ok h22 g29 g29 hk hk (by grind)
  have hs : stT ds z (2 ^ w) k k k = PZ ds z (2 ^ w) k k k := by unfold stT; rw [show min k (min k k) = k by grind]
  rw [hs] at e1
  obtain ⟨pv, hpv⟩ : ∃ pv, pv = PZ ds z (2 ^ w) k k k := ⟨_, rfl⟩
  have hdue := D.due k hk
  rw [← hpv] at e1 hdue
  let ρ1 := upd (upd ρ 30 (.fz (.int pv))) 31 (.fz (.int z))
  have s1 : getFz 21 (upd ρ 30 (.fz (.int pv))) = some (.int z) := (getFz_fz c.h21)
  have k29 : ρ1 29 = some (.fz (.int (k : Int))) := h29
  have hd : ∃ ρ2, ifF (cmpF .Gt (getAny 29) (intF 0)) (assignF 31 dueF) passF ρ1 = some (.next ρ2) ∧ ρ2 31 = some (.fz (.int pv)) ∧ ∀ a, a ≠ 31 → ρ2 a = ρ1 a := by
    have hc : cmpF .Gt (getAny 29) (intF 0) ρ1 = some (decide ((0 : Int) < k)) := cmpI ((getAny_fz k29)) rfl rfl
    by_cases h0 : k = 0
    · rw [decide_eq_false (by grind)] at hc
      refine ⟨ρ1, by rw [if_no hc]; rfl, ?_, fun _ _ => rfl⟩
      have : pv = z := by rw [hdue]; unfold dueI; rw [if_pos h0]
      rw [this]; exact upd_self _ _ _
    · rw [decide_eq_true (by grind)] at hc
      have hdf := dueF_ok F (k := k) (by grind) (by omega) (ρ := ρ1) k29 (c.h27) (c.h21)
      rw [← hdue] at hdf
      exact ⟨_, by rw [if_yes hc, assign_ok hdf], upd_self _ _ _, fun a h => upd_ne h⟩
  obtain ⟨ρ2, d1, d2, d3⟩ := hd
  have m30 : ρ2 30 = some (.fz (.int pv)) := by rw [d3 30 (by decide)]; simp [ρ1, upd_at]
  have keep2 : ∀ a, a ≠ 30 → a ≠ 31 → ρ2 a = ρ a := fun a h1 h2 => by
    rw [d3 a h2]
    show upd (upd ρ 30 _) 31 _ a = _
    rw [upd_ne h2, upd_ne h1]
  have t1 : cmpF .NotEq (getAny 30) (getAny 31) ρ2 = some false := cmpI (a := pv) (b := pv) ((getAny_fz m30)) ((getAny_fz d2)) (by simp [cmpV, cmpII, cmpSS, cmpBB, cmpNN])
  have cs : CS ds w z total (befI ds w z k) k ρ2 := ⟨by rw [keep2 1 (by decide) (by decide)]; exact c.h1, by rw [keep2 15 (by decide) (by decide)]; exact c.h15, by rw [keep2 28 (by decide) (by decide)]; exact h28, by rw [keep2 29 (by decide) (by decide)]; exact h29, by rw [m30, hpv]⟩
  have m22 : ρ2 22 = some (.ow2 (tabV ds.length (tabE ds z (2 ^ w) k (k + 1) (k + 1)))) := by
    rw [keep2 22 (by decide) (by decide), h22, tab_congr (T' := tabE ds z (2 ^ w) k (k + 1) (k + 1)) fun a b _ _ => tabE_start a b]
  obtain ⟨ρ3, f1, f2, f3⟩ := middleE F D hn5 (bef := befI ds w z k) rfl (ds.length - (k + 1)) (k + 1) ρ2 (by exact Nat.add_sub_of_le hk) (by exact Nat.lt_add_one k) cs m22
  have hfor : forE (rangeF [(binF .Add (getAny 29) (intF 1)), (getAny 15)]) (nameU 23) rowE ρ2 = some (.next ρ3) := by
    have a1 : binF .Add (getAny 29) (intF 1) ρ2 = some (.int ((k + 1 : Nat) : Int)) := binI ((getAny_fz cs.h29)) rfl (v_add k 1)
    have a2 : getAny 15 ρ2 = some (.int (ds.length : Int)) := (getAny_fz cs.h15)
    have hg := rngAB (a := k + 1) (b := ds.length) (fs := [(binF .Add (getAny 29) (intF 1)), (getAny 15)]) (ρ := ρ2) (by unfold argsF argsF argsF; rw [a1, a2]; rfl) (by exact Nat.succ_le_of_lt hk) (by omega)
    unfold forE
    rw [hg, Option.bind_some, range_eq, f1]
  have n30 : getFz 30 ρ3 = some (.int pv) := by
    have := f3 30 (by decide) (by decide) (by decide) (by decide) (by decide) (by decide)
    simp only [getFz, this, m30]
  have keep3 : ∀ a, a ≠ 18 → a ≠ 22 → a ≠ 23 → a ≠ 32 → a ≠ 33 → a ≠ 34 → a ≠ 30 → a ≠ 31 → a ≠ 28 → upd ρ3 28 (.fz (.int pv)) a = ρ a := fun a h1 h2 h3 h4 h5 h6 h7 h8 h9 => by
    rw [upd_ne h9, f3 a h1 h2 h3 h4 h5 h6, keep2 a h7 h8]
  refine ⟨upd ρ3 28 (.fz (.int pv)), ?_, ⟨?_, ?_, ?_, ?_⟩, ?_, ?_⟩
  · unfold bodyK
    rw [seq_next (assign_ok (scF_int e1)), seq_next (assign_ok s1), seq_next d1, seq_next (f := ifF _ _ _) (ρ' := ρ2) (by rw [if_no t1]; rfl), seq_next hfor, assign_ok n30]
  · rw [keep3 1 (by decide) (by decide) (by decide) (by decide) (by decide) (by decide) (by decide) (by decide) (by decide)]; exact c.h1
  · rw [keep3 15 (by decide) (by decide) (by decide) (by decide) (by decide) (by decide) (by decide) (by decide) (by decide)]; exact c.h15
  · rw [keep3 21 (by decide) (by decide) (by decide) (by decide) (by decide) (by decide) (by decide) (by decide) (by decide)]; exact c.h21
  · rw [keep3 27 (by decide) (by decide) (by decide) (by decide) (by decide) (by decide) (by decide) (by decide) (by decide)]; exact c.h27
  · rw [upd_self]
    unfold befI
    rw [if_neg (by exact Nat.add_one_ne_zero k), Nat.add_sub_cancel, hpv]
  · rw [upd_ne (by decide)]; exact f2
theorem loopKK {ds : List Nat} {w : Nat} {z total : Int} (F : ZF w z) (D : GoodD ds w z) (hn5 : ds.length ≤ 5) : ∀ (m k : Nat) (ρ : Rho), k + m = ds.length → CK ds w z total ρ → ρ 28 = some (.fz (.int (befI ds w z k))) → ρ 22 = some (.ow2 (tabV ds.length (stT ds z (2 ^ w) k))) →
    ∃ ρ', forF (nameU 29) bodyK (natI (List.range' k m)) ρ = some (.next ρ')
  | 0, k, ρ, e, c, h28, h22 => ⟨ρ, rfl⟩
  | m + 1, k, ρ, e, c, h28, h22 => by
    have c0 : CK ds w z total (upd ρ 29 (.fz (.int (k : Int)))) := ⟨c.h1, c.h15, c.h21, c.h27⟩
    obtain ⟨ρ1, b1, b2, b3, b4⟩ := turnK F D hn5 (k := k) (by omega) (ρ := upd ρ 29 (.fz (.int (k : Int)))) c0 (upd_self _ _ _) (h28) (h22)
    obtain ⟨ρ', f1⟩ := loopKK F D hn5 m (k + 1) ρ1 (by grind) b2 b3 b4
    refine ⟨ρ', ?_⟩
    rw [List.range'_succ]
    show forF (nameU 29) bodyK (.int (k : Int) :: natI (List.range' (k + 1) m)) ρ = _
    rw [for_cons (ρ1 := upd ρ 29 (.fz (.int (k : Int)))) rfl b1, f1]
end Mine
end
section
namespace Mine

theorem intsOf_ints : ∀ ns : List Int, intsOf (intsP ns) = some ns
  | [] => rfl
  | n :: ns => by
    show (intsOf (intsP ns)).map (n :: ·) = _
    rw [intsOf_ints ns]; rfl

/-! the width, and z -/
theorem big10 : (10 : Nat) ^ 1300 < 2 ^ 4319 := by decide +kernel
noncomputable abbrev zF : Rho → Option PV := (binF .Add (intF 1) (binF .LShift (binF .Add (intF 1) (binF .Mod (binF .FloorDiv (callF absV [(getAny 1)]) (intF 2401)) (binF .Pow (intF 10) (intF 1300)))) (binF .Add (getAny 20) (intF 1))))
theorem width_ok {ρ : Rho} {total : Int} (h1 : ρ 1 = some (.fz (.int total))) : ∃ w : Nat, binF .Add (intF 2) (binF .Mod (getAny 1) (intF 2401)) ρ = some (.int (w : Int)) ∧ 2 ≤ w ∧ w ≤ 2402 := by
  have h2 := Int.fmod_nonneg_of_pos total (show (0 : Int) < 2401 by decide)
  have h3 := Int.fmod_lt_of_pos total (show (0 : Int) < 2401 by decide)
  have g1 : getAny 1 ρ = some (.int total) := (getAny_fz h1)
  have s1 : binF .Mod (getAny 1) (intF 2401) ρ = some (.int (total.fmod 2401)) := by
    refine binI g1 rfl ?_
    show (if (2401 : Int) ≠ 0 then some (total.fmod 2401) else none) = _
    rw [if_pos (by decide)]
  refine ⟨2 + (total.fmod 2401).toNat, ?_, by exact Nat.le_add_right 2 (Int.toNat (Int.fmod total 2401)), by omega⟩
  refine binI (a := 2) rfl s1 ?_
  show some (2 + total.fmod 2401) = _
  congr 1; omega
set_option exponentiation.threshold 2000 in
theorem pow_big {ρ : Rho} : ∃ M : Int, binF .Pow (intF 10) (intF 1300) ρ = some (.int M) ∧ 0 < M ∧ M.natAbs < 2 ^ 4319 := by
  refine ⟨(10 : Int) ^ (1300 : Int).toNat, binI (a := 10) (b := 1300) rfl rfl (vI_pow (by decide) (by decide)), Int.pow_pos (by decide), ?_⟩
  rw [Int.natAbs_pow]
  exact big10
theorem z_ok {ρ : Rho} {total : Int} {w : Nat} (h1 : ρ 1 = some (.fz (.int total))) (h20 : ρ 20 = some (.fz (.int (w : Int)))) (w1 : 2 ≤ w) (w2 : w ≤ 2402) : ∃ z : Int, zF ρ = some (.int z) ∧ ZF w z := by
  have hL : LIM = 134217728 := rfl
  obtain ⟨M, hM, hM0, hMb⟩ := pow_big (ρ := ρ)
  have g1 : getAny 1 ρ = some (.int total) := (getAny_fz h1)
  have g20 : getAny 20 ρ = some (.int (w : Int)) := (getAny_fz h20)
  have s1 : callF absV [(getAny 1)] ρ = some (.int (if total < 0 then -total else total)) := call1 g1 rfl
  obtain ⟨t, ht⟩ : ∃ t, t = (if total < 0 then -total else total) := ⟨_, rfl⟩
  rw [← ht] at s1
  have s2 : binF .FloorDiv (callF absV [(getAny 1)]) (intF 2401) ρ = some (.int (t.fdiv 2401)) := by
    refine binI s1 rfl ?_
    show (if (2401 : Int) ≠ 0 ∧ Builtin.divisionGoesByPylong t 2401 = false then some (t.fdiv 2401) else none) = _
    rw [if_pos ⟨by decide, noPy (by decide)⟩]
  obtain ⟨y, hy⟩ : ∃ y, y = (t.fdiv 2401).fmod M := ⟨_, rfl⟩
  have s3 : binF .Mod (binF .FloorDiv (callF absV [(getAny 1)]) (intF 2401)) (binF .Pow (intF 10) (intF 1300)) ρ = some (.int y) := by
    refine binI s2 hM ?_
    show (if M ≠ 0 then some ((t.fdiv 2401).fmod M) else none) = _
    rw [if_pos (by exact Ne.symm (Int.ne_of_lt hM0)), hy]
  have y1 : 0 ≤ y := by rw [hy]; exact Int.fmod_nonneg_of_pos _ hM0
  have y2 : y < M := by rw [hy]; exact Int.fmod_lt_of_pos _ hM0
  have by1 : bits y ≤ 4319 := bitsI_le (by grind)
  have b1 : bits (1 : Int) ≤ 4319 := by decide
  have by2 : bits (1 + y) ≤ 4320 := bits_addI b1 by1
  have s4 : binF .Add (intF 1) (binF .Mod (binF .FloorDiv (callF absV [(getAny 1)]) (intF 2401)) (binF .Pow (intF 10) (intF 1300))) ρ = some (.int (1 + y)) := binI rfl s3 rfl
  have s5 : binF .Add (getAny 20) (intF 1) ρ = some (.int ((w + 1 : Nat) : Int)) := binI g20 rfl (v_add w 1)
  have s6 : binF .LShift (binF .Add (intF 1) (binF .Mod (binF .FloorDiv (callF absV [(getAny 1)]) (intF 2401)) (binF .Pow (intF 10) (intF 1300)))) (binF .Add (getAny 20) (intF 1)) ρ = some (.int ((1 + y) * 2 ^ (w + 1))) := by
    refine binI s4 s5 ?_
    show (if 0 ≤ ((w + 1 : Nat) : Int) ∧ (bits (1 + y) : Int) + ((w + 1 : Nat) : Int) ≤ 134217728 then some ((1 + y) * 2 ^ ((w + 1 : Nat) : Int).toNat) else none) = _
    rw [if_pos ⟨by exact Int.natCast_nonneg (w + 1), by grind⟩, Int.toNat_natCast]
  refine ⟨1 + (1 + y) * 2 ^ (w + 1), binI rfl s6 rfl, w1, w2, ?_, ?_⟩
  · have hp : bits ((2 : Int) ^ (w + 1)) ≤ 2404 := by
      have e : (2 : Int) ^ (w + 1) = ((2 ^ (w + 1) : Nat) : Int) := by push_cast; rfl
      rw [e]
      have : bits ((2 ^ (w + 1) : Nat) : Int) ≤ w + 2 := bits_le (by rw [Nat.pow_succ 2 (w + 1)]; have := Nat.two_pow_pos (w + 1); omega)
      omega
    have := bits_mulI (1 + y) (2 ^ (w + 1))
    have := bits_addI (a := 1) (b := (1 + y) * 2 ^ (w + 1)) (m := 6900) (by grind) (by grind)
    omega
  · show (1 + (1 + y) * 2 ^ (w + 1)) % 2 = 1
    rw [Int.pow_succ, ← Int.mul_assoc]; grind

/-! the last word, and the brackets that show -/
theorem slice_in {l : List Nat} (h : 2 ≤ l.length) (h2 : l.length ≤ 1000) {f : Rho → Option PV} {ρ : Rho} (hf : f ρ = some (.str (mkS l))) : sliceSF f (some (intF 1)) (some (unF .USub (intF 1))) ρ = some (.str (mkS ((l.drop 1).dropLast))) := by
  have hu : unF .USub (intF 1) ρ = some (.int (-1)) := rfl
  unfold sliceSF
  rw [hf]
  simp only [Option.bind_some, partF, hu, intF]
  rw [if_pos (by rw [mkS_len]; omega)]
  congr 2
  unfold pickS pick kms_lo kms_hi
  simp only
  simp only [show ¬ (1 : Int) < 0 by decide, show (-1 : Int) < 0 by decide, if_true, if_false]
  rw [List.dropLast_eq_take, List.length_drop, show min (Int.toNat 1) l.length = 1 by simp; grind]
  congr 2
theorem near_ok {ds : List Nat} (hB : chkB ds = true) (hn : 1 ≤ ds.length) (hn5 : ds.length ≤ 5) {ρ : Rho} (h15 : ρ 15 = some (.fz (.int (ds.length : Int)))) (h16 : ρ 16 = some (.ow (strsV ((List.range ds.length).map (wordL ds))))) :
    neDF (callF F123 [(subF (getAny 16) (unF .USub (intF 1)))]) (exF (listF [(intF 4), (intF 4), (intF 4), (intF 2), (binF .Sub (binF .Mult (intF 2) (getAny 15)) (intF 2)), (binF .Sub (binF .Mult (intF 2) (getAny 15)) (intF 4)), (intF 2), (intF 100)])) ρ = some false := by
  have hL : LIM = 134217728 := rfl
  unfold chkB at hB
  rw [Bool.and_eq_true] at hB
  have p := isIs_ok hB.2
  obtain ⟨m, hm⟩ : ∃ m, ds.length = m + 1 := ⟨ds.length - 1, by omega⟩
  have hw : strsV ((List.range ds.length).map (wordL ds)) = strsV ((List.range m).map (wordL ds)) ++ [.str (mkS (wordL ds (ds.length - 1)))] := by
    rw [hm, List.range_succ, List.map_append]
    simp
  have s1 : subF (getAny 16) (unF .USub (intF 1)) ρ = some (.str (mkS (wordL ds (ds.length - 1)))) := sub_last (xs := strsV ((List.range m).map (wordL ds))) (by simp only [getAny, h16, hw]) rfl
  have s2 := call1 s1 p
  have g15 : getAny 15 ρ = some (.int (ds.length : Int)) := (getAny_fz h15)
  have m1 : binF .Mult (intF 2) (getAny 15) ρ = some (.int (2 * (ds.length : Int))) := binI rfl g15 (vI_mul (by
    have h1 := bits_small (b := ds.length) (by grind)
    have h2 : bits (2 : Int) ≤ 20 := by decide
    grind))
  have m2 : binF .Sub (binF .Mult (intF 2) (getAny 15)) (intF 2) ρ = some (.int (2 * (ds.length : Int) - 2)) := binI m1 rfl rfl
  have m3 : binF .Sub (binF .Mult (intF 2) (getAny 15)) (intF 4) ρ = some (.int (2 * (ds.length : Int) - 4)) := binI m1 rfl rfl
  have hl : listF [(intF 4), (intF 4), (intF 4), (intF 2), (binF .Sub (binF .Mult (intF 2) (getAny 15)) (intF 2)), (binF .Sub (binF .Mult (intF 2) (getAny 15)) (intF 4)), (intF 2), (intF 100)] ρ = some (intsP [4, 4, 4, 2, 2 * (ds.length : Int) - 2, 2 * (ds.length : Int) - 4, 2, 100]) := by
    simp only [listF, argsF, m2, m3, intF, Option.bind_some, Option.map_some, List.length_cons, List.length_nil, Nat.reduceAdd, Nat.reduceLeDiff, if_true]
    rfl
  exact neD_same s2 (exF_ok hl) (shaped_list (intsP_plain _))

theorem gen_small : ((gen 0 3 ++ gen 0 4).all fun t => t.all fun d => decide (1 ≤ d) && decide (d ≤ 10)) = true := by decide +kernel
end Mine
end
section
namespace Mine

theorem depths_facts {cells : List Int} (hl : cells.length = 3 ∨ cells.length = 4) : Good (0 :: depthsGo 0 cells) ∧ (∀ d ∈ depthsGo 0 cells, 1 ≤ d ∧ d ≤ 10) ∧ (depthsGo 0 cells).length = cells.length := by
  have hg := depths_gen cells 0
  have hlen : ∀ (xs : List Int) (d : Nat), (depthsGo d xs).length = xs.length := fun xs => by
    induction xs with
    | nil => intro d; rfl
    | cons x xs ih => intro d; rw [depthsGo, List.length_cons, List.length_cons, ih]
  have hsm : ∀ t ∈ gen 0 3 ++ gen 0 4, ∀ d ∈ t, 1 ≤ d ∧ d ≤ 10 := fun t ht d hd => by
    have := List.all_eq_true.mp (List.all_eq_true.mp gen_small t ht) d hd
    rw [Bool.and_eq_true, decide_eq_true_iff, decide_eq_true_iff] at this
    exact this
  rcases hl with h | h
  · rw [h] at hg
    exact ⟨good3 _ hg, hsm _ (List.mem_append.mpr (.inl hg)), hlen _ _⟩
  · rw [h] at hg
    exact ⟨good4 _ hg, hsm _ (List.mem_append.mpr (.inr hg)), hlen _ _⟩

/-- what the law's second half starts from -/
structure Mid (ds : List Nat) (total : Int) (ρ : Rho) : Prop where
  h1 : ρ 1 = some (.fz (.int total))
  h3 : ρ 3 = some (.ow (natI ds))
  h6 : ρ 6 = some (.fz (.list (natI (lawPlaces ds))))
  h8 : ρ 8 = some (.fz (.list (natI (lawCloses ds))))
  h14 : ρ 14 = some (.fz (.str (mkS (shownL ds))))

noncomputable def half2 : Rho → Option Out :=
  (seqF (ifF (cmpF .NotEq (callF F28 [(sliceSF (getAny 14) (some (intF 1)) (some (unF .USub (intF 1)))), (getAny 14), (intF 4)]) (intF 4)) (retF (boolF false)) passF)
  (seqF (assignF 15 (callF lenV [(getAny 3)]))
  (seqF (assignN 16 (listF []))
  (seqF (assignN 17 (listF []))
  (seqF (forE (rangeF [(getAny 15)]) (nameU 18) bodyW)
  (seqF (ifF (neDF (callF F123 [(subF (getAny 16) (unF .USub (intF 1)))]) (exF (listF [(intF 4), (intF 4), (intF 4), (intF 2), (binF .Sub (binF .Mult (intF 2) (getAny 15)) (intF 2)), (binF .Sub (binF .Mult (intF 2) (getAny 15)) (intF 4)), (intF 2), (intF 100)]))) (retF (boolF false)) passF)
  (seqF (assignF 20 (binF .Add (intF 2) (binF .Mod (getAny 1) (intF 2401))))
  (seqF (assignF 21 zF)
  (seqF (assign2N 22 (compE 35 (rangeF [(getAny 15)]) (compG (nameU 35) yesF (emN (compE 36 (rangeF [(getAny 15)]) (compG (nameU 36) yesF (emF (getFz 21))))))))
  (seqF (forE (rangeF [(getAny 15)]) (nameU 18) (forE (rangeF [(getAny 18)]) (nameU 23) bodyF))
  (seqF (assignF 27 (binF .LShift (intF 1) (getAny 20)))
  (seqF (assignF 28 (intF 1))
  (seqF (forE (rangeF [(getAny 15)]) (nameU 29) bodyK)
  (retF (boolF true)))))))))))))))

theorem half2_ok {ds : List Nat} {total : Int} {ρ : Rho} (M : Mid ds total ρ) (G : Good ds) (hn : 1 ≤ ds.length) (hn5 : ds.length ≤ 5) (hds : ∀ d ∈ ds, d ≤ 10) : half2 ρ = some (.ret (.bool true)) := by
  obtain ⟨gA, gB, gC, gD⟩ := G
  have A := goodA gA
  have hB := gB
  unfold chkB at hB
  rw [Bool.and_eq_true] at hB
  have p1 := isI_ok hB.1
  have hsl : (shownL ds).length = (lawRow ds).length := by unfold shownL sgn; simp
  have l1 := A.l1
  have l2 := A.l2
  unfold half2
  have g14 : getAny 14 ρ = some (.str (mkS (shownL ds))) := (getAny_fz M.h14)
  have t1 : cmpF .NotEq (callF F28 [(sliceSF (getAny 14) (some (intF 1)) (some (unF .USub (intF 1)))), (getAny 14), (intF 4)]) (intF 4) ρ = some false :=
    cmpI (call3 (slice_in (by grind) (by omega) g14) g14 rfl p1) rfl rfl
  rw [seq_next (f := ifF _ _ _) (ρ' := ρ) (by rw [if_no t1]; rfl)]
  have s15 : callF lenV [(getAny 3)] ρ = some (.int (ds.length : Int)) := by
    rw [len_ow M.h3 (by simp; grind), List.length_map]
  rw [seq_next (assign_ok s15), seq_next (assignN_ok (x := []) rfl), seq_next (assignN_ok (x := []) rfl)]
  -- words, ways
  have q1 : upd (upd (upd ρ 15 (.fz (.int (ds.length : Int)))) 16 (.ow [])) 17 (.ow []) 1 = some (.fz (.int total)) := M.h1
  have q3 : upd (upd (upd ρ 15 (.fz (.int (ds.length : Int)))) 16 (.ow [])) 17 (.ow []) 3 = some (.ow (natI ds)) := M.h3
  have q6 : upd (upd (upd ρ 15 (.fz (.int (ds.length : Int)))) 16 (.ow [])) 17 (.ow []) 6 = some (.fz (.list (natI (lawPlaces ds)))) := M.h6
  have q8 : upd (upd (upd ρ 15 (.fz (.int (ds.length : Int)))) 16 (.ow [])) 17 (.ow []) 8 = some (.fz (.list (natI (lawCloses ds)))) := M.h8
  have q15 : upd (upd (upd ρ 15 (.fz (.int (ds.length : Int)))) 16 (.ow [])) 17 (.ow []) 15 = some (.fz (.int (ds.length : Int))) := rfl
  have q16 : upd (upd (upd ρ 15 (.fz (.int (ds.length : Int)))) 16 (.ow [])) 17 (.ow []) 16 = some (.ow (strsV [])) := rfl
  have q17 : upd (upd (upd ρ 15 (.fz (.int (ds.length : Int)))) 16 (.ow [])) 17 (.ow []) 17 = some (.ow (strsV [])) := rfl
  generalize upd (upd (upd ρ 15 (.fz (.int (ds.length : Int)))) 16 (.ow [])) 17 (.ow []) = ρ1 at q1 q3 q6 q8 q15 q16 q17 ⊢
  obtain ⟨ρ2, w1, w2, w3, w4⟩ := loopW A hn hn5 (List.range ds.length) ρ1 [] [] (fun j hj => List.mem_range.mp hj) q6 q8 q15 q16 q17 (by simp; omega) (by simp; omega)
  have hrg : ∀ ρ0 : Rho, ρ0 15 = some (.fz (.int (ds.length : Int))) → rangeF [(getAny 15)] ρ0 = some (natI (List.range ds.length)) := fun ρ0 h => by
    have g : getAny 15 ρ0 = some (.int (ds.length : Int)) := (getAny_fz h)
    exact rngB (by unfold argsF argsF; rw [g]; rfl) (by omega)
  have hf1 : forE (rangeF [(getAny 15)]) (nameU 18) bodyW ρ1 = some (.next ρ2) := by
    unfold forE
    rw [hrg ρ1 q15, Option.bind_some, w1]
  rw [seq_next hf1]
  rw [List.nil_append] at w2 w3
  have r1 : ρ2 1 = some (.fz (.int total)) := by rw [w4 1 (by decide) (by decide) (by decide) (by decide)]; exact q1
  have r3 : ρ2 3 = some (.ow (natI ds)) := by rw [w4 3 (by decide) (by decide) (by decide) (by decide)]; exact q3
  have r15 : ρ2 15 = some (.fz (.int (ds.length : Int))) := by rw [w4 15 (by decide) (by decide) (by decide) (by decide)]; exact q15
  rw [seq_next (f := ifF _ _ _) (ρ' := ρ2) (by rw [if_no (near_ok gB hn hn5 r15 w2)]; rfl)]
  -- the width, z
  obtain ⟨w, s20, hw1, hw2⟩ := width_ok r1
  rw [seq_next (assign_ok s20)]
  obtain ⟨z, s21, F⟩ := z_ok (ρ := upd ρ2 20 (.fz (.int (w : Int)))) (total := total) (w := w) (r1) (upd_self _ _ _) hw1 hw2
  rw [seq_next (assign_ok s21)]
  have D := goodD gD w z
  have c3 : CF ds w z (upd (upd ρ2 20 (.fz (.int (w : Int)))) 21 (.fz (.int z))) := ⟨r3, w2, w3, rfl, rfl⟩
  have u1 : upd (upd ρ2 20 (.fz (.int (w : Int)))) 21 (.fz (.int z)) 1 = some (.fz (.int total)) := r1
  have u15 : upd (upd ρ2 20 (.fz (.int (w : Int)))) 21 (.fz (.int z)) 15 = some (.fz (.int (ds.length : Int))) := r15
  generalize upd (upd ρ2 20 (.fz (.int (w : Int)))) 21 (.fz (.int z)) = ρ3 at c3 u1 u15 ⊢
  rw [seq_next (init_ok (n := ds.length) u15 c3.h21 (by omega))]
  -- the fill
  obtain ⟨ρ4, f1, f2, f3⟩ := fill_ok gC D hn5 hds (by omega) (by omega) (c3.upd (i := 22) (.ow2 (tabV ds.length fun _ _ => z)) (.inr (by decide))) (u15) (upd_self _ _ _)
  rw [seq_next f1]
  have v1 : ρ4 1 = some (.fz (.int total)) := by rw [f3 1 (by decide) (by decide), upd_ne (by decide)]; exact u1
  have v15 : ρ4 15 = some (.fz (.int (ds.length : Int))) := by rw [f3 15 (by decide) (by decide), upd_ne (by decide)]; exact u15
  have v20 : ρ4 20 = some (.fz (.int (w : Int))) := by rw [f3 20 (by decide) (by decide), upd_ne (by decide)]; exact c3.h20
  have v21 : ρ4 21 = some (.fz (.int z)) := by rw [f3 21 (by decide) (by decide), upd_ne (by decide)]; exact c3.h21
  have s27 : binF .LShift (intF 1) (getAny 20) ρ4 = some (.int (2 ^ w)) := by
    have g20 : getAny 20 ρ4 = some (.int (w : Int)) := (getAny_fz v20)
    refine binI (a := 1) rfl g20 ?_
    have hL : LIM = 134217728 := rfl
    rw [v_one_shl (by omega)]
    congr 1
  rw [seq_next (assign_ok s27), seq_next (assign_ok (x := .int 1) rfl)]
  have ck : CK ds w z total (upd (upd ρ4 27 (.fz (.int (2 ^ w)))) 28 (.fz (.int 1))) := ⟨v1, v15, v21, rfl⟩
  have k28 : upd (upd ρ4 27 (.fz (.int (2 ^ w)))) 28 (.fz (.int 1)) 28 = some (.fz (.int (befI ds w z 0))) := upd_self _ _ _
  have k22 : upd (upd ρ4 27 (.fz (.int (2 ^ w)))) 28 (.fz (.int 1)) 22 = some (.ow2 (tabV ds.length (stT ds z (2 ^ w) 0))) := by
    rw [upd_ne (by decide), upd_ne (by decide), f2, tab_congr (T' := stT ds z (2 ^ w) 0) fun a b _ _ => by unfold stT; rw [Nat.zero_min]]
  generalize upd (upd ρ4 27 (.fz (.int (2 ^ w)))) 28 (.fz (.int 1)) = ρ5 at ck k28 k22 ⊢
  obtain ⟨ρ6, e6⟩ := loopKK F D hn5 ds.length 0 ρ5 (by omega) ck k28 k22
  have hf2 : forE (rangeF [(getAny 15)]) (nameU 29) bodyK ρ5 = some (.next ρ6) := by
    unfold forE
    rw [hrg ρ5 ck.h15, Option.bind_some, List.range_eq_range', e6]
  rw [seq_next hf2]
  exact ret_ok rfl

theorem law_ok (ns : List Int) (h : ns.length ≤ 63) : F128 [.list (ns.map .int)] = some (.bool true) := by
  have e0 : F128 [.list (intsP ns)] = (f128 F70 (parR [.list (intsP ns)])).map outV := rfl
  show F128 [.list (intsP ns)] = _
  rw [e0]
  have p0 : parR [.list (intsP ns)] 0 = some (.fz (.list (intsP ns))) := rfl
  generalize parR [.list (intsP ns)] = ρ at p0 ⊢
  obtain ⟨cells, hcells⟩ : ∃ cells, cells = cellsOf ns := ⟨_, rfl⟩
  have hcl : cells.length = 3 ∨ cells.length = 4 := by rw [hcells]; exact cellsOf_len ns
  obtain ⟨G, hd, hdl⟩ := depths_facts hcl
  obtain ⟨ds, hds⟩ : ∃ ds, ds = 0 :: depthsGo 0 cells := ⟨_, rfl⟩
  rw [← hds] at G
  have hlen : ds.length = cells.length + 1 := by rw [hds, List.length_cons, hdl]
  have hget : ∀ k, 1 ≤ k → k ≤ cells.length → 1 ≤ ds.getD k 0 := fun k h1 h2 => by
    obtain ⟨m, rfl⟩ : ∃ m, k = m + 1 := ⟨k - 1, by omega⟩
    rw [hds, List.getD_cons_succ, List.getD_eq_getElem?_getD, List.getElem?_eq_getElem (show m < (depthsGo 0 cells).length by exact Nat.lt_of_lt_of_eq h2 (id (Eq.symm hdl)))]
    exact (hd _ (List.getElem_mem _)).1
  have hle : ∀ d ∈ ds, d ≤ 10 := fun d hm => by
    rw [hds] at hm
    rcases List.mem_cons.mp hm with rfl | hm
    · exact Nat.zero_le 10
    · exact (hd d hm).2
  have A := goodA G.1
  unfold f128
  have g0 : getAny 0 ρ = some (.list (intsP ns)) := (getAny_fz p0)
  have s1 : callF sumV [(getAny 0)] ρ = some (.int ns.sum) := call1 g0 (by unfold sumV; simp only; rw [intsOf_ints]; rfl)
  rw [seq_next (assign_ok s1)]
  have s2 : callF F96 [(getAny 0)] (upd ρ 1 (.fz (.int ns.sum))) = some (.list (intsP cells)) := call1 (x := .list (intsP ns)) ((getAny_fz p0)) (by rw [hcells]; exact F96_ok h)
  rw [seq_next (assign_ok s2), seq_next (assignN_ok (x := [.int 0]) rfl)]
  have q1 : upd (upd (upd ρ 1 (.fz (.int ns.sum))) 2 (.fz (.list (intsP cells)))) 3 (.ow [.int 0]) 1 = some (.fz (.int ns.sum)) := rfl
  have q2 : upd (upd (upd ρ 1 (.fz (.int ns.sum))) 2 (.fz (.list (intsP cells)))) 3 (.ow [.int 0]) 2 = some (.fz (.list (intsP cells))) := rfl
  have q3 : upd (upd (upd ρ 1 (.fz (.int ns.sum))) 2 (.fz (.list (intsP cells)))) 3 (.ow [.int 0]) 3 = some (.ow (natI ([] ++ [0]))) := rfl
  generalize upd (upd (upd ρ 1 (.fz (.int ns.sum))) 2 (.fz (.list (intsP cells)))) 3 (.ow [.int 0]) = ρ1 at q1 q2 q3 ⊢
  obtain ⟨ρ2, d1, d2, d3⟩ := loopD cells [] 0 ρ1 q3 (by simp; grind)
  have hf : forE (listIt (getFz 2)) (nameU 4) bodyD ρ1 = some (.next ρ2) := by
    have hi : listIt (getFz 2) ρ1 = some (intsP cells) := by simp only [listIt, getFz, q2, Option.bind_some, toL]
    unfold forE
    rw [hi, Option.bind_some, d1]
  rw [seq_next hf]
  rw [List.nil_append, ← hds] at d2
  have r1 : ρ2 1 = some (.fz (.int ns.sum)) := by rw [d3 1 (by decide) (by decide)]; exact q1
  have r2 : ρ2 2 = some (.fz (.list (intsP cells))) := by rw [d3 2 (by decide) (by decide)]; exact q2
  have s5 : assignTF (tupU [5, 6, 7]) (callF F101 [(getAny 2), (getAny 3)]) ρ2 = some (.next (upd (upd (upd ρ2 5 (.fz (.list (rowV ((lawRow ds).map (rstr cells)))))) 6 (.fz (.list (natI (lawPlaces ds))))) 7 (.fz (.list (natI (lawCloses ds)))))) := by
    unfold assignTF
    rw [call2 (x := .list (intsP cells)) (y := .list (natI ds)) ((getAny_fz r2)) ((getAny_ow d2)) (F101_ok (by grind) hlen hget)]
    rfl
  rw [seq_next s5]
  have u1 : upd (upd (upd ρ2 5 (.fz (.list (rowV ((lawRow ds).map (rstr cells)))))) 6 (.fz (.list (natI (lawPlaces ds))))) 7 (.fz (.list (natI (lawCloses ds)))) 1 = some (.fz (.int ns.sum)) := r1
  have u3 : upd (upd (upd ρ2 5 (.fz (.list (rowV ((lawRow ds).map (rstr cells)))))) 6 (.fz (.list (natI (lawPlaces ds))))) 7 (.fz (.list (natI (lawCloses ds)))) 3 = some (.ow (natI ds)) := d2
  have u5 : upd (upd (upd ρ2 5 (.fz (.list (rowV ((lawRow ds).map (rstr cells)))))) 6 (.fz (.list (natI (lawPlaces ds))))) 7 (.fz (.list (natI (lawCloses ds)))) 5 = some (.fz (.list (rowV ((lawRow ds).map (rstr cells))))) := rfl
  have u6 : upd (upd (upd ρ2 5 (.fz (.list (rowV ((lawRow ds).map (rstr cells)))))) 6 (.fz (.list (natI (lawPlaces ds))))) 7 (.fz (.list (natI (lawCloses ds)))) 6 = some (.fz (.list (natI (lawPlaces ds)))) := rfl
  have u7 : upd (upd (upd ρ2 5 (.fz (.list (rowV ((lawRow ds).map (rstr cells)))))) 6 (.fz (.list (natI (lawPlaces ds))))) 7 (.fz (.list (natI (lawCloses ds)))) 7 = some (.fz (.list (natI (lawCloses ds)))) := rfl
  generalize upd (upd (upd ρ2 5 (.fz (.list (rowV ((lawRow ds).map (rstr cells)))))) 6 (.fz (.list (natI (lawPlaces ds))))) 7 (.fz (.list (natI (lawCloses ds)))) = ρ3 at u1 u3 u5 u6 u7 ⊢
  rw [seq_next (assign_ok (ends_ok A u5 u6 (by grind)))]
  have v1 : upd ρ3 8 (.fz (.list (natI (lawCloses ds)))) 1 = some (.fz (.int ns.sum)) := u1
  have v3 : upd ρ3 8 (.fz (.list (natI (lawCloses ds)))) 3 = some (.ow (natI ds)) := u3
  have v5 : upd ρ3 8 (.fz (.list (natI (lawCloses ds)))) 5 = some (.fz (.list (rowV ((lawRow ds).map (rstr cells))))) := u5
  have v6 : upd ρ3 8 (.fz (.list (natI (lawCloses ds)))) 6 = some (.fz (.list (natI (lawPlaces ds)))) := u6
  have v7 : upd ρ3 8 (.fz (.list (natI (lawCloses ds)))) 7 = some (.fz (.list (natI (lawCloses ds)))) := u7
  have v8 : upd ρ3 8 (.fz (.list (natI (lawCloses ds)))) 8 = some (.fz (.list (natI (lawCloses ds)))) := rfl
  generalize upd ρ3 8 (.fz (.list (natI (lawCloses ds)))) = ρ4 at v1 v3 v5 v6 v7 v8 ⊢
  rw [seq_next (f := ifF _ _ _) (ρ' := ρ4) (by rw [if_no (test9 A v5 v7 v8)]; rfl), seq_next (f := ifF _ _ _) (ρ' := ρ4) (by rw [if_no (test10 A v5)]; rfl)]
  have hR := rowOk cells A.l1
  have s9 : callF F106 [(getAny 5)] ρ4 = some (.list (pl 0 (unitsR ((lawRow ds).map (rstr cells))))) := call1 (x := .list (rowV ((lawRow ds).map (rstr cells)))) ((getAny_fz v5)) (F106_ok hR)
  rw [seq_next (assign_ok s9)]
  rw [seq_next (assign_ok (bare_ok hR (ρ := upd ρ4 9 (.fz (.list (pl 0 (unitsR ((lawRow ds).map (rstr cells))))))) (upd_self _ _ _)))]
  obtain ⟨R, hRR⟩ : ∃ R, R = (lawRow ds).map (rstr cells) := ⟨_, rfl⟩
  rw [← hRR] at hR v5 ⊢
  obtain ⟨ρ5, x1, x2⟩ := loop13 hR (ρ := upd (upd ρ4 9 (.fz (.list (pl 0 (unitsR R))))) 10 (.fz (.str (mkS (joinC (R.map strip)))))) (v5) (rfl) (upd_self _ _ _)
  rw [seq_next x1]
  have y : ∀ j, j ≠ 9 → j ≠ 10 → j ≠ 11 → j ≠ 12 → j ≠ 13 → ρ5 j = ρ4 j := fun j h1 h2 h3 h4 h5 => by rw [x2 j h3 h4 h5, upd_ne h2, upd_ne h1]
  have y5 : ρ5 5 = some (.fz (.list (rowV ((lawRow ds).map (rstr cells))))) := by rw [y 5 (by decide) (by decide) (by decide) (by decide) (by decide), v5, hRR]
  rw [seq_next (assign_ok (shown_ok A y5))]
  have Md : Mid ds ns.sum (upd ρ5 14 (.fz (.str (mkS (shownL ds))))) := ⟨by rw [upd_ne (by decide), y 1 (by decide) (by decide) (by decide) (by decide) (by decide)]; exact v1, by rw [upd_ne (by decide), y 3 (by decide) (by decide) (by decide) (by decide) (by decide)]; exact v3,
    by rw [upd_ne (by decide), y 6 (by decide) (by decide) (by decide) (by decide) (by decide)]; exact v6, by rw [upd_ne (by decide), y 8 (by decide) (by decide) (by decide) (by decide) (by decide)]; exact v8, upd_self _ _ _⟩
  have hfin := half2_ok Md G (by omega) (by omega) hle
  unfold half2 at hfin
  rw [hfin]
  rfl
end Mine
end
theorem PySem.Challenge.cw_rw0093_01_holds : PySem.Challenge.rw_rw0093_01.Holds :=
  Mine.join Mine.law_ok
