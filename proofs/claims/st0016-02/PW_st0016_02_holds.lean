import PyProof.Rows.All
import Wide.All
import OpenK.AllK
import Wide.FinOn
import Open.Tops
import PySem.Challenge.RW_st0016_02
open PySem PySem.W PyProof.Rows
set_option Elab.async false
noncomputable section
set_option genSizeOfSpec false

section partD1
open PySem PySem.W PyProof.Rows
namespace Mine

noncomputable abbrev Orc := Code → Shared → Option (Flow × Shared × Nat)

/-- a big-step reading of a tree: heap reads and writes, draws of tokens, calls by the oracle -/
noncomputable def ev (orc : Orc) (n₀ : Nat) (S : Setting) {α : Type} : Sem α → Pos → Shared → Option (α × Pos × Shared × Nat)
  | .pure a, p, s => some (a, p, s, 0)
  | .rule _ k, p, s => (ev orc n₀ S (k ()) p s).map fun x => (x.1, x.2.1, x.2.2.1, x.2.2.2 + 1)
  | .at q k, _, s => (ev orc n₀ S (k ()) q s).map fun x => (x.1, x.2.1, x.2.2.1, x.2.2.2 + 1)
  | .load a _ k, p, s => (s.heap.get? a).bind fun o => (ev orc n₀ S (k o) p s).map fun x => (x.1, x.2.1, x.2.2.1, x.2.2.2 + 1)
  | .update a _ f k, p, s => if n₀ ≤ a ∧ (s.heap.get? a).isSome then (ev orc n₀ S (k ()) p { s with heap := s.heap.update a f }).map fun x => (x.1, x.2.1, x.2.2.1, x.2.2.2 + 1) else none
  | .alloc o k, p, s => (ev orc n₀ S (k s.heap.objs.size) p { s with heap := s.heap.push o }).map fun x => (x.1, x.2.1, x.2.2.1, x.2.2.2 + 1)
  | .point _ k, p, s => (ev orc n₀ S (k ()) p s).map fun x => (x.1, x.2.1, x.2.2.1, x.2.2.2 + 1)
  | .fresh k, p, s => (ev orc n₀ S (k s.toks) p { s with toks := s.toks + 1 }).map fun x => (x.1, x.2.1, x.2.2.1, x.2.2.2 + 1)
  | .ask k, p, s => (ev orc n₀ S (k S) p s).map fun x => (x.1, x.2.1, x.2.2.1, x.2.2.2 + 1)
  | .call c _ _ _ k, p, s => (orc c s).bind fun y => (ev orc n₀ S (k (.ok y.1)) p y.2.1).map fun x => (x.1, x.2.1, x.2.2.1, x.2.2.2 + y.2.2)
  | _, _, _ => none

noncomputable abbrev bump {α : Type} (n : Nat) (x : α × Pos × Shared × Nat) : α × Pos × Shared × Nat := (x.1, x.2.1, x.2.2.1, x.2.2.2 + n)

section
variable {orc : Orc} {n₀ : Nat} {S : Setting} {α β : Type}

theorem bump_bump (a b : Nat) (x : Option (α × Pos × Shared × Nat)) : (x.map (bump a)).map (bump b) = x.map (bump (a + b)) := by
  cases x with
  | none => rfl
  | some x => simp [bump, Nat.add_assoc]
theorem bump_zero (x : Option (α × Pos × Shared × Nat)) : x.map (bump 0) = x := by cases x <;> rfl

/-- the reading goes through a continuation -/
theorem ev_wrap (K : α → Sem β) (H : Value → Sem β) (gd : Bool → Bool) (lv : List Value → List Value) (m : Sem α) : ∀ {p p' : Pos} {s s' : Shared} {a : α} {n : Nat}, ev orc n₀ S m p s = some (a, p', s', n) →
    ev orc n₀ S (m.wrap K H gd lv) p s = (ev orc n₀ S (K a) p' s').map (bump n) := by
  induction m with
  | pure a => intro p p' s s' b n h; simp only [ev, Option.some.injEq, Prod.mk.injEq] at h; obtain ⟨rfl, rfl, rfl, rfl⟩ := h; simp only [Sem.wrap]; rw [bump_zero]
  | rule t k ih | «at» q k ih | alloc o k ih | point l k ih | fresh k ih | ask k ih =>
    intro p p' s s' b n h
    simp only [ev, Option.map_eq_some_iff] at h
    obtain ⟨⟨x1, x2, x3, x4⟩, h1, h2⟩ := h
    simp only [Prod.mk.injEq] at h2
    obtain ⟨rfl, rfl, rfl, rfl⟩ := h2
    simp only [Sem.wrap, ev]
    rw [ih _ h1]
    exact bump_bump _ _ _
  | load a q k ih =>
    intro p p' s s' b n h
    simp only [ev, Option.bind_eq_some_iff, Option.map_eq_some_iff] at h
    obtain ⟨o, ho, ⟨x1, x2, x3, x4⟩, h1, h2⟩ := h
    simp only [Prod.mk.injEq] at h2
    obtain ⟨rfl, rfl, rfl, rfl⟩ := h2
    simp only [Sem.wrap, ev, ho, Option.bind_some]
    rw [ih _ h1]
    exact bump_bump _ _ _
  | update a q f k ih =>
    intro p p' s s' b n h
    simp only [ev] at h
    split at h
    · rename_i hc
      simp only [Option.map_eq_some_iff] at h
      obtain ⟨⟨x1, x2, x3, x4⟩, h1, h2⟩ := h
      simp only [Prod.mk.injEq] at h2
      obtain ⟨rfl, rfl, rfl, rfl⟩ := h2
      simp only [Sem.wrap, ev, if_pos hc]
      rw [ih _ h1]
      exact bump_bump _ _ _
    · cases h
  | call c hd g l k ih =>
    intro p p' s s' b n h
    simp only [ev, Option.bind_eq_some_iff, Option.map_eq_some_iff] at h
    obtain ⟨y, hy, ⟨x1, x2, x3, x4⟩, h1, h2⟩ := h
    simp only [Prod.mk.injEq] at h2
    obtain ⟨rfl, rfl, rfl, rfl⟩ := h2
    simp only [Sem.wrap, ev, hy, Option.bind_some]
    rw [ih _ h1]
    exact bump_bump _ _ _
  | _ => intro p p' s s' b n h; simp [ev] at h

theorem ev_bind {m : Sem α} {f : α → Sem β} {p p' : Pos} {s s' : Shared} {a : α} {n : Nat} (h : ev orc n₀ S m p s = some (a, p', s', n)) :
    ev orc n₀ S (m >>= f) p s = (ev orc n₀ S (f a) p' s').map (bump n) := by
  rw [Sem.bind_eq_wrap']; exact ev_wrap _ _ _ _ m h

theorem ev_keep {vs : List Value} {m : Sem α} {p p' : Pos} {s s' : Shared} {a : α} {n : Nat} (h : ev orc n₀ S m p s = some (a, p', s', n)) :
    ev orc n₀ S (m.keep vs) p s = some (a, p', s', n) := by
  rw [Sem.keep_eq_wrap, ev_wrap _ _ _ _ m h]
  simp [ev, bump]
theorem ev_holding {vs : List Value} {m : Sem α} {p p' : Pos} {s s' : Shared} {a : α} {n : Nat} (h : ev orc n₀ S m p s = some (a, p', s', n)) :
    ev orc n₀ S (holding vs m) p s = some (a, p', s', n) := by
  unfold holding
  split
  · exact h
  · exact ev_keep h
theorem ev_tryCatch {m : Sem α} {hd : Value → Sem α} {p p' : Pos} {s s' : Shared} {a : α} {n : Nat} (h : ev orc n₀ S m p s = some (a, p', s', n)) :
    ev orc n₀ S (m.tryCatch hd) p s = some (a, p', s', n) := by
  rw [Sem.tryCatch_eq_wrap, ev_wrap _ _ _ _ m h]
  simp [ev, bump]
theorem ev_onRaise {m : Sem α} {hd : Value → Sem Unit} {p p' : Pos} {s s' : Shared} {a : α} {n : Nat} (h : ev orc n₀ S m p s = some (a, p', s', n)) :
    ev orc n₀ S (m.onRaise hd) p s = some (a, p', s', n) := by
  rw [Sem.onRaise_eq_wrap, ev_wrap _ _ _ _ m h]
  simp [ev, bump]
end

section
variable {p : Program} {w : World} {m₀ : Nat} {ann : Option Value}

/-- from (s, t) the top's run comes to (s', t') in n steps -/
structure Goes (p : Program) (w : World) (m₀ : Nat) (ann : Option Value) (n : Nat) (s : Shared) (t : Thread) (s' : Shared) (t' : Thread) : Prop where
  go : ∀ N r, topRun treeTable p w m₀ ann N s' t' = some r → topRun treeTable p w m₀ ann (n + N) s t = some r

theorem Goes.refl {s : Shared} {t : Thread} : Goes p w m₀ ann 0 s t s t := ⟨fun N r h => by rw [Nat.zero_add]; exact h⟩
theorem Goes.trans {n k : Nat} {s s' s'' : Shared} {t t' t'' : Thread} (a : Goes p w m₀ ann n s t s' t') (b : Goes p w m₀ ann k s' t' s'' t'') : Goes p w m₀ ann (n + k) s t s'' t'' :=
  ⟨fun N r h => by rw [Nat.add_assoc]; exact a.go _ _ (b.go _ _ h)⟩
theorem Goes.one {s s' : Shared} {t t' : Thread} (h1 : through t = false) (h2 : stepOk m₀ ann t = true) (h3 : step (denote treeTable) p w s t = .go s' t') : Goes p w m₀ ann 1 s t s' t' := ⟨fun N r h => by
  rw [Nat.add_comm]
  unfold topRun
  rw [h1, h2, h3]
  exact h⟩
theorem Goes.head {n : Nat} {s s' s'' : Shared} {t t' t'' : Thread} (h1 : through t = false) (h2 : stepOk m₀ ann t = true) (h3 : step (denote treeTable) p w s t = .go s' t') (b : Goes p w m₀ ann n s' t' s'' t'') :
    Goes p w m₀ ann (n + 1) s t s'' t'' := by rw [Nat.add_comm]; exact (Goes.one h1 h2 h3).trans b

/-- what the oracle says is what the machine does -/
noncomputable def OrcOk (p : Program) (w : World) (m₀ : Nat) (ann : Option Value) (orc : Orc) : Prop :=
  ∀ c s f s' n, orc c s = some (f, s', n) → ∀ (k : Result → Sem Fin) (h : Option Value) (g : Bool) (l : List Value) (code : Code) (pos : Pos) (st : List Frame),
    Goes p w m₀ ann n s ⟨.call c h g l k, code, pos, st⟩ s' ⟨k (.ok f), code, pos, st⟩

theorem ev_goes {α : Type} {orc : Orc} (ok : OrcOk p w m₀ ann orc) (K : α → Sem Fin) (H : Value → Sem Fin) (gd : Bool → Bool) (lv : List Value → List Value) (c : Code) (st : List Frame) (m : Sem α) :
    ∀ {q q' : Pos} {s s' : Shared} {a : α} {n : Nat}, ev orc m₀ ⟨p, w.params⟩ m q s = some (a, q', s', n) → Goes p w m₀ ann n s ⟨m.wrap K H gd lv, c, q, st⟩ s' ⟨K a, c, q', st⟩ := by
  induction m with
  | pure a => intro q q' s s' b n h; simp only [ev, Option.some.injEq, Prod.mk.injEq] at h; obtain ⟨rfl, rfl, rfl, rfl⟩ := h; exact Goes.refl
  | rule t k ih | «at» q k ih | alloc o k ih | point l k ih | fresh k ih | ask k ih =>
    intro q q' s s' b n h
    simp only [ev, Option.map_eq_some_iff] at h
    obtain ⟨⟨x1, x2, x3, x4⟩, h1, h2⟩ := h
    simp only [Prod.mk.injEq] at h2
    obtain ⟨rfl, rfl, rfl, rfl⟩ := h2
    refine Goes.head ?_ ?_ ?_ (ih _ h1)
    · cases st <;> rfl
    · rfl
    · obtain ⟨hp, gens, drawn, toks, os⟩ := s; rfl
  | load a z k ih =>
    intro q q' s s' b n h
    simp only [ev, Option.bind_eq_some_iff, Option.map_eq_some_iff] at h
    obtain ⟨o, ho, ⟨x1, x2, x3, x4⟩, h1, h2⟩ := h
    simp only [Prod.mk.injEq] at h2
    obtain ⟨rfl, rfl, rfl, rfl⟩ := h2
    refine Goes.head ?_ ?_ ?_ (ih _ h1)
    · cases st <;> rfl
    · rfl
    · obtain ⟨hp, gens, drawn, toks, os⟩ := s
      dsimp only at ho
      simp only [Sem.wrap, step, ho]
  | update a z f k ih =>
    intro q q' s s' b n h
    simp only [ev] at h
    split at h
    · rename_i hc
      simp only [Option.map_eq_some_iff] at h
      obtain ⟨⟨x1, x2, x3, x4⟩, h1, h2⟩ := h
      simp only [Prod.mk.injEq] at h2
      obtain ⟨rfl, rfl, rfl, rfl⟩ := h2
      refine Goes.head ?_ ?_ ?_ (ih _ h1)
      · cases st <;> rfl
      · show (true && (Nat.ble m₀ a || a == mainNs || a == cStatics || ann == some (.ref a))) = true
        rw [Nat.ble_eq_true_of_le hc.1]; rfl
      · obtain ⟨hp, gens, drawn, toks, os⟩ := s
        have := hc.2
        dsimp only at this
        simp only [Sem.wrap, step, this, if_true]
    · cases h
  | call cc hd g l k ih =>
    intro q q' s s' b n h
    simp only [ev, Option.bind_eq_some_iff, Option.map_eq_some_iff] at h
    obtain ⟨y, hy, ⟨x1, x2, x3, x4⟩, h1, h2⟩ := h
    simp only [Prod.mk.injEq] at h2
    obtain ⟨rfl, rfl, rfl, rfl⟩ := h2
    rw [Nat.add_comm]
    exact (ok _ _ _ _ _ hy (fun r => (k r).wrap K H gd lv) hd (gd g) (lv l) c q st).trans (ih _ h1)
  | _ => intro q q' s s' b n h; simp [ev] at h
end
end Mine
end partD1

section partD2
open PySem PySem.W PyProof.Rows
namespace Mine

/-- the one call that a display of ints and texts makes -/
noncomputable def orcHash : Orc := fun c s => match c with
  | .call (.builtin "int.__hash__") ⟨[.int k _], []⟩ => some (.ret (.int (rawHash k) s.toks), { s with toks := s.toks + 1 }, 4)
  | _ => none

theorem entryT_int_hash : entryFor treeTable "int.__hash__" = some Builtin.«int.__hash__» := by kernel_rfl!

section
variable {p : Program} {w : World} {m₀ : Nat} {ann : Option Value}

theorem orc_hash (k : Int) (t : Tok) (s : Shared) (kk : Result → Sem Fin) (h : Option Value) (g : Bool) (l : List Value) (code : Code) (pos : Pos) (st : List Frame) :
    Goes p w m₀ ann 4 s ⟨.call (.call (.builtin "int.__hash__") ⟨[.int k t], []⟩) h g l kk, code, pos, st⟩ { s with toks := s.toks + 1 } ⟨kk (.ok (.ret (.int (rawHash k) s.toks))), code, pos, st⟩ := by
  obtain ⟨hp, gens, drawn, toks, os⟩ := s
  have e1 : denote treeTable (.call (.builtin "int.__hash__") ⟨[.int k t], []⟩) = (.pure (.again (.builtin "int.__hash__" ⟨[.int k t], []⟩)) : Sem Fin) := by
    kernel_rfl!
  have e2 : denote treeTable (.builtin "int.__hash__" ⟨[.int k t], []⟩) = (.fresh fun u => .pure (.done (.ret (.int (rawHash k) u))) : Sem Fin) := by
    kernel_rfl!
  refine Goes.head (n := 3) (by cases st <;> rfl) rfl rfl ?_
  rw [e1]
  refine Goes.head (n := 2) rfl ?_ (step_again ..) ?_
  · kernel_rfl!
  rw [e2]
  refine Goes.head (n := 1) rfl rfl rfl ?_
  exact Goes.one rfl rfl rfl

theorem orcHash_ok : OrcOk p w m₀ ann orcHash := by
  intro c s f s' n h k hd g l code pos st
  unfold orcHash at h
  split at h
  · simp only [Option.some.injEq, Prod.mk.injEq] at h
    obtain ⟨rfl, rfl, rfl⟩ := h
    exact orc_hash ..
  · cases h
end
end Mine
end partD2

section partD3
open PySem PySem.W PyProof.Rows
namespace Mine
section
variable {n₀ : Nat} {S : Setting} {p : Pos} {s : Shared}

theorem ev_pure {α : Type} {orc : Orc} (a : α) : ev orc n₀ S (pure a) p s = some (a, p, s, 0) := rfl
theorem ev_bind2 {α β : Type} {orc : Orc} {m : Sem α} {f : α → Sem β} {p p' p'' : Pos} {s s' s'' : Shared} {a : α} {b : β} {n k : Nat} (h : ev orc n₀ S m p s = some (a, p', s', n))
    (h2 : ev orc n₀ S (f a) p' s' = some (b, p'', s'', k)) : ev orc n₀ S (m >>= f) p s = some (b, p'', s'', k + n) := by
  rw [ev_bind h, h2]; rfl
theorem ev_bind0 {α β : Type} {orc : Orc} {m : Sem α} {f : α → Sem β} {r : Option (β × Pos × Shared × Nat)} {a : α} (h : m = pure a)
    (h2 : ev orc n₀ S (f a) p s = r) : ev orc n₀ S (m >>= f) p s = r := by
  subst h; exact h2

theorem ev_pyHash (k : Int) (t : Tok) : ev orcHash n₀ S (pyHash (.int k t)) p s = some (hashInt k, p, { s with toks := s.toks + 1 }, 5) := by
  have hs : specialOf (.int k t) "__hash__" = pure (some (.builtin "int.__hash__")) := by kernel_rfl!
  have hb : bindSpecial (.builtin "int.__hash__") (.int k t) = pure (.builtin "int.__hash__", [.int k t]) := slot_int_hash.bind _
  have hr := rawHash_range k
  have hx : ev orcHash n₀ S (bindSpecialIfBound? (.int k t) "__hash__") p s = some (some (.builtin "int.__hash__", [.int k t]), p, s, 1) := by
    unfold bindSpecialIfBound?
    refine ev_bind0 hs ?_
    show ev orcHash n₀ S (ask >>= _) p s = _
    refine ev_bind2 (k := 0) (n := 1) (show ev orcHash n₀ S ask p s = some (S, p, s, 1) from rfl) ?_
    have hbind : (do return some (← bindSpecial (.builtin "int.__hash__") (.int k t)) : Sem (Option (Value × List Value))) = pure (some (.builtin "int.__hash__", [.int k t])) := by rw [hb]; rfl
    split
    · exact (congrArg (fun m => ev orcHash n₀ S m p s) hbind).trans rfl
    · exact ev_tryCatch ((congrArg (fun m => ev orcHash n₀ S m p s) hbind).trans rfl)
  show ev orcHash n₀ S (pyHashByItsType (.int k t)) p s = _
  unfold pyHashByItsType
  refine ev_bind0 (a := ()) rfl ?_
  refine ev_bind0 hs ?_
  show ev orcHash n₀ S (specialOf (.int k t) "__hash__" >>= _) p s = _
  refine ev_bind0 hs ?_
  show ev orcHash n₀ S (callSpecialIfBoundUnlessNone? (.int k t) "__hash__" _ >>= _) p s = _
  refine ev_bind2 (n := 5) (k := 0) (a := some (.int (rawHash k) s.toks)) (s' := { s with toks := s.toks + 1 }) (p' := p) ?_ ?_
  · unfold callSpecialIfBoundUnlessNone?
    refine ev_holding ?_
    refine ev_bind2 (n := 1) (k := 4) hx ?_
    show ev orcHash n₀ S (call (.builtin "int.__hash__") [.int k t] >>= fun r => pure (some r)) p s = _
    refine ev_bind2 (n := 4) (k := 0) (a := .int (rawHash k) s.toks) (s' := { s with toks := s.toks + 1 }) (p' := p) ?_ rfl
    rfl
  · show ev orcHash n₀ S (if (decide (-(2 : Int) ^ 63 ≤ rawHash k) && decide (rawHash k < 2 ^ 63)) = true then pure (if (rawHash k == -1) = true then -2 else rawHash k) else _) p _ = _
    rw [if_pos (by rw [decide_eq_true hr.1, decide_eq_true hr.2]; rfl)]
    rfl
end
end Mine
end partD3

section partD4
open PySem PySem.W PyProof.Rows
namespace Mine

noncomputable def hp (l : List Obj) : Heap := ⟨l.toArray, {}⟩
noncomputable def dO (es : List DictEntry) : Obj := ⟨.type "dict", none, .dict es.toArray es.length, #[]⟩

theorem hp_size (l : List Obj) : (hp l).objs.size = l.length := rfl
theorem hp_push (l : List Obj) (o : Obj) : (hp l).push o = hp (l ++ [o]) := by
  show Heap.mk (l.toArray.push o) _ = Heap.mk _ _
  rw [List.push_toArray]
theorem hp_upd (l r : List Obj) (o : Obj) (f : Obj → Obj) {a : Nat} (ha : a = l.length) : (hp (l ++ o :: r)).update a f = hp (l ++ f o :: r) := by
  subst ha
  show Heap.mk ((l ++ o :: r).toArray.modify l.length f) _ = Heap.mk _ _
  congr 1
  apply Array.ext_getElem?
  intro i
  rw [Array.getElem?_modify]
  simp only [List.getElem?_toArray]
  by_cases h : l.length = i
  · subst h; simp
  · rw [if_neg h]
    by_cases h2 : i < l.length
    · rw [List.getElem?_append_left h2, List.getElem?_append_left h2]
    · have : l.length < i := by omega
      rw [List.getElem?_append_right (by omega), List.getElem?_append_right (by omega)]
      obtain ⟨j, hj⟩ : ∃ j, i - l.length = j + 1 := ⟨i - l.length - 1, by omega⟩
      rw [hj]; simp
theorem hp_get (l r : List Obj) (es : List DictEntry) {a : Nat} (ha : a = l.length) : (hp (l ++ dO es :: r)).get? a = some (dO es) := by
  subst ha
  show (match (l ++ dO es :: r).toArray[l.length]? with | some ⟨_, _, .freed, _⟩ => none | o => o) = _
  rw [List.getElem?_toArray, List.getElem?_append_right (Nat.le_refl _)]
  simp [dO]
theorem dO_push (es : List DictEntry) (e : DictEntry) : Obj.mapDictKeys (·.push e) (dO es) = dO (es ++ [e]) := by
  show Obj.mk _ _ (Data.dict (es.toArray.push e) (es.length + 1)) _ = _
  simp [dO]

theorem places_none {es : List DictEntry} {h : Int} (hno : ∀ e ∈ es, e.hash ≠ h) : placesWithHash es.toArray.size (fun i => es.toArray[i]?.map (·.hash)) h = [] := by
  unfold placesWithHash
  rw [List.filter_eq_nil_iff]
  intro i hi
  have hi' : i < es.length := by simpa using hi
  simp only [List.getElem?_toArray, List.getElem?_eq_getElem hi', Option.map_some, beq_iff_eq, Option.some.injEq]
  exact hno _ (List.getElem_mem hi')

section
variable {n₀ : Nat} {S : Setting} {p : Pos} {s : Shared} {l r : List Obj} {es : List DictEntry} {d : Nat}

theorem ev_loadPart {orc : Orc} {a : Nat} {part : Option Value} {o : Obj} (h : s.heap.get? a = some o) : ev orc n₀ S (loadPart a part) p s = some (o, p, s, 1) := by
  show ((s.heap.get? a).bind fun o => _) = _
  rw [h]; rfl
theorem ev_updatePart {orc : Orc} {a : Nat} {part : Option Value} {f : Obj → Obj} (ha : n₀ ≤ a) (h : (s.heap.get? a).isSome = true) : ev orc n₀ S (updatePart a part f) p s = some ((), p, { s with heap := s.heap.update a f }, 1) := by
  show (if n₀ ≤ a ∧ (s.heap.get? a).isSome then _ else none) = _
  rw [if_pos ⟨ha, h⟩]; rfl

theorem ev_dictFind_none (hd : d = l.length) (hh : s.heap = hp (l ++ dO es :: r)) {k : Int} {t : Tok} {h : Int} (hno : ∀ e ∈ es, e.hash ≠ h) :
    ev orcHash n₀ S (dictFind d (.int k t) h) p s = some (none, p, s, 1) := by
  have hg : s.heap.get? d = some (dO es) := by rw [hh]; exact hp_get _ _ _ hd
  unfold dictFind
  refine ev_holding ?_
  refine ev_bind2 (n := 1) (k := 0) (a := es.toArray) (s' := s) (p' := p) ?_ ?_
  · unfold dictEntries
    exact ev_bind2 (n := 1) (k := 0) (ev_loadPart hg) rfl
  · dsimp only
    rw [places_none hno]
    rfl

theorem ev_updKeys (hd : d = l.length) (hd0 : n₀ ≤ d) (hh : s.heap = hp (l ++ dO es :: r)) (hsz : es.length ≤ 1000) {e : DictEntry} {part : Option Value} :
    ev orcHash n₀ S (updateDictKeys d (·.push e) part) p s = some ((), p, { s with heap := hp (l ++ dO (es ++ [e]) :: r) }, 3) := by
  have hg : s.heap.get? d = some (dO es) := by rw [hh]; exact hp_get _ _ _ hd
  unfold updateDictKeys
  refine ev_bind2 (n := 1) (k := 2) (ev_loadPart hg) ?_
  show ev orcHash n₀ S (updatePart d part (Obj.mapDictKeys (·.push e)) >>= fun _ => lookBehind d part) p s = _
  refine ev_bind2 (n := 1) (k := 1) (ev_updatePart hd0 (by rw [hg]; rfl)) ?_
  have e1 : s.heap.update d (Obj.mapDictKeys (·.push e)) = hp (l ++ dO (es ++ [e]) :: r) := by rw [hh, hp_upd _ _ _ _ hd, dO_push]
  rw [e1]
  unfold lookBehind
  refine ev_bind2 (n := 1) (k := 0) (ev_loadPart (hp_get _ _ _ hd)) ?_
  have : (dO (es ++ [e])).data.pastItsLine = none := by
    show (if (es ++ [e]).toArray.size > sizeLine + 1 then some "dict:memory" else none) = none
    rw [if_neg]
    simp only [List.size_toArray, List.length_append, List.length_cons, List.length_nil]
    rw [sizeLine_eq]; omega
  rw [this]
  rfl

theorem ev_dictSet (hd : d = l.length) (hd0 : n₀ ≤ d) (hh : s.heap = hp (l ++ dO es :: r)) (hsz : es.length ≤ 1000) {k : Int} {t : Tok} {v : Value} (hno : ∀ e ∈ es, e.hash ≠ hashInt k) :
    ev orcHash n₀ S (dictSet d (.int k t) v) p s = some ((), p, { s with heap := hp (l ++ dO (es ++ [⟨hashInt k, .int k t, v⟩]) :: r), toks := s.toks + 1 }, 10) := by
  unfold dictSet
  refine ev_holding ?_
  refine ev_bind2 (n := 5) (k := 5) (ev_pyHash k t) ?_
  unfold dictSetHashed
  refine ev_holding ?_
  refine ev_bind2 (n := 1) (k := 4) (ev_dictFind_none (s := { s with toks := s.toks + 1 }) hd hh hno) ?_
  show ev orcHash n₀ S (rule _ >>= fun _ => updateDictKeys d _ _) p _ = _
  refine ev_bind2 (n := 1) (k := 3) (show ev orcHash n₀ S (rule _) p _ = some ((), p, _, 1) from rfl) ?_
  exact ev_updKeys (s := { s with toks := s.toks + 1 }) hd hd0 hh hsz

theorem ev_dictPut (hd : d = l.length) (hd0 : n₀ ≤ d) (hh : s.heap = hp (l ++ dO es :: r)) (hsz : es.length ≤ 1000) {k : Int} {t : Tok} {v : Value} {h : Int} (hno : ∀ e ∈ es, e.hash ≠ h) :
    ev orcHash n₀ S (dictPut d h (.int k t) v) p s = some ((), p, { s with heap := hp (l ++ dO (es ++ [⟨h, .int k t, v⟩]) :: r) }, 4) := by
  unfold dictPut
  refine ev_bind2 (n := 1) (k := 3) (ev_dictFind_none hd hh hno) ?_
  exact ev_updKeys hd hd0 hh hsz
theorem ev_bindN {α β : Type} {orc : Orc} {S : Setting} {m : Sem α} {f : α → Sem β} {p p' p'' : Pos} {s s' s'' : Shared} {a : α} {b : β} {n k N : Nat} (h : ev orc n₀ S m p s = some (a, p', s', n))
    (h2 : ev orc n₀ S (f a) p' s' = some (b, p'', s'', k)) (hN : N = k + n := by omega) : ev orc n₀ S (m >>= f) p s = some (b, p'', s'', N) := by
  subst hN; exact ev_bind2 h h2
end
end Mine
end partD4

section partD5
open PySem PySem.W PyProof.Rows
namespace Mine

noncomputable def kT (k : Int) : Sem Value := mkInt k
noncomputable def vT (pos : Pos) (v : Str) : Sem Value := do let x ← mkText v; standAt pos; pure x

/-- the entries of a long run: three tokens an item -/
noncomputable def entL : Nat → List (Int × Str) → List DictEntry
  | _, [] => []
  | tk, (k, v) :: r => ⟨hashInt k, .int k tk, .str v (tk + 1)⟩ :: entL (tk + 3) r
/-- the values of a short run: two tokens an item -/
noncomputable def valS : Nat → List (Int × Str) → List (Value × Value)
  | _, [] => []
  | tk, (k, v) :: r => (.int k tk, .str v (tk + 1)) :: valS (tk + 2) r
noncomputable def entS : List (Int × Str) → Nat → List DictEntry
  | [], _ => []
  | (k, v) :: r, tk => ⟨hashInt k, .int k tk, .str v (tk + 1)⟩ :: entS r (tk + 2)

theorem entL_hash : ∀ (tk : Nat) (ps : List (Int × Str)), (entL tk ps).map (·.hash) = ps.map fun x => hashInt x.1
  | _, [] => rfl
  | tk, (k, v) :: r => by simp [entL, entL_hash]
theorem entS_hash : ∀ (ps : List (Int × Str)) (tk : Nat), (entS ps tk).map (·.hash) = ps.map fun x => hashInt x.1
  | [], _ => rfl
  | (k, v) :: r, tk => by simp [entS, entS_hash]
theorem entL_len : ∀ (tk : Nat) (ps : List (Int × Str)), (entL tk ps).length = ps.length
  | _, [] => rfl
  | tk, (k, v) :: r => by simp [entL, entL_len]
theorem entS_len : ∀ (ps : List (Int × Str)) (tk : Nat), (entS ps tk).length = ps.length
  | [], _ => rfl
  | (k, v) :: r, tk => by simp [entS, entS_len]

section
variable {n₀ : Nat} {S : Setting} {l r : List Obj} {es : List DictEntry} {d : Nat} {gens : Array GenState} {drawn : Drawn} {os : OsState}

noncomputable abbrev stt (gens : Array GenState) (drawn : Drawn) (os : OsState) (l : List Obj) (tk : Nat) : Shared := ⟨hp l, gens, drawn, tk, os⟩

theorem ev_long (pos : Pos) (hd : d = l.length) (hd0 : n₀ ≤ d) : ∀ (ps : List (Int × Str)) (es : List DictEntry) (tk : Nat) (p : Pos), (es.length + ps.length ≤ 1000) →
    (∀ e ∈ es, ∀ x ∈ ps, e.hash ≠ hashInt x.1) → ((ps.map fun x => hashInt x.1).Pairwise (· ≠ ·)) → ∃ p',
    ev orcHash n₀ S (forIn (ps.map fun x => (kT x.1, vT pos x.2)) PUnit.unit fun (x : Sem Value × Sem Value) (_ : PUnit) => (do
      let kv ← x.1
      let vv ← holding [kv] x.2
      holding [kv, vv] (dictSet d kv vv)
      pure (ForInStep.yield PUnit.unit) : Sem (ForInStep PUnit))) p (stt gens drawn os (l ++ dO es :: r) tk) =
    some (PUnit.unit, p', stt gens drawn os (l ++ dO (es ++ entL tk ps) :: r) (tk + 3 * ps.length), 13 * ps.length)
  | [], es, tk, p, _, _, _ => ⟨p, by simp [entL]; rfl⟩
  | (k, v) :: ps, es, tk, p, hsz, hno, hpw => by
    rw [List.length_cons] at hsz
    obtain ⟨hp1, hp2⟩ := List.pairwise_cons.mp hpw
    have ih := ev_long pos hd hd0 ps (es ++ [⟨hashInt k, .int k tk, .str v (tk + 1)⟩]) (tk + 3) pos (by simp; omega) (by
      intro e he x hx
      rcases List.mem_append.mp he with h | h
      · exact hno e h x (List.mem_cons_of_mem _ hx)
      · simp only [List.mem_singleton] at h
        subst h
        exact hp1 _ (List.mem_map_of_mem hx)) hp2
    obtain ⟨p', ih⟩ := ih
    refine ⟨p', ?_⟩
    rw [List.map_cons, List.forIn_cons]
    have e1 : ev orcHash n₀ S (dictSet d (.int k tk) (.str v (tk + 1))) pos (stt gens drawn os (l ++ dO es :: r) (tk + 2)) =
        some ((), pos, stt gens drawn os (l ++ dO (es ++ [⟨hashInt k, .int k tk, .str v (tk + 1)⟩]) :: r) (tk + 3), 10) :=
      ev_dictSet hd hd0 rfl (by omega) (fun e he => hno e he _ (List.mem_cons_self ..))
    have e2 : ev orcHash n₀ S (do
      let kv ← kT k
      let vv ← holding [kv] (vT pos v)
      holding [kv, vv] (dictSet d kv vv)
      pure (ForInStep.yield PUnit.unit) : Sem (ForInStep PUnit)) p (stt gens drawn os (l ++ dO es :: r) tk) =
        some (ForInStep.yield PUnit.unit, pos, stt gens drawn os (l ++ dO (es ++ [⟨hashInt k, .int k tk, .str v (tk + 1)⟩]) :: r) (tk + 3), 13) := by
      refine ev_bind2 (n := 1) (k := 12) (a := .int k tk) (p' := p) (s' := stt gens drawn os (l ++ dO es :: r) (tk + 1)) rfl ?_
      refine ev_bind2 (n := 2) (k := 10) (a := .str v (tk + 1)) (p' := pos) (s' := stt gens drawn os (l ++ dO es :: r) (tk + 2)) rfl ?_
      exact ev_bind2 (n := 10) (k := 0) (ev_holding e1) rfl
    refine (ev_bind2 (n := 13) (k := 13 * ps.length) e2 ih).trans ?_
    simp only [entL, List.append_assoc, List.cons_append, List.nil_append, List.length_cons]
    rw [show tk + 3 + 3 * ps.length = tk + 3 * (ps.length + 1) by omega, show 13 * ps.length + 13 = 13 * (ps.length + 1) by omega]

/-- a run of sixteen or more -/
theorem ev_subDict_long (pos : Pos) (ps : List (Int × Str)) (hlen : 15 < ps.length) (hsz : ps.length ≤ 1000) (hpw : (ps.map fun x => hashInt x.1).Pairwise (· ≠ ·)) (hl : n₀ ≤ l.length) (tk : Nat) (p : Pos) : ∃ p',
    ev orcHash n₀ S (subDict (ps.map fun x => (kT x.1, vT pos x.2))) p (stt gens drawn os l tk) = some (l.length, p', stt gens drawn os (l ++ [dO (entL tk ps)]) (tk + 3 * ps.length), 13 * ps.length + 2) := by
  obtain ⟨p', h⟩ := ev_long (gens := gens) (drawn := drawn) (os := os) (r := []) (S := S) pos rfl hl ps [] tk p (by simpa using hsz) (fun e he => (by cases he)) hpw
  refine ⟨p', ?_⟩
  unfold subDict
  refine ev_bind2 (n := 1) (k := 13 * ps.length + 1) (a := l.length) (p' := p) (s' := stt gens drawn os (l ++ [dO []]) tk) ?_ ?_
  · show some (_, _, _, _) = _
    simp only [stt, hp_push]
    rfl
  · show ev orcHash n₀ S (holding [.ref l.length] _ >>= fun _ => pure l.length) p (stt gens drawn os (l ++ [dO []]) tk) = _
    refine ev_bindN (n := 13 * ps.length + 1) (k := 0) (a := ()) (p' := p') (s' := stt gens drawn os (l ++ [dO (entL tk ps)]) (tk + 3 * ps.length)) ?_ rfl
    refine ev_holding ?_
    rw [if_neg (by rw [List.length_map]; omega)]
    refine ev_bind2 (n := 1) (k := 13 * ps.length) (a := ()) (p' := p) (s' := stt gens drawn os (l ++ [dO []]) tk) rfl ?_
    refine (ev_bindN (n := 13 * ps.length) (k := 0) (N := 13 * ps.length) h rfl).trans ?_
    simp
end
end Mine
end partD5

section partD6
open PySem PySem.W PyProof.Rows
namespace Mine
section
variable {orc : Orc} {n₀ : Nat} {S : Setting}

theorem ev_range' {f : Nat → PUnit → Sem (ForInStep PUnit)} {p : Pos} {c : Nat} (St : Nat → Shared) : ∀ (m i : Nat),
    (∀ j, i ≤ j → j < i + m → ev orc n₀ S (f j PUnit.unit) p (St j) = some (.yield PUnit.unit, p, St (j + 1), c)) →
    ev orc n₀ S (forIn (List.range' i m) PUnit.unit f) p (St i) = some (PUnit.unit, p, St (i + m), c * m)
  | 0, i, _ => rfl
  | m + 1, i, h => by
    rw [List.range'_succ, List.forIn_cons]
    have ih := ev_range' (f := f) (p := p) (c := c) St m (i + 1) (fun j h1 h2 => h j (by omega) (by omega))
    rw [show i + 1 + m = i + (m + 1) by omega] at ih
    exact ev_bindN (h i (Nat.le_refl _) (by omega)) ih (by rw [Nat.mul_succ])
theorem ev_range {f : Nat → PUnit → Sem (ForInStep PUnit)} {p : Pos} {c : Nat} (St : Nat → Shared) (m : Nat)
    (h : ∀ j, j < m → ev orc n₀ S (f j PUnit.unit) p (St j) = some (.yield PUnit.unit, p, St (j + 1), c)) :
    ev orc n₀ S (forIn (List.range m) PUnit.unit f) p (St 0) = some (PUnit.unit, p, St m, c * m) := by
  rw [List.range_eq_range']
  have := ev_range' (f := f) (p := p) (c := c) St m 0 (fun j _ h2 => h j (by omega))
  rwa [Nat.zero_add] at this
end

section
variable {n₀ : Nat} {S : Setting} {l r : List Obj} {es fs : List DictEntry} {d a : Nat} {gens : Array GenState} {drawn : Drawn} {os : OsState} {p : Pos}

theorem hp_get2 (l r : List Obj) (o : Obj) (es : List DictEntry) {a : Nat} (ha : a = l.length + 1 + r.length) : (hp (l ++ o :: (r ++ [dO es]))).get? a = some (dO es) := by
  have : l ++ o :: (r ++ [dO es]) = (l ++ o :: r) ++ dO es :: [] := by simp
  rw [this]
  exact hp_get _ _ _ (by simp; omega)

theorem ev_entries {orc : Orc} {s : Shared} {a : Nat} {part : Option Value} {es : List DictEntry} (h : s.heap.get? a = some (dO es)) : ev orc n₀ S (dictEntries a part) p s = some (es.toArray, p, s, 1) := by
  unfold dictEntries
  exact ev_bind2 (n := 1) (k := 0) (ev_loadPart h) rfl
theorem ev_epoch {orc : Orc} {s : Shared} {a : Nat} {part : Option Value} {es : List DictEntry} (h : s.heap.get? a = some (dO es)) : ev orc n₀ S (dictEpoch a part) p s = some (es.length, p, s, 1) := by
  unfold dictEpoch
  exact ev_bind2 (n := 1) (k := 0) (ev_loadPart h) rfl

/-- the entries are those of ints -/
noncomputable def IntEnt (fs : List DictEntry) : Prop := ∀ e ∈ fs, ∃ k t, e.key = .int k t
theorem entL_int : ∀ (tk : Nat) (ps : List (Int × Str)), IntEnt (entL tk ps)
  | _, [], e, h => by cases h
  | tk, (k, v) :: r, e, h => by
    rcases List.mem_cons.mp h with rfl | h
    · exact ⟨k, tk, rfl⟩
    · exact entL_int _ r e h
theorem entS_int : ∀ (ps : List (Int × Str)) (tk : Nat), IntEnt (entS ps tk)
  | [], _, e, h => by cases h
  | (k, v) :: r, tk, e, h => by
    rcases List.mem_cons.mp h with rfl | h
    · exact ⟨k, tk, rfl⟩
    · exact entS_int r _ e h

theorem ev_merge (tk : Nat) (hd : d = l.length) (hd0 : n₀ ≤ d) (ha : a = l.length + 1 + r.length) (has : (a == sysModules) = false) (hne : es ≠ []) (hi : IntEnt fs) (hsz : es.length + fs.length ≤ 1000)
    (hno : ∀ e ∈ es, ∀ f ∈ fs, e.hash ≠ f.hash) (hpw : (fs.map (·.hash)).Pairwise (· ≠ ·)) :
    ev orcHash n₀ S (mergeMapping d (.ref a) false) p (stt gens drawn os (l ++ dO es :: (r ++ [dO fs])) tk) =
      some ((), p, stt gens drawn os (l ++ dO (es ++ fs) :: (r ++ [dO fs])) tk, 6 * fs.length + 5) := by
  have g1 : ∀ es' : List DictEntry, (stt gens drawn os (l ++ dO es' :: (r ++ [dO fs])) tk).heap.get? d = some (dO es') := fun es' => hp_get _ _ _ hd
  have g2 : ∀ es' : List DictEntry, (stt gens drawn os (l ++ dO es' :: (r ++ [dO fs])) tk).heap.get? a = some (dO fs) := fun es' => hp_get2 _ _ _ _ ha
  have ty : ev orcHash n₀ S (typeOf (.ref a)) p (stt gens drawn os (l ++ dO es :: (r ++ [dO fs])) tk) = some (.type "dict", p, stt gens drawn os (l ++ dO es :: (r ++ [dO fs])) tk, 1) :=
    ev_bind2 (n := 1) (k := 0) (ev_loadPart (g2 es)) rfl
  unfold mergeMapping
  refine ev_bindN (n := 1) (k := 6 * fs.length + 4) (a := true) (p' := p) (s' := stt gens drawn os (l ++ dO es :: (r ++ [dO fs])) tk) ?_ ?_
  · unfold isInstance
    refine ev_bindN (n := 1) (k := 0) ty ?_
    have : isSubtype (.type "dict") (.type "dict") = pure true := by kernel_rfl!
    rw [this]; rfl
  · rw [if_pos rfl]
    refine ev_bindN (n := 1) (k := 6 * fs.length + 3) (a := some (.builtin "dict.__iter__")) (p' := p) (s' := stt gens drawn os (l ++ dO es :: (r ++ [dO fs])) tk) ?_ ?_
    · unfold specialOf
      refine ev_bindN (n := 1) (k := 0) ty ?_
      have : typeLookup (.type "dict") "__iter__" = pure (some (.builtin "dict.__iter__")) := by kernel_rfl!
      rw [this]; rfl
    have hb : (some (Value.builtin "dict.__iter__") == some (.builtin "dict.__iter__")) = true := by kernel_rfl!
    rw [hb]
    show ev orcHash n₀ S (if (a == sysModules) = true then _ else _) p (stt gens drawn os (l ++ dO es :: (r ++ [dO fs])) tk) = _
    rw [if_neg (by rw [has]; exact Bool.false_ne_true)]
    refine ev_bindN (n := 1) (k := 6 * fs.length + 2) (ev_entries (g1 es)) ?_
    have hemp : es.toArray.isEmpty = false := by
      cases es with
      | nil => exact absurd rfl hne
      | cons _ _ => rfl
    rw [if_neg (by rw [hemp]; exact Bool.false_ne_true)]
    refine ev_bindN (n := 1) (k := 6 * fs.length + 1) (ev_entries (g2 es)) ?_
    refine ev_bindN (n := 1) (k := 6 * fs.length) (ev_epoch (g2 es)) ?_
    refine ev_bindN (n := 6 * fs.length) (k := 0) (a := PUnit.unit) (p' := p) (s' := stt gens drawn os (l ++ dO (es ++ fs.take fs.length) :: (r ++ [dO fs])) tk) ?_ ?_
    · have e0 : stt gens drawn os (l ++ dO es :: (r ++ [dO fs])) tk = stt gens drawn os (l ++ dO (es ++ fs.take 0) :: (r ++ [dO fs])) tk := by rw [List.take_zero, List.append_nil]
      rw [e0]
      refine ev_range (fun j => stt gens drawn os (l ++ dO (es ++ fs.take j) :: (r ++ [dO fs])) tk) fs.length ?_
      · intro j hj
        dsimp only
        refine ev_bindN (n := 1) (k := 5) (ev_entries (g2 _)) ?_
        rw [List.getElem?_toArray, List.getElem?_eq_getElem hj]
        dsimp only
        rw [if_neg Bool.false_ne_true]
        obtain ⟨k, t, hk⟩ := hi fs[j] (List.getElem_mem hj)
        have hput : ev orcHash n₀ S (dictPut d fs[j].hash fs[j].key fs[j].val) p (stt gens drawn os (l ++ dO (es ++ fs.take j) :: (r ++ [dO fs])) tk) =
            some ((), p, stt gens drawn os (l ++ dO (es ++ fs.take (j + 1)) :: (r ++ [dO fs])) tk, 4) := by
          have := ev_dictPut (n₀ := n₀) (S := S) (p := p) (s := stt gens drawn os (l ++ dO (es ++ fs.take j) :: (r ++ [dO fs])) tk) (r := r ++ [dO fs]) (es := es ++ fs.take j) (k := k) (t := t) (v := fs[j].val) (h := fs[j].hash) hd hd0 rfl
            (by rw [List.length_append, List.length_take]; omega) ?_
          · rw [← hk] at this
            rw [this, List.take_succ_eq_append_getElem hj, ← List.append_assoc]
          · intro e he
            rcases List.mem_append.mp he with he | he
            · exact hno e he _ (List.getElem_mem hj)
            · obtain ⟨i, hi1, rfl⟩ := List.mem_iff_getElem.mp he
              rw [List.getElem_take]
              have hi2 : i < j := by simp at hi1; omega
              have := List.pairwise_iff_getElem.mp hpw i j (by simp; omega) (by simpa using hj) hi2
              simpa using this
        refine ev_bindN (n := 4) (k := 1) (ev_holding hput) ?_
        refine ev_bindN (n := 1) (k := 0) (ev_epoch (g2 _)) ?_
        rw [if_neg (by simp)]
        rfl
    · rw [List.take_length]; rfl
end
end Mine
end partD6

section partD7
open PySem PySem.W PyProof.Rows
namespace Mine
section
variable {n₀ : Nat} {S : Setting} {l r : List Obj} {es fs : List DictEntry} {d a : Nat} {gens : Array GenState} {drawn : Drawn} {os : OsState} {p : Pos}

theorem ev_evalPairs (pos : Pos) (lst : List Obj) : ∀ (ps : List (Int × Str)) (tk : Nat) (p : Pos), ∃ p',
    ev orcHash n₀ S (evalPairs (ps.map fun x => (kT x.1, vT pos x.2))) p (stt gens drawn os lst tk) = some (valS tk ps, p', stt gens drawn os lst (tk + 2 * ps.length), 3 * ps.length)
  | [], tk, p => ⟨p, rfl⟩
  | (k, v) :: ps, tk, p => by
    obtain ⟨p', ih⟩ := ev_evalPairs pos lst ps (tk + 2) pos
    refine ⟨p', ?_⟩
    rw [List.map_cons, evalPairs]
    refine ev_bindN (n := 1) (k := 3 * ps.length + 2) (a := .int k tk) (p' := p) (s' := stt gens drawn os lst (tk + 1)) rfl ?_ (by rw [List.length_cons]; omega)
    refine ev_bindN (n := 2) (k := 3 * ps.length) (a := .str v (tk + 1)) (p' := pos) (s' := stt gens drawn os lst (tk + 2)) rfl ?_
    refine ev_bindN (n := 3 * ps.length) (k := 0) (ev_holding ih) ?_
    rw [List.length_cons, show tk + 2 + 2 * ps.length = tk + 2 * (ps.length + 1) by omega]
    rfl

theorem ev_storeS (hd : d = l.length) (hd0 : n₀ ≤ d) (p : Pos) : ∀ (ps : List (Int × Str)) (es : List DictEntry) (tk : Nat) (tk2 : Nat), (es.length + ps.length ≤ 1000) →
    (∀ e ∈ es, ∀ x ∈ ps, e.hash ≠ hashInt x.1) → ((ps.map fun x => hashInt x.1).Pairwise (· ≠ ·)) →
    ev orcHash n₀ S (forIn (valS tk ps) PUnit.unit fun (x : Value × Value) (_ : PUnit) => (do dictSet d x.1 x.2; pure (ForInStep.yield PUnit.unit) : Sem (ForInStep PUnit))) p (stt gens drawn os (l ++ dO es :: r) tk2) =
    some (PUnit.unit, p, stt gens drawn os (l ++ dO (es ++ entS ps tk) :: r) (tk2 + ps.length), 10 * ps.length)
  | [], es, tk, tk2, _, _, _ => by simp [entS, valS]; rfl
  | (k, v) :: ps, es, tk, tk2, hsz, hno, hpw => by
    rw [List.length_cons] at hsz
    obtain ⟨hp1, hp2⟩ := List.pairwise_cons.mp hpw
    have ih := ev_storeS hd hd0 p ps (es ++ [⟨hashInt k, .int k tk, .str v (tk + 1)⟩]) (tk + 2) (tk2 + 1) (by simp; omega) (by
      intro e he x hx
      rcases List.mem_append.mp he with h | h
      · exact hno e h x (List.mem_cons_of_mem _ hx)
      · simp only [List.mem_singleton] at h
        subst h
        exact hp1 _ (List.mem_map_of_mem hx)) hp2
    show ev orcHash n₀ S (forIn ((Value.int k tk, Value.str v (tk + 1)) :: valS (tk + 2) ps) PUnit.unit _) p _ = _
    rw [List.forIn_cons]
    have e1 : ev orcHash n₀ S (dictSet d (.int k tk) (.str v (tk + 1))) p (stt gens drawn os (l ++ dO es :: r) tk2) =
        some ((), p, stt gens drawn os (l ++ dO (es ++ [⟨hashInt k, .int k tk, .str v (tk + 1)⟩]) :: r) (tk2 + 1), 10) :=
      ev_dictSet hd hd0 rfl (by omega) (fun e he => hno e he _ (List.mem_cons_self ..))
    have e2 : ev orcHash n₀ S (do dictSet d (.int k tk) (.str v (tk + 1)); pure (ForInStep.yield PUnit.unit) : Sem (ForInStep PUnit)) p (stt gens drawn os (l ++ dO es :: r) tk2) =
        some (ForInStep.yield PUnit.unit, p, stt gens drawn os (l ++ dO (es ++ [⟨hashInt k, .int k tk, .str v (tk + 1)⟩]) :: r) (tk2 + 1), 10) := ev_bindN (n := 10) (k := 0) e1 rfl
    refine (ev_bindN (N := 10 * (ps.length + 1)) e2 ih).trans ?_
    simp only [entS, List.append_assoc, List.cons_append, List.nil_append, List.length_cons]
    rw [show tk2 + 1 + ps.length = tk2 + (ps.length + 1) by omega]

theorem ev_subDict_short (pos : Pos) (ps : List (Int × Str)) (hlen : ps.length ≤ 15) (hpw : (ps.map fun x => hashInt x.1).Pairwise (· ≠ ·)) (hl : n₀ ≤ l.length) (tk : Nat) (p : Pos) : ∃ p',
    ev orcHash n₀ S (subDict (ps.map fun x => (kT x.1, vT pos x.2))) p (stt gens drawn os l tk) = some (l.length, p', stt gens drawn os (l ++ [dO (entS ps tk)]) (tk + 3 * ps.length), 13 * ps.length + 1) := by
  obtain ⟨p', h⟩ := ev_evalPairs (n₀ := n₀) (S := S) (gens := gens) (drawn := drawn) (os := os) pos (l ++ [dO []]) ps tk p
  have h2 := ev_storeS (gens := gens) (drawn := drawn) (os := os) (r := []) (S := S) (d := l.length) rfl hl p' ps [] tk (tk + 2 * ps.length) (by simpa using Nat.le_trans hlen (by decide)) (fun e he => (by cases he)) hpw
  refine ⟨p', ?_⟩
  unfold subDict
  refine ev_bindN (n := 1) (k := 13 * ps.length) (a := l.length) (p' := p) (s' := stt gens drawn os (l ++ [dO []]) tk) ?_ ?_
  · show some (_, _, _, _) = _
    simp only [stt, hp_push]
    rfl
  · show ev orcHash n₀ S (holding [.ref l.length] _ >>= fun _ => pure l.length) p (stt gens drawn os (l ++ [dO []]) tk) = _
    refine ev_bindN (n := 13 * ps.length) (k := 0) (a := ()) (p' := p') (s' := stt gens drawn os (l ++ [dO (entS ps tk)]) (tk + 3 * ps.length)) ?_ rfl
    refine ev_holding ?_
    rw [if_pos (by rw [List.length_map]; exact hlen)]
    refine ev_bindN h ?_ (k := 10 * ps.length)
    refine ev_holding ?_
    refine (ev_bindN (k := 0) (N := 10 * ps.length) h2 rfl).trans ?_
    rw [show tk + 2 * ps.length + ps.length = tk + 3 * ps.length by omega]
    rfl

/-- gathering below seventeen is no work -/
theorem gather_eq {γ : Type} (f : (Option (Sem Value) × Sem Value) → (γ × List (Sem Value × Sem Value)) → Sem (ForInStep (γ × List (Sem Value × Sem Value)))) (main : γ)
    (hf : ∀ (q : Sem Value × Sem Value) (run : List (Sem Value × Sem Value)), run.length + 1 < 17 → f (some q.1, q.2) (main, run) = pure (.yield (main, run ++ [q]))) (rest : List (Option (Sem Value) × Sem Value)) :
    ∀ (qs run : List (Sem Value × Sem Value)), run.length + qs.length < 17 → forIn (qs.map (fun q => (some q.1, q.2)) ++ rest) (main, run) f = forIn rest (main, run ++ qs) f
  | [], run, _ => by simp
  | q :: qs, run, h => by
    rw [List.map_cons, List.cons_append, List.forIn_cons, hf q run (by simp at h; omega), pure_bind]
    have := gather_eq f main hf rest qs (run ++ [q]) (by simp at h ⊢; omega)
    simpa using this
end
end Mine
end partD7

section partD8
open PySem PySem.W PyProof.Rows
namespace Mine

noncomputable def flushT (run : List (Sem Value × Sem Value)) (main : Option Addr) : Sem (Option Addr) :=
  if run.isEmpty = true then pure main else match main with
  | none => do let x ← subDict run; pure (some x)
  | some d => do
    let sub ← holding [.ref d] (subDict run)
    (holding [.ref d, .ref sub] (mergeMapping d (.ref sub) false)).onRaise fun x => do let _ ← holding [.ref d, x] (runValue (.builtin "proto.let_go" {})); pure ()
    pure (some d)
noncomputable abbrev LoopF := (Option (Sem Value) × Sem Value) → (Option Addr × List (Sem Value × Sem Value)) → Sem (ForInStep (Option Addr × List (Sem Value × Sem Value)))
structure LoopOk (f : LoopF) : Prop where
  small : ∀ (main : Option Addr) (q : Sem Value × Sem Value) (run : List (Sem Value × Sem Value)), run.length + 1 < 17 → f (some q.1, q.2) (main, run) = pure (.yield (main, run ++ [q]))
  full : ∀ (main : Option Addr) (q : Sem Value × Sem Value) (run : List (Sem Value × Sem Value)), run.length + 1 = 17 → f (some q.1, q.2) (main, run) = (flushT (run ++ [q]) main >>= fun m => pure (.yield (m, [])))

theorem display_eq (items : List (Option (Sem Value) × Sem Value)) : ∃ f, LoopOk f ∧ dictDisplay items = (forIn items (none, []) f >>= fun s => flushT s.2 s.1 >>= fun m => match m with | some d => pure (.ref d) | none => newDict) := by
  unfold dictDisplay
  dsimp only
  refine ⟨_, ⟨?_, ?_⟩, rfl⟩
  · intro main q run h
    dsimp only
    rw [if_neg (by simp; omega)]
  · intro main q run h
    dsimp only
    rw [if_pos (by simp; omega)]
    rfl

noncomputable def entsOf : Nat → List (List (Int × Str)) → List DictEntry
  | _, [] => []
  | tk, c :: cs => entL tk c ++ entsOf (tk + 3 * c.length) cs
noncomputable def subsOf : Nat → List (List (Int × Str)) → List Obj
  | _, [] => []
  | tk, c :: cs => dO (entL tk c) :: subsOf (tk + 3 * c.length) cs
noncomputable def toksOf : List (List (Int × Str)) → Nat
  | [] => 0
  | c :: cs => 3 * c.length + toksOf cs
noncomputable abbrev pairT (pos : Pos) (x : Int × Str) : Sem Value × Sem Value := (kT x.1, vT pos x.2)
noncomputable abbrev itT (pos : Pos) (x : Int × Str) : Option (Sem Value) × Sem Value := (some (kT x.1), vT pos x.2)

section
variable {n₀ : Nat} {S : Setting} {l r : List Obj} {es fs : List DictEntry} {d a : Nat} {gens : Array GenState} {drawn : Drawn} {os : OsState} {p : Pos}

theorem ev_flush (pos : Pos) (c : List (Int × Str)) (hc : c ≠ []) (tk : Nat) (hl : n₀ ≤ l.length) (hsys : sysModules < l.length) (hne : es ≠ []) (hsz : es.length + c.length ≤ 1000)
    (hno : ∀ e ∈ es, ∀ x ∈ c, e.hash ≠ hashInt x.1) (hpw : (c.map fun x => hashInt x.1).Pairwise (· ≠ ·)) (p : Pos) : ∃ p' n, n ≤ 30 * c.length + 20 ∧
    ev orcHash n₀ S (flushT (c.map (pairT pos)) (some l.length)) p (stt gens drawn os (l ++ dO es :: r) tk) =
      some (some l.length, p', stt gens drawn os (l ++ dO (es ++ (if c.length ≤ 15 then entS c tk else entL tk c)) :: (r ++ [dO (if c.length ≤ 15 then entS c tk else entL tk c)])) (tk + 3 * c.length), n) := by
  have hlen : (l ++ dO es :: r).length = l.length + 1 + r.length := by simp; omega
  have hsub : ∃ p' n, n ≤ 13 * c.length + 2 ∧ ev orcHash n₀ S (subDict (c.map (pairT pos))) p (stt gens drawn os (l ++ dO es :: r) tk) = some ((l ++ dO es :: r).length, p', stt gens drawn os ((l ++ dO es :: r) ++ [dO (if c.length ≤ 15 then entS c tk else entL tk c)]) (tk + 3 * c.length), n) := by
    by_cases h : c.length ≤ 15
    · rw [if_pos h]
      obtain ⟨p', e⟩ := ev_subDict_short (n₀ := n₀) (S := S) (gens := gens) (drawn := drawn) (os := os) (l := l ++ dO es :: r) pos c h hpw (by rw [hlen]; omega) tk p
      exact ⟨p', _, by omega, e⟩
    · rw [if_neg h]
      obtain ⟨p', e⟩ := ev_subDict_long (n₀ := n₀) (S := S) (gens := gens) (drawn := drawn) (os := os) (l := l ++ dO es :: r) pos c (by omega) (by omega) hpw (by rw [hlen]; omega) tk p
      exact ⟨p', _, Nat.le_refl _, e⟩
  obtain ⟨p', n, hn, hsub⟩ := hsub
  generalize hF : (if c.length ≤ 15 then entS c tk else entL tk c) = F at hsub ⊢
  have hFl : F.length = c.length := by subst hF; split <;> simp [entS_len, entL_len]
  have hFi : IntEnt F := by subst hF; split; exact entS_int _ _; exact entL_int _ _
  have hFh : F.map (·.hash) = c.map fun x => hashInt x.1 := by subst hF; split; exact entS_hash _ _; exact entL_hash _ _
  have hm := ev_merge (n₀ := n₀) (S := S) (gens := gens) (drawn := drawn) (os := os) (p := p') (l := l) (r := r) (es := es) (fs := F) (d := l.length) (a := (l ++ dO es :: r).length) (tk + 3 * c.length) rfl hl hlen
    (beq_eq_false_iff_ne.mpr (Nat.ne_of_gt (Nat.lt_of_lt_of_le hsys (show l.length ≤ (l ++ dO es :: r).length by rw [hlen]; omega)))) hne hFi (by omega) (by
      intro e he f hf
      have : f.hash ∈ F.map (·.hash) := List.mem_map_of_mem hf
      rw [hFh] at this
      obtain ⟨x, hx, e'⟩ := List.mem_map.mp this
      rw [← e']
      exact hno e he x hx) (by rw [hFh]; exact hpw)
  refine ⟨p', n + (6 * F.length + 5), by omega, ?_⟩
  unfold flushT
  rw [if_neg (by cases c with | nil => exact absurd rfl hc | cons _ _ => simp)]
  dsimp only
  rw [List.append_assoc, List.cons_append] at hsub
  refine ev_bindN (n := n) (k := 6 * F.length + 5) (ev_holding hsub) ?_
  refine ev_bindN (n := 6 * F.length + 5) (k := 0) (ev_onRaise (ev_holding hm)) rfl

theorem ev_flush0 (pos : Pos) (c : List (Int × Str)) (hc : 15 < c.length) (tk : Nat) (hl : n₀ ≤ l.length) (hsz : c.length ≤ 1000) (hpw : (c.map fun x => hashInt x.1).Pairwise (· ≠ ·)) (p : Pos) : ∃ p' n, n ≤ 30 * c.length + 20 ∧
    ev orcHash n₀ S (flushT (c.map (pairT pos)) none) p (stt gens drawn os l tk) = some (some l.length, p', stt gens drawn os (l ++ [dO (entL tk c)]) (tk + 3 * c.length), n) := by
  obtain ⟨p', e⟩ := ev_subDict_long (n₀ := n₀) (S := S) (gens := gens) (drawn := drawn) (os := os) (l := l) pos c hc hsz hpw hl tk p
  refine ⟨p', 13 * c.length + 2, by omega, ?_⟩
  unfold flushT
  rw [if_neg (by cases c with | nil => simp at hc | cons _ _ => simp)]
  exact ev_bindN (k := 0) e rfl

/-- a full run of seventeen -/
theorem ev_turn {f : LoopF} (hf : LoopOk f) (pos : Pos) (c : List (Int × Str)) (hc : c.length = 17) (rest : List (Option (Sem Value) × Sem Value)) (main : Option Addr) {s s' : Shared} {p p' : Pos} {n : Nat} {D : Option Addr}
    (h : ev orcHash n₀ S (flushT (c.map (pairT pos)) main) p s = some (D, p', s', n)) :
    ev orcHash n₀ S (forIn (c.map (itT pos) ++ rest) (main, []) f) p s = (ev orcHash n₀ S (forIn rest (D, []) f) p' s').map (bump n) := by
  obtain ⟨c0, q, rfl⟩ : ∃ c0 q, c = c0 ++ [q] := ⟨c.dropLast, c.getLast (by intro e; subst e; cases hc), (List.dropLast_concat_getLast _).symm⟩
  have hc0 : c0.length = 16 := by simpa using hc
  have e1 : (c0 ++ [q]).map (itT pos) ++ rest = (c0.map (pairT pos)).map (fun q => (some q.1, q.2)) ++ (itT pos q :: rest) := by simp [Function.comp_def]
  rw [e1, gather_eq f main (hf.small main) (itT pos q :: rest) (c0.map (pairT pos)) [] (by simp; omega), List.forIn_cons, List.nil_append]
  have e2 := hf.full main (pairT pos q) (c0.map (pairT pos)) (by simp; omega)
  rw [show itT pos q = (some (pairT pos q).1, (pairT pos q).2) from rfl, e2]
  have e3 : c0.map (pairT pos) ++ [pairT pos q] = (c0 ++ [q]).map (pairT pos) := by simp
  rw [e3]
  have e4 : ev orcHash n₀ S (flushT ((c0 ++ [q]).map (pairT pos)) main >>= fun m => (pure (.yield (m, [])) : Sem (ForInStep (Option Addr × List (Sem Value × Sem Value))))) p s = some (.yield (D, []), p', s', n) := by
    rw [ev_bind h]; show some (_, _, _, _) = _; simp [bump]
  exact ev_bind e4

theorem ev_chunks {f : LoopF} (hf : LoopOk f) (pos : Pos) (rest : List (Option (Sem Value) × Sem Value)) (hl : n₀ ≤ l.length) (hsys : sysModules < l.length) : ∀ (cs : List (List (Int × Str))) (es : List DictEntry) (r : List Obj) (tk : Nat) (p : Pos),
    es ≠ [] → (∀ c ∈ cs, c.length = 17) → es.length + cs.flatten.length ≤ 1000 → (∀ e ∈ es, ∀ x ∈ cs.flatten, e.hash ≠ hashInt x.1) → (cs.flatten.map fun x => hashInt x.1).Pairwise (· ≠ ·) → ∃ p' n, n ≤ 530 * cs.length ∧
    ev orcHash n₀ S (forIn (cs.flatten.map (itT pos) ++ rest) (some l.length, []) f) p (stt gens drawn os (l ++ dO es :: r) tk) =
      (ev orcHash n₀ S (forIn rest (some l.length, []) f) p' (stt gens drawn os (l ++ dO (es ++ entsOf tk cs) :: (r ++ subsOf tk cs)) (tk + toksOf cs))).map (bump n)
  | [], es, r, tk, p, _, _, _, _, _ => ⟨p, 0, by omega, by rw [bump_zero]; simp [entsOf, subsOf, toksOf]⟩
  | c :: cs, es, r, tk, p, hne, hlen, hsz, hno, hpw => by
    have hc : c.length = 17 := hlen c (List.mem_cons_self ..)
    rw [List.flatten_cons, List.length_append] at hsz
    rw [List.flatten_cons, List.map_append, List.pairwise_append] at hpw
    obtain ⟨hp1, hp2, hp3⟩ := hpw
    obtain ⟨p1, n1, hn1, e1⟩ := ev_flush (n₀ := n₀) (S := S) (gens := gens) (drawn := drawn) (os := os) (l := l) (r := r) (es := es) pos c (by intro e; subst e; cases hc) tk hl hsys hne (by omega)
      (fun e he x hx => hno e he x (by rw [List.flatten_cons]; exact List.mem_append_left _ hx)) hp1 p
    rw [if_neg (by omega)] at e1
    obtain ⟨p2, n2, hn2, e2⟩ := ev_chunks hf pos rest hl hsys cs (es ++ entL tk c) (r ++ [dO (entL tk c)]) (tk + 3 * c.length) p1 (by simp [hne]) (fun c' h' => hlen c' (List.mem_cons_of_mem _ h'))
      (by rw [List.length_append, entL_len]; omega) (by
        intro e he x hx
        rcases List.mem_append.mp he with he | he
        · exact hno e he x (by rw [List.flatten_cons]; exact List.mem_append_right _ hx)
        · have : e.hash ∈ (entL tk c).map (·.hash) := List.mem_map_of_mem he
          rw [entL_hash] at this
          exact hp3 _ this _ (List.mem_map_of_mem hx)) hp2
    refine ⟨p2, n2 + n1, by rw [List.length_cons]; omega, ?_⟩
    rw [List.flatten_cons, List.map_append, List.append_assoc, ev_turn hf pos c hc _ _ e1, e2, bump_bump]
    simp only [entsOf, subsOf, toksOf, List.append_assoc, List.cons_append, List.nil_append]
    rw [show tk + 3 * c.length + toksOf cs = tk + (3 * c.length + toksOf cs) by omega]

/-- the whole display: a first full run, more full runs, and a short last one -/
theorem ev_display (pos : Pos) (c0 : List (Int × Str)) (cs : List (List (Int × Str))) (last : List (Int × Str)) (hl : n₀ ≤ l.length) (hsys : sysModules < l.length) (tk : Nat) (p : Pos)
    (h0 : c0.length = 17) (hlen : ∀ c ∈ cs, c.length = 17) (hlast : last ≠ [] ∧ last.length ≤ 15) (hsz : (c0 ++ cs.flatten ++ last).length ≤ 1000) (hpw : ((c0 ++ cs.flatten ++ last).map fun x => hashInt x.1).Pairwise (· ≠ ·)) : ∃ p' n, n ≤ 530 * cs.length + 2000 ∧
    ev orcHash n₀ S (dictDisplay ((c0 ++ cs.flatten ++ last).map (itT pos))) p (stt gens drawn os l tk) =
      some (.ref l.length, p', stt gens drawn os (l ++ dO (entsOf tk (c0 :: cs) ++ entS last (tk + toksOf (c0 :: cs))) :: (subsOf (tk + 3 * c0.length) cs ++ [dO (entS last (tk + toksOf (c0 :: cs)))])) (tk + toksOf (c0 :: cs) + 3 * last.length), n) := by
  obtain ⟨f, hf, he⟩ := display_eq ((c0 ++ cs.flatten ++ last).map (itT pos))
  rw [he]
  simp only [List.length_append] at hsz
  rw [List.map_append, List.map_append, List.append_assoc, List.pairwise_append, List.pairwise_append] at hpw
  obtain ⟨hp0, ⟨hp1, hp2, hp12⟩, hp0x⟩ := hpw
  obtain ⟨p1, n1, hn1, e1⟩ := ev_flush0 (n₀ := n₀) (S := S) (gens := gens) (drawn := drawn) (os := os) (l := l) pos c0 (by omega) tk hl (by omega) hp0 p
  have t1 := ev_turn hf pos c0 h0 ((cs.flatten ++ last).map (itT pos)) none e1
  have hent : ∀ e ∈ entL tk c0, e.hash ∈ c0.map fun x => hashInt x.1 := fun e he => by rw [← entL_hash tk c0]; exact List.mem_map_of_mem he
  obtain ⟨p2, n2, hn2, e2⟩ := ev_chunks (n₀ := n₀) (S := S) (gens := gens) (drawn := drawn) (os := os) (l := l) hf pos (last.map (itT pos)) hl hsys cs (entL tk c0) [] (tk + 3 * c0.length) p1 (by intro e; have := congrArg List.length e; rw [entL_len, h0] at this; cases this) hlen
    (by rw [entL_len]; omega) (fun e he x hx => hp0x _ (hent e he) _ (List.mem_append_left _ (List.mem_map_of_mem hx))) hp1
  have e3 : ev orcHash n₀ S (forIn (last.map (itT pos)) (some l.length, []) f) p2 (stt gens drawn os (l ++ dO (entL tk c0 ++ entsOf (tk + 3 * c0.length) cs) :: ([] ++ subsOf (tk + 3 * c0.length) cs)) (tk + 3 * c0.length + toksOf cs)) =
      some ((some l.length, last.map (pairT pos)), p2, stt gens drawn os (l ++ dO (entL tk c0 ++ entsOf (tk + 3 * c0.length) cs) :: ([] ++ subsOf (tk + 3 * c0.length) cs)) (tk + 3 * c0.length + toksOf cs), 0) := by
    have g := gather_eq f (some l.length) (hf.small _) [] (last.map (pairT pos)) [] (by simp; omega)
    rw [List.append_nil, List.nil_append, List.forIn_nil] at g
    have e4 : last.map (itT pos) = (last.map (pairT pos)).map (fun q => (some q.1, q.2)) := by simp [Function.comp_def]
    rw [e4, g]; rfl
  have elen : ∀ (tk : Nat) (cs : List (List (Int × Str))), (entsOf tk cs).map (·.hash) = cs.flatten.map fun x => hashInt x.1 := by
    intro tk cs
    induction cs generalizing tk with
    | nil => rfl
    | cons c cs ih => rw [entsOf, List.map_append, entL_hash, ih, List.flatten_cons, List.map_append]
  have elen2 : ∀ (tk : Nat) (cs : List (List (Int × Str))), (entsOf tk cs).length = cs.flatten.length := fun tk cs => by
    have := congrArg List.length (elen tk cs); rwa [List.length_map, List.length_map] at this
  obtain ⟨p5, n5, hn5, e5⟩ := ev_flush (n₀ := n₀) (S := S) (gens := gens) (drawn := drawn) (os := os) (l := l) (r := subsOf (tk + 3 * c0.length) cs) (es := entL tk c0 ++ entsOf (tk + 3 * c0.length) cs) pos last hlast.1 (tk + 3 * c0.length + toksOf cs) hl hsys
    (by intro e; have := congrArg List.length e; rw [List.length_append, entL_len, h0] at this; simp at this) (by rw [List.length_append, entL_len, elen2]; omega) (by
      intro e he x hx
      rcases List.mem_append.mp he with he | he
      · exact hp0x _ (hent e he) _ (List.mem_append_right _ (List.mem_map_of_mem hx))
      · have : e.hash ∈ (entsOf (tk + 3 * c0.length) cs).map (·.hash) := List.mem_map_of_mem he
        rw [elen] at this
        exact hp12 _ this _ (List.mem_map_of_mem hx)) hp2 p2
  rw [if_pos hlast.2] at e5
  refine ⟨p5, n5 + (n1 + n2), by omega, ?_⟩
  have e6 : ev orcHash n₀ S (forIn ((c0 ++ cs.flatten ++ last).map (itT pos)) (none, []) f) p (stt gens drawn os l tk) = some ((some l.length, last.map (pairT pos)), p2, stt gens drawn os (l ++ dO (entL tk c0 ++ entsOf (tk + 3 * c0.length) cs) :: (subsOf (tk + 3 * c0.length) cs)) (tk + 3 * c0.length + toksOf cs), n1 + n2) := by
    rw [List.map_append, List.map_append, List.append_assoc, ← List.map_append, t1, List.map_append, e2, e3]
    simp [bump, Nat.add_comm]
  refine ev_bindN e6 (k := n5) ?_
  refine ev_bindN (k := 0) e5 ?_
  simp only [toksOf, entsOf, List.append_assoc]
  rw [show tk + (3 * c0.length + toksOf cs) = tk + 3 * c0.length + toksOf cs by omega]
  rfl
end
end Mine
end partD8

section partHead02a
open PySem PySem.W PyProof.Rows
set_option maxRecDepth 100000
namespace Mine
noncomputable abbrev prog : Program := PySem.Challenge.pw_st0016_02
noncomputable def fnObj (i : Nat) (cls : Value) (g : Addr) (pm cd : Value) : Obj := match prog.main.body[i]? with
  | some (.FunctionDef name args body _ _ _ scope _ _ _) => { cls := cls, data := .func { name := name, qualname := name, params := args, body := .stmts body, scope := scope, globals := g, closure := [], defaults := .none, kwdefaults := .none, pyModule := pm, code := cd } }
  | _ => default

noncomputable def hd.o_1 (P : Params) : Obj := { cls := Value.type "dict", data := Data.dict #[{ hash := PyData.keyHash P (Str.ofString "__name__"), key := Value.str (Str.ofString "__name__") 1, val := Value.str (Str.ofString "builtins") 160 }, { hash := PyData.keyHash P (Str.ofString "__doc__"), key := Value.str (Str.ofString "__doc__") 2, val := Value.builtin "builtins.__doc__:str#opaque" }, { hash := PyData.keyHash P (Str.ofString "__package__"), key := Value.str (Str.ofString "__package__") 3, val := Value.builtin "builtins.__package__:str#opaque" }, { hash := PyData.keyHash P (Str.ofString "__loader__"), key := Value.str (Str.ofString "__loader__") 4, val := Value.builtin "builtins.__loader__:shared#opaque" }, { hash := PyData.keyHash P (Str.ofString "__spec__"), key := Value.str (Str.ofString "__spec__") 5, val := Value.builtin "builtins.__spec__#opaque" }, { hash := PyData.keyHash P (Str.ofString "__build_class__"), key := Value.str (Str.ofString "__build_class__") 6, val := Value.builtin "__build_class__" }, { hash := PyData.keyHash P (Str.ofString "__import__"), key := Value.str (Str.ofString "__import__") 7, val := Value.builtin "__import__" }, { hash := PyData.keyHash P (Str.ofString "abs"), key := Value.str (Str.ofString "abs") 8, val := Value.builtin "abs" }, { hash := PyData.keyHash P (Str.ofString "all"), key := Value.str (Str.ofString "all") 9, val := Value.builtin "all" }, { hash := PyData.keyHash P (Str.ofString "any"), key := Value.str (Str.ofString "any") 10, val := Value.builtin "any" }, { hash := PyData.keyHash P (Str.ofString "ascii"), key := Value.str (Str.ofString "ascii") 11, val := Value.builtin "ascii" }, { hash := PyData.keyHash P (Str.ofString "bin"), key := Value.str (Str.ofString "bin") 12, val := Value.builtin "bin" }, { hash := PyData.keyHash P (Str.ofString "breakpoint"), key := Value.str (Str.ofString "breakpoint") 13, val := Value.builtin "breakpoint" }, { hash := PyData.keyHash P (Str.ofString "callable"), key := Value.str (Str.ofString "callable") 14, val := Value.builtin "callable" }, { hash := PyData.keyHash P (Str.ofString "chr"), key := Value.str (Str.ofString "chr") 15, val := Value.builtin "chr" }, { hash := PyData.keyHash P (Str.ofString "compile"), key := Value.str (Str.ofString "compile") 16, val := Value.builtin "compile" }, { hash := PyData.keyHash P (Str.ofString "delattr"), key := Value.str (Str.ofString "delattr") 17, val := Value.builtin "delattr" }, { hash := PyData.keyHash P (Str.ofString "dir"), key := Value.str (Str.ofString "dir") 18, val := Value.builtin "dir" }, { hash := PyData.keyHash P (Str.ofString "divmod"), key := Value.str (Str.ofString "divmod") 19, val := Value.builtin "divmod" }, { hash := PyData.keyHash P (Str.ofString "eval"), key := Value.str (Str.ofString "eval") 20, val := Value.builtin "eval" }, { hash := PyData.keyHash P (Str.ofString "exec"), key := Value.str (Str.ofString "exec") 21, val := Value.builtin "exec" }, { hash := PyData.keyHash P (Str.ofString "format"), key := Value.str (Str.ofString "format") 22, val := Value.builtin "format" }, { hash := PyData.keyHash P (Str.ofString "getattr"), key := Value.str (Str.ofString "getattr") 23, val := Value.builtin "getattr" }, { hash := PyData.keyHash P (Str.ofString "globals"), key := Value.str (Str.ofString "globals") 24, val := Value.builtin "globals" }, { hash := PyData.keyHash P (Str.ofString "hasattr"), key := Value.str (Str.ofString "hasattr") 25, val := Value.builtin "hasattr" }, { hash := PyData.keyHash P (Str.ofString "hash"), key := Value.str (Str.ofString "hash") 26, val := Value.builtin "hash" }, { hash := PyData.keyHash P (Str.ofString "hex"), key := Value.str (Str.ofString "hex") 27, val := Value.builtin "hex" }, { hash := PyData.keyHash P (Str.ofString "id"), key := Value.str (Str.ofString "id") 28, val := Value.builtin "id" }, { hash := PyData.keyHash P (Str.ofString "input"), key := Value.str (Str.ofString "input") 29, val := Value.builtin "input" }, { hash := PyData.keyHash P (Str.ofString "isinstance"), key := Value.str (Str.ofString "isinstance") 30, val := Value.builtin "isinstance" }, { hash := PyData.keyHash P (Str.ofString "issubclass"), key := Value.str (Str.ofString "issubclass") 31, val := Value.builtin "issubclass" }, { hash := PyData.keyHash P (Str.ofString "iter"), key := Value.str (Str.ofString "iter") 32, val := Value.builtin "iter" }, { hash := PyData.keyHash P (Str.ofString "aiter"), key := Value.str (Str.ofString "aiter") 33, val := Value.builtin "aiter" }, { hash := PyData.keyHash P (Str.ofString "len"), key := Value.str (Str.ofString "len") 34, val := Value.builtin "len" }, { hash := PyData.keyHash P (Str.ofString "locals"), key := Value.str (Str.ofString "locals") 35, val := Value.builtin "locals" }, { hash := PyData.keyHash P (Str.ofString "max"), key := Value.str (Str.ofString "max") 36, val := Value.builtin "max" }, { hash := PyData.keyHash P (Str.ofString "min"), key := Value.str (Str.ofString "min") 37, val := Value.builtin "min" }, { hash := PyData.keyHash P (Str.ofString "next"), key := Value.str (Str.ofString "next") 38, val := Value.builtin "next" }, { hash := PyData.keyHash P (Str.ofString "anext"), key := Value.str (Str.ofString "anext") 39, val := Value.builtin "anext" }, { hash := PyData.keyHash P (Str.ofString "oct"), key := Value.str (Str.ofString "oct") 40, val := Value.builtin "oct" }, { hash := PyData.keyHash P (Str.ofString "ord"), key := Value.str (Str.ofString "ord") 41, val := Value.builtin "ord" }, { hash := PyData.keyHash P (Str.ofString "pow"), key := Value.str (Str.ofString "pow") 42, val := Value.builtin "pow" }, { hash := PyData.keyHash P (Str.ofString "print"), key := Value.str (Str.ofString "print") 43, val := Value.builtin "print" }, { hash := PyData.keyHash P (Str.ofString "repr"), key := Value.str (Str.ofString "repr") 44, val := Value.builtin "repr" }, { hash := PyData.keyHash P (Str.ofString "round"), key := Value.str (Str.ofString "round") 45, val := Value.builtin "round" }, { hash := PyData.keyHash P (Str.ofString "setattr"), key := Value.str (Str.ofString "setattr") 46, val := Value.builtin "setattr" }, { hash := PyData.keyHash P (Str.ofString "sorted"), key := Value.str (Str.ofString "sorted") 47, val := Value.builtin "sorted" }, { hash := PyData.keyHash P (Str.ofString "sum"), key := Value.str (Str.ofString "sum") 48, val := Value.builtin "sum" }, { hash := PyData.keyHash P (Str.ofString "vars"), key := Value.str (Str.ofString "vars") 49, val := Value.builtin "vars" }, { hash := PyData.keyHash P (Str.ofString "None"), key := Value.str (Str.ofString "None") 50, val := Value.none }, { hash := PyData.keyHash P (Str.ofString "Ellipsis"), key := Value.str (Str.ofString "Ellipsis") 51, val := Value.ellipsis }, { hash := PyData.keyHash P (Str.ofString "NotImplemented"), key := Value.str (Str.ofString "NotImplemented") 52, val := Value.notImplemented }, { hash := PyData.keyHash P (Str.ofString "False"), key := Value.str (Str.ofString "False") 53, val := Value.bool false }, { hash := PyData.keyHash P (Str.ofString "True"), key := Value.str (Str.ofString "True") 54, val := Value.bool true }, { hash := PyData.keyHash P (Str.ofString "bool"), key := Value.str (Str.ofString "bool") 55, val := Value.type "bool" }, { hash := PyData.keyHash P (Str.ofString "memoryview"), key := Value.str (Str.ofString "memoryview") 56, val := Value.type "memoryview" }, { hash := PyData.keyHash P (Str.ofString "bytearray"), key := Value.str (Str.ofString "bytearray") 57, val := Value.type "bytearray" }, { hash := PyData.keyHash P (Str.ofString "bytes"), key := Value.str (Str.ofString "bytes") 58, val := Value.type "bytes" }, { hash := PyData.keyHash P (Str.ofString "classmethod"), key := Value.str (Str.ofString "classmethod") 59, val := Value.type "classmethod" }, { hash := PyData.keyHash P (Str.ofString "complex"), key := Value.str (Str.ofString "complex") 60, val := Value.type "complex" }, { hash := PyData.keyHash P (Str.ofString "dict"), key := Value.str (Str.ofString "dict") 61, val := Value.type "dict" }, { hash := PyData.keyHash P (Str.ofString "enumerate"), key := Value.str (Str.ofString "enumerate") 62, val := Value.type "enumerate" }, { hash := PyData.keyHash P (Str.ofString "filter"), key := Value.str (Str.ofString "filter") 63, val := Value.type "filter" }, { hash := PyData.keyHash P (Str.ofString "float"), key := Value.str (Str.ofString "float") 64, val := Value.type "float" }, { hash := PyData.keyHash P (Str.ofString "frozenset"), key := Value.str (Str.ofString "frozenset") 65, val := Value.type "frozenset" }, { hash := PyData.keyHash P (Str.ofString "property"), key := Value.str (Str.ofString "property") 66, val := Value.type "property" }, { hash := PyData.keyHash P (Str.ofString "int"), key := Value.str (Str.ofString "int") 67, val := Value.type "int" }, { hash := PyData.keyHash P (Str.ofString "list"), key := Value.str (Str.ofString "list") 68, val := Value.type "list" }, { hash := PyData.keyHash P (Str.ofString "map"), key := Value.str (Str.ofString "map") 69, val := Value.type "map" }, { hash := PyData.keyHash P (Str.ofString "object"), key := Value.str (Str.ofString "object") 70, val := Value.type "object" }, { hash := PyData.keyHash P (Str.ofString "range"), key := Value.str (Str.ofString "range") 71, val := Value.type "range" }, { hash := PyData.keyHash P (Str.ofString "reversed"), key := Value.str (Str.ofString "reversed") 72, val := Value.type "reversed" }, { hash := PyData.keyHash P (Str.ofString "set"), key := Value.str (Str.ofString "set") 73, val := Value.type "set" }, { hash := PyData.keyHash P (Str.ofString "slice"), key := Value.str (Str.ofString "slice") 74, val := Value.type "slice" }, { hash := PyData.keyHash P (Str.ofString "staticmethod"), key := Value.str (Str.ofString "staticmethod") 75, val := Value.type "staticmethod" }, { hash := PyData.keyHash P (Str.ofString "str"), key := Value.str (Str.ofString "str") 76, val := Value.type "str" }, { hash := PyData.keyHash P (Str.ofString "super"), key := Value.str (Str.ofString "super") 77, val := Value.type "super" }, { hash := PyData.keyHash P (Str.ofString "tuple"), key := Value.str (Str.ofString "tuple") 78, val := Value.type "tuple" }, { hash := PyData.keyHash P (Str.ofString "type"), key := Value.str (Str.ofString "type") 79, val := Value.type "type" }, { hash := PyData.keyHash P (Str.ofString "zip"), key := Value.str (Str.ofString "zip") 80, val := Value.type "zip" }, { hash := PyData.keyHash P (Str.ofString "__debug__"), key := Value.str (Str.ofString "__debug__") 81, val := Value.bool true }, { hash := PyData.keyHash P (Str.ofString "BaseException"), key := Value.str (Str.ofString "BaseException") 82, val := Value.type "BaseException" }, { hash := PyData.keyHash P (Str.ofString "BaseExceptionGroup"), key := Value.str (Str.ofString "BaseExceptionGroup") 83, val := Value.type "BaseExceptionGroup" }, { hash := PyData.keyHash P (Str.ofString "Exception"), key := Value.str (Str.ofString "Exception") 84, val := Value.type "Exception" }, { hash := PyData.keyHash P (Str.ofString "GeneratorExit"), key := Value.str (Str.ofString "GeneratorExit") 85, val := Value.type "GeneratorExit" }, { hash := PyData.keyHash P (Str.ofString "KeyboardInterrupt"), key := Value.str (Str.ofString "KeyboardInterrupt") 86, val := Value.type "KeyboardInterrupt" }, { hash := PyData.keyHash P (Str.ofString "SystemExit"), key := Value.str (Str.ofString "SystemExit") 87, val := Value.type "SystemExit" }, { hash := PyData.keyHash P (Str.ofString "ArithmeticError"), key := Value.str (Str.ofString "ArithmeticError") 88, val := Value.type "ArithmeticError" }, { hash := PyData.keyHash P (Str.ofString "AssertionError"), key := Value.str (Str.ofString "AssertionError") 89, val := Value.type "AssertionError" }, { hash := PyData.keyHash P (Str.ofString "AttributeError"), key := Value.str (Str.ofString "AttributeError") 90, val := Value.type "AttributeError" }, { hash := PyData.keyHash P (Str.ofString "BufferError"), key := Value.str (Str.ofString "BufferError") 91, val := Value.type "BufferError" }, { hash := PyData.keyHash P (Str.ofString "EOFError"), key := Value.str (Str.ofString "EOFError") 92, val := Value.type "EOFError" }, { hash := PyData.keyHash P (Str.ofString "ImportError"), key := Value.str (Str.ofString "ImportError") 93, val := Value.type "ImportError" }, { hash := PyData.keyHash P (Str.ofString "LookupError"), key := Value.str (Str.ofString "LookupError") 94, val := Value.type "LookupError" }, { hash := PyData.keyHash P (Str.ofString "MemoryError"), key := Value.str (Str.ofString "MemoryError") 95, val := Value.type "MemoryError" }, { hash := PyData.keyHash P (Str.ofString "NameError"), key := Value.str (Str.ofString "NameError") 96, val := Value.type "NameError" }, { hash := PyData.keyHash P (Str.ofString "OSError"), key := Value.str (Str.ofString "OSError") 97, val := Value.type "OSError" }, { hash := PyData.keyHash P (Str.ofString "ReferenceError"), key := Value.str (Str.ofString "ReferenceError") 98, val := Value.type "ReferenceError" }, { hash := PyData.keyHash P (Str.ofString "RuntimeError"), key := Value.str (Str.ofString "RuntimeError") 99, val := Value.type "RuntimeError" }, { hash := PyData.keyHash P (Str.ofString "StopAsyncIteration"), key := Value.str (Str.ofString "StopAsyncIteration") 100, val := Value.type "StopAsyncIteration" }, { hash := PyData.keyHash P (Str.ofString "StopIteration"), key := Value.str (Str.ofString "StopIteration") 101, val := Value.type "StopIteration" }, { hash := PyData.keyHash P (Str.ofString "SyntaxError"), key := Value.str (Str.ofString "SyntaxError") 102, val := Value.type "SyntaxError" }, { hash := PyData.keyHash P (Str.ofString "SystemError"), key := Value.str (Str.ofString "SystemError") 103, val := Value.type "SystemError" }, { hash := PyData.keyHash P (Str.ofString "TypeError"), key := Value.str (Str.ofString "TypeError") 104, val := Value.type "TypeError" }, { hash := PyData.keyHash P (Str.ofString "ValueError"), key := Value.str (Str.ofString "ValueError") 105, val := Value.type "ValueError" }, { hash := PyData.keyHash P (Str.ofString "Warning"), key := Value.str (Str.ofString "Warning") 106, val := Value.type "Warning" }, { hash := PyData.keyHash P (Str.ofString "FloatingPointError"), key := Value.str (Str.ofString "FloatingPointError") 107, val := Value.type "FloatingPointError" }, { hash := PyData.keyHash P (Str.ofString "OverflowError"), key := Value.str (Str.ofString "OverflowError") 108, val := Value.type "OverflowError" }, { hash := PyData.keyHash P (Str.ofString "ZeroDivisionError"), key := Value.str (Str.ofString "ZeroDivisionError") 109, val := Value.type "ZeroDivisionError" }, { hash := PyData.keyHash P (Str.ofString "BytesWarning"), key := Value.str (Str.ofString "BytesWarning") 110, val := Value.type "BytesWarning" }, { hash := PyData.keyHash P (Str.ofString "DeprecationWarning"), key := Value.str (Str.ofString "DeprecationWarning") 111, val := Value.type "DeprecationWarning" }, { hash := PyData.keyHash P (Str.ofString "EncodingWarning"), key := Value.str (Str.ofString "EncodingWarning") 112, val := Value.type "EncodingWarning" }, { hash := PyData.keyHash P (Str.ofString "FutureWarning"), key := Value.str (Str.ofString "FutureWarning") 113, val := Value.type "FutureWarning" }, { hash := PyData.keyHash P (Str.ofString "ImportWarning"), key := Value.str (Str.ofString "ImportWarning") 114, val := Value.type "ImportWarning" }, { hash := PyData.keyHash P (Str.ofString "PendingDeprecationWarning"), key := Value.str (Str.ofString "PendingDeprecationWarning") 115, val := Value.type "PendingDeprecationWarning" }, { hash := PyData.keyHash P (Str.ofString "ResourceWarning"), key := Value.str (Str.ofString "ResourceWarning") 116, val := Value.type "ResourceWarning" }, { hash := PyData.keyHash P (Str.ofString "RuntimeWarning"), key := Value.str (Str.ofString "RuntimeWarning") 117, val := Value.type "RuntimeWarning" }, { hash := PyData.keyHash P (Str.ofString "SyntaxWarning"), key := Value.str (Str.ofString "SyntaxWarning") 118, val := Value.type "SyntaxWarning" }, { hash := PyData.keyHash P (Str.ofString "UnicodeWarning"), key := Value.str (Str.ofString "UnicodeWarning") 119, val := Value.type "UnicodeWarning" }, { hash := PyData.keyHash P (Str.ofString "UserWarning"), key := Value.str (Str.ofString "UserWarning") 120, val := Value.type "UserWarning" }, { hash := PyData.keyHash P (Str.ofString "BlockingIOError"), key := Value.str (Str.ofString "BlockingIOError") 121, val := Value.type "BlockingIOError" }, { hash := PyData.keyHash P (Str.ofString "ChildProcessError"), key := Value.str (Str.ofString "ChildProcessError") 122, val := Value.type "ChildProcessError" }, { hash := PyData.keyHash P (Str.ofString "ConnectionError"), key := Value.str (Str.ofString "ConnectionError") 123, val := Value.type "ConnectionError" }, { hash := PyData.keyHash P (Str.ofString "FileExistsError"), key := Value.str (Str.ofString "FileExistsError") 124, val := Value.type "FileExistsError" }, { hash := PyData.keyHash P (Str.ofString "FileNotFoundError"), key := Value.str (Str.ofString "FileNotFoundError") 125, val := Value.type "FileNotFoundError" }, { hash := PyData.keyHash P (Str.ofString "InterruptedError"), key := Value.str (Str.ofString "InterruptedError") 126, val := Value.type "InterruptedError" }, { hash := PyData.keyHash P (Str.ofString "IsADirectoryError"), key := Value.str (Str.ofString "IsADirectoryError") 127, val := Value.type "IsADirectoryError" }, { hash := PyData.keyHash P (Str.ofString "NotADirectoryError"), key := Value.str (Str.ofString "NotADirectoryError") 128, val := Value.type "NotADirectoryError" }, { hash := PyData.keyHash P (Str.ofString "PermissionError"), key := Value.str (Str.ofString "PermissionError") 129, val := Value.type "PermissionError" }, { hash := PyData.keyHash P (Str.ofString "ProcessLookupError"), key := Value.str (Str.ofString "ProcessLookupError") 130, val := Value.type "ProcessLookupError" }, { hash := PyData.keyHash P (Str.ofString "TimeoutError"), key := Value.str (Str.ofString "TimeoutError") 131, val := Value.type "TimeoutError" }, { hash := PyData.keyHash P (Str.ofString "IndentationError"), key := Value.str (Str.ofString "IndentationError") 132, val := Value.type "IndentationError" }, { hash := PyData.keyHash P (Str.ofString "_IncompleteInputError"), key := Value.str (Str.ofString "_IncompleteInputError") 133, val := Value.type "_IncompleteInputError" }, { hash := PyData.keyHash P (Str.ofString "IndexError"), key := Value.str (Str.ofString "IndexError") 134, val := Value.type "IndexError" }, { hash := PyData.keyHash P (Str.ofString "KeyError"), key := Value.str (Str.ofString "KeyError") 135, val := Value.type "KeyError" }, { hash := PyData.keyHash P (Str.ofString "ModuleNotFoundError"), key := Value.str (Str.ofString "ModuleNotFoundError") 136, val := Value.type "ModuleNotFoundError" }, { hash := PyData.keyHash P (Str.ofString "NotImplementedError"), key := Value.str (Str.ofString "NotImplementedError") 137, val := Value.type "NotImplementedError" }, { hash := PyData.keyHash P (Str.ofString "PythonFinalizationError"), key := Value.str (Str.ofString "PythonFinalizationError") 138, val := Value.type "PythonFinalizationError" }, { hash := PyData.keyHash P (Str.ofString "RecursionError"), key := Value.str (Str.ofString "RecursionError") 139, val := Value.type "RecursionError" }, { hash := PyData.keyHash P (Str.ofString "UnboundLocalError"), key := Value.str (Str.ofString "UnboundLocalError") 140, val := Value.type "UnboundLocalError" }, { hash := PyData.keyHash P (Str.ofString "UnicodeError"), key := Value.str (Str.ofString "UnicodeError") 141, val := Value.type "UnicodeError" }, { hash := PyData.keyHash P (Str.ofString "BrokenPipeError"), key := Value.str (Str.ofString "BrokenPipeError") 142, val := Value.type "BrokenPipeError" }, { hash := PyData.keyHash P (Str.ofString "ConnectionAbortedError"), key := Value.str (Str.ofString "ConnectionAbortedError") 143, val := Value.type "ConnectionAbortedError" }, { hash := PyData.keyHash P (Str.ofString "ConnectionRefusedError"), key := Value.str (Str.ofString "ConnectionRefusedError") 144, val := Value.type "ConnectionRefusedError" }, { hash := PyData.keyHash P (Str.ofString "ConnectionResetError"), key := Value.str (Str.ofString "ConnectionResetError") 145, val := Value.type "ConnectionResetError" }, { hash := PyData.keyHash P (Str.ofString "TabError"), key := Value.str (Str.ofString "TabError") 146, val := Value.type "TabError" }, { hash := PyData.keyHash P (Str.ofString "UnicodeDecodeError"), key := Value.str (Str.ofString "UnicodeDecodeError") 147, val := Value.type "UnicodeDecodeError" }, { hash := PyData.keyHash P (Str.ofString "UnicodeEncodeError"), key := Value.str (Str.ofString "UnicodeEncodeError") 148, val := Value.type "UnicodeEncodeError" }, { hash := PyData.keyHash P (Str.ofString "UnicodeTranslateError"), key := Value.str (Str.ofString "UnicodeTranslateError") 149, val := Value.type "UnicodeTranslateError" }, { hash := PyData.keyHash P (Str.ofString "ExceptionGroup"), key := Value.str (Str.ofString "ExceptionGroup") 150, val := Value.type "ExceptionGroup" }, { hash := PyData.keyHash P (Str.ofString "EnvironmentError"), key := Value.str (Str.ofString "EnvironmentError") 151, val := Value.type "OSError" }, { hash := PyData.keyHash P (Str.ofString "IOError"), key := Value.str (Str.ofString "IOError") 152, val := Value.type "OSError" }, { hash := PyData.keyHash P (Str.ofString "open"), key := Value.str (Str.ofString "open") 153, val := Value.builtin "open" }, { hash := PyData.keyHash P (Str.ofString "quit"), key := Value.str (Str.ofString "quit") 154, val := Value.builtin "builtins.quit#opaque" }, { hash := PyData.keyHash P (Str.ofString "exit"), key := Value.str (Str.ofString "exit") 155, val := Value.builtin "builtins.exit#opaque" }, { hash := PyData.keyHash P (Str.ofString "copyright"), key := Value.str (Str.ofString "copyright") 156, val := Value.builtin "builtins.copyright#opaque" }, { hash := PyData.keyHash P (Str.ofString "credits"), key := Value.str (Str.ofString "credits") 157, val := Value.builtin "builtins.credits#opaque" }, { hash := PyData.keyHash P (Str.ofString "license"), key := Value.str (Str.ofString "license") 158, val := Value.builtin "builtins.license#opaque" }, { hash := PyData.keyHash P (Str.ofString "help"), key := Value.str (Str.ofString "help") 159, val := Value.builtin "builtins.help#opaque" }] 159 }
noncomputable def hd.o_2 (P : Params) : Obj := { cls := Value.type "dict", data := Data.dict #[{ hash := PyData.keyHash P (Str.ofString "builtins"), key := Value.str (Str.ofString "builtins") 162, val := Value.ref 4 }, { hash := PyData.keyHash P (Str.ofString "__main__"), key := Value.str (Str.ofString "__main__") 163, val := Value.ref 5 }, { hash := PyData.keyHash P (Str.ofString "_sre"), key := Value.str (Str.ofString "_sre") 244, val := Value.ref 12 }] 3 }
noncomputable def hd.o_3 (P : Params) : Obj := { cls := Value.none, data := Data.dict #[{ hash := PyData.keyHash P (Str.ofString "\x69mport.loaded._sre"), key := Value.str (Str.ofString "\x69mport.loaded._sre") 183, val := Value.bool true }, { hash := PyData.keyHash P (Str.ofString "class._frozen_importlib.BuiltinImporter"), key := Value.str (Str.ofString "class._frozen_importlib.BuiltinImporter") 185, val := Value.ref 14 }, { hash := PyData.keyHash P (Str.ofString "watched.\x69mport"), key := Value.str (Str.ofString "watched.\x69mport") 206, val := Value.ref 18 }, { hash := PyData.keyHash P (Str.ofString "class._frozen_importlib.ModuleSpec"), key := Value.str (Str.ofString "class._frozen_importlib.ModuleSpec") 216, val := Value.ref 22 }, { hash := PyData.keyHash P (Str.ofString "sys.modules.booked-epoch"), key := Value.str (Str.ofString "sys.modules.booked-epoch") 245, val := Value.int 3 0 }, { hash := PyData.keyHash P (Str.ofString "\x69mport.later-laid._sre"), key := Value.str (Str.ofString "\x69mport.later-laid._sre") 270, val := Value.bool true }, { hash := PyData.keyHash P (Str.ofString "watched.library"), key := Value.str (Str.ofString "watched.library") 272, val := Value.ref 27 }, { hash := PyData.keyHash P (Str.ofString "watched.library-objects"), key := Value.str (Str.ofString "watched.library-objects") 0, val := Value.str (Str.ofString "\x0c") 0 }, { hash := PyData.keyHash P (Str.ofString "watched.library-deep._sre"), key := Value.str (Str.ofString "watched.library-deep._sre") 273, val := Value.str (Str.ofString "\x04\x00\x00\x0b\x04\x00\x00\x0b\x04\x00\x00\x03\x04\x00\x00\x0b\x08\x04dict\x02") 0 }] 9 }
noncomputable def hd.o_4 (P : Params) : Obj := { cls := Value.type "dict", data := Data.dict #[{ hash := PyData.keyHash P (Str.ofString "__name__"), key := Value.str (Str.ofString "__name__") 165, val := Value.str (Str.ofString "__main__") 164 }, { hash := PyData.keyHash P (Str.ofString "__doc__"), key := Value.str (Str.ofString "__doc__") 166, val := Value.none }, { hash := PyData.keyHash P (Str.ofString "__package__"), key := Value.str (Str.ofString "__package__") 167, val := Value.none }, { hash := PyData.keyHash P (Str.ofString "__loader__"), key := Value.str (Str.ofString "__loader__") 168, val := Value.builtin "__main__.__loader__#opaque" }, { hash := PyData.keyHash P (Str.ofString "__spec__"), key := Value.str (Str.ofString "__spec__") 169, val := Value.none }, { hash := PyData.keyHash P (Str.ofString "__annotations__"), key := Value.str (Str.ofString "__annotations__") 170, val := Value.ref 6 }, { hash := PyData.keyHash P (Str.ofString "__builtins__"), key := Value.str (Str.ofString "__builtins__") 171, val := Value.ref 4 }, { hash := PyData.keyHash P (Str.ofString "__file__"), key := Value.str (Str.ofString "__file__") 173, val := Value.str (Str.ofString "/claim/cut.py") 172 }, { hash := PyData.keyHash P (Str.ofString "__cached__"), key := Value.str (Str.ofString "__cached__") 174, val := Value.none }, { hash := PyData.keyHash P (Str.ofString "_sre"), key := Value.str (Str.ofString "_sre") 275, val := Value.ref 12 }] 10 }
noncomputable def hd.o_5 (_ : Params) : Obj := { cls := Value.type "module", dict := some 0 }
noncomputable def hd.o_6 (_ : Params) : Obj := { cls := Value.type "module", dict := some 3 }
noncomputable def hd.o_7 (_ : Params) : Obj := { cls := Value.type "dict", data := Data.dict #[] }
noncomputable def hd.o_8 (_ : Params) : Obj := { cls := Value.type "tuple", data := Data.seq #[] }
noncomputable def hd.o_9 (_ : Params) : Obj := { cls := Value.none, data := Data.fields #[] }
noncomputable def hd.o_10 (_ : Params) : Obj := { cls := Value.type "code", data := Data.fields #[Value.str (Str.ofString "<module>") 176, Value.str (Str.ofString "<module>") 177, Value.str (Str.ofString "/claim/cut.py") 178, Value.int 1 0, Value.int 0 0, Value.int 0 0, Value.int 0 0, Value.int 0 0, Value.ref 7, Value.bool false, Value.int 175 0, Value.ref 8, Value.none, Value.none, Value.none, Value.none, Value.int 179 0, Value.int 1 0, Value.str (Str.ofString "/claim/cut.py") 180] }
noncomputable def hd.o_11 (_ : Params) : Obj := { cls := Value.type "frame", slots := #[some (Value.ref 9), some (Value.ref 3), some (Value.ref 3), none, some (Value.str (Str.ofString "__main__") 164), none, some (Value.ref 0)] }
noncomputable def hd.o_12 (P : Params) : Obj := { cls := Value.type "dict", data := Data.dict #[{ hash := PyData.keyHash P (Str.ofString "__name__"), key := Value.str (Str.ofString "__name__") 247, val := Value.str (Str.ofString "_sre") 246 }, { hash := PyData.keyHash P (Str.ofString "__doc__"), key := Value.str (Str.ofString "__doc__") 248, val := Value.none }, { hash := PyData.keyHash P (Str.ofString "__package__"), key := Value.str (Str.ofString "__package__") 250, val := Value.str (Str.ofString "") 249 }, { hash := PyData.keyHash P (Str.ofString "__loader__"), key := Value.str (Str.ofString "__loader__") 251, val := Value.builtin "off-the-table:_sre.__loader__:shared#opaque" }, { hash := PyData.keyHash P (Str.ofString "__spec__"), key := Value.str (Str.ofString "__spec__") 252, val := Value.builtin "off-the-table:_sre.__spec__:shared#opaque" }, { hash := PyData.keyHash P (Str.ofString "compile"), key := Value.str (Str.ofString "compile") 253, val := Value.builtin "_sre.compile" }, { hash := PyData.keyHash P (Str.ofString "template"), key := Value.str (Str.ofString "template") 254, val := Value.builtin "off-the-table:_sre.template:shared#opaque" }, { hash := PyData.keyHash P (Str.ofString "getcodesize"), key := Value.str (Str.ofString "getcodesize") 255, val := Value.builtin "off-the-table:_sre.getcodesize:shared#opaque" }, { hash := PyData.keyHash P (Str.ofString "ascii_iscased"), key := Value.str (Str.ofString "ascii_iscased") 256, val := Value.builtin "off-the-table:_sre.ascii_iscased:shared#opaque" }, { hash := PyData.keyHash P (Str.ofString "unicode_iscased"), key := Value.str (Str.ofString "unicode_iscased") 257, val := Value.builtin "off-the-table:_sre.unicode_iscased:shared#opaque" }, { hash := PyData.keyHash P (Str.ofString "ascii_tolower"), key := Value.str (Str.ofString "ascii_tolower") 258, val := Value.builtin "off-the-table:_sre.ascii_tolower:shared#opaque" }, { hash := PyData.keyHash P (Str.ofString "unicode_tolower"), key := Value.str (Str.ofString "unicode_tolower") 259, val := Value.builtin "off-the-table:_sre.unicode_tolower:shared#opaque" }, { hash := PyData.keyHash P (Str.ofString "MAGIC"), key := Value.str (Str.ofString "MAGIC") 261, val := Value.int 20230612 260 }, { hash := PyData.keyHash P (Str.ofString "CODESIZE"), key := Value.str (Str.ofString "CODESIZE") 263, val := Value.int 4 262 }, { hash := PyData.keyHash P (Str.ofString "MAXREPEAT"), key := Value.str (Str.ofString "MAXREPEAT") 265, val := Value.int 4294967295 264 }, { hash := PyData.keyHash P (Str.ofString "MAXGROUPS"), key := Value.str (Str.ofString "MAXGROUPS") 267, val := Value.int 1073741823 266 }, { hash := PyData.keyHash P (Str.ofString "copyright"), key := Value.str (Str.ofString "copyright") 269, val := Value.str (Str.ofString " SRE 2.2.2 Copyright (c) 1997-2002 by Secret Labs AB ") 268 }] 17 }
noncomputable def hd.o_13 (_ : Params) : Obj := { cls := Value.type "module", dict := some 11 }
noncomputable def hd.o_14 (P : Params) : Obj := { cls := Value.type "dict", data := Data.dict #[{ hash := PyData.keyHash P (Str.ofString "__module__"), key := Value.str (Str.ofString "__module__") 189, val := Value.str (Str.ofString "_frozen_importlib") 186 }, { hash := PyData.keyHash P (Str.ofString "__firstlineno__"), key := Value.str (Str.ofString "__firstlineno__") 190, val := Value.int 971 187 }, { hash := PyData.keyHash P (Str.ofString "__doc__"), key := Value.str (Str.ofString "__doc__") 191, val := Value.builtin "_frozen_importlib.BuiltinImporter.__doc__:str#opaque" }, { hash := PyData.keyHash P (Str.ofString "_ORIGIN"), key := Value.str (Str.ofString "_ORIGIN") 192, val := Value.str (Str.ofString "built-in") 188 }, { hash := PyData.keyHash P (Str.ofString "find_spec"), key := Value.str (Str.ofString "find_spec") 193, val := Value.builtin "_frozen_importlib.BuiltinImporter.find_spec#opaque" }, { hash := PyData.keyHash P (Str.ofString "create_module"), key := Value.str (Str.ofString "create_module") 194, val := Value.builtin "_frozen_importlib.BuiltinImporter.create_module#opaque" }, { hash := PyData.keyHash P (Str.ofString "exec_module"), key := Value.str (Str.ofString "exec_module") 195, val := Value.builtin "_frozen_importlib.BuiltinImporter.exec_module#opaque" }, { hash := PyData.keyHash P (Str.ofString "get_code"), key := Value.str (Str.ofString "get_code") 196, val := Value.builtin "_frozen_importlib.BuiltinImporter.get_code#opaque" }, { hash := PyData.keyHash P (Str.ofString "get_source"), key := Value.str (Str.ofString "get_source") 197, val := Value.builtin "_frozen_importlib.BuiltinImporter.get_source#opaque" }, { hash := PyData.keyHash P (Str.ofString "is_package"), key := Value.str (Str.ofString "is_package") 198, val := Value.builtin "_frozen_importlib.BuiltinImporter.is_package#opaque" }, { hash := PyData.keyHash P (Str.ofString "load_module"), key := Value.str (Str.ofString "load_module") 199, val := Value.builtin "_frozen_importlib.BuiltinImporter.load_module#opaque" }, { hash := PyData.keyHash P (Str.ofString "__static_attributes__"), key := Value.str (Str.ofString "__static_attributes__") 200, val := Value.ref 15 }, { hash := PyData.keyHash P (Str.ofString "__dict__"), key := Value.str (Str.ofString "__dict__") 202, val := Value.ref 16 }, { hash := PyData.keyHash P (Str.ofString "__weakref__"), key := Value.str (Str.ofString "__weakref__") 204, val := Value.ref 17 }] 14 }
noncomputable def hd.o_15 (_ : Params) : Obj := { cls := Value.type "type", data := Data.cls { name := Str.ofString "BuiltinImporter", bases := [Value.type "object"], mro := [Value.ref 14, Value.type "object"], ns := 13, qualname := Str.ofString "BuiltinImporter" } }
noncomputable def hd.o_16 (_ : Params) : Obj := { cls := Value.type "tuple", data := Data.seq #[] }
noncomputable def hd.o_17 (_ : Params) : Obj := { cls := Value.type "getset_descriptor", data := Data.fields #[Value.str (Str.ofString "__dict__") 201, Value.ref 14, Value.builtin "function.__dict__", Value.builtin "function.__dict__#set"] }
noncomputable def hd.o_18 (_ : Params) : Obj := { cls := Value.type "getset_descriptor", data := Data.fields #[Value.str (Str.ofString "__weakref__") 203, Value.ref 14, Value.builtin "ExceptionGroup.__weakref__", Value.none] }
noncomputable def hd.o_19 (_ : Params) : Obj := { cls := Value.none, data := Data.seq #[Value.int 13 0, Value.str (Str.ofString "\x06½\n__module__\x06º\x11_frozen_importlib\x06¾\x0f__firstlineno__\x04»\x00ϋ\x06¿\x07__doc__\t4_frozen_importlib.BuiltinImporter.__doc__:str#opaque\x06À\x07_ORIGIN\x06¼\x08built-in\x06Á\tfind_spec\t2_frozen_importlib.BuiltinImporter.find_spec#opaque\x06Â\x0dcreate_module\t6_frozen_importlib.BuiltinImporter.create_module#opaque\x06Ã\x0bexec_module\t4_frozen_importlib.BuiltinImporter.exec_module#opaque\x06Ä\x08get_code\t1_frozen_importlib.BuiltinImporter.get_code#opaque\x06Å\nget_source\t3_frozen_importlib.BuiltinImporter.get_source#opaque\x06Æ\nis_package\t3_frozen_importlib.BuiltinImporter.is_package#opaque\x06Ç\x0bload_module\t4_frozen_importlib.BuiltinImporter.load_module#opaque\x06È\x15__static_attributes__\x04\x00\x00\x0f\x06Ê\x08__dict__\x04\x00\x00\x10\x06Ì\x0b__weakref__\x04\x00\x00\x11") 0, Value.bool true, Value.bool true, Value.str (Str.ofString "") 205, Value.int 21 0, Value.str (Str.ofString "\x06ã\n__module__\x06Ù\x11_frozen_importlib\x06ä\x0f__firstlineno__\x04Ú\x00Ȳ\x06å\x07__doc__\t/_frozen_importlib.ModuleSpec.__doc__:str#opaque\x06æ\x08__init__\t,_frozen_importlib.ModuleSpec.__init__#opaque\x06ç\x08__repr__\t,_frozen_importlib.ModuleSpec.__repr__#opaque\x06è\x06__eq__\t*_frozen_importlib.ModuleSpec.__eq__#opaque\x06é\x06cached\t*_frozen_importlib.ModuleSpec.cached#opaque\x06ê\x06parent\t*_frozen_importlib.ModuleSpec.parent#opaque\x06ë\x0chas_location\t0_frozen_importlib.ModuleSpec.has_location#opaque\x06ì\x15__static_attributes__\x04\x00\x00\x17\x06î\x08__dict__\x04\x00\x00\x18\x06ð\x0b__weakref__\x04\x00\x00\x19\x06ñ\x08__hash__\x00") 0, Value.bool true, Value.bool true, Value.str (Str.ofString "") 242] 1 }
noncomputable def hd.o_20 (_ : Params) : Obj := { cls := Value.type "list", data := Data.seq #[] }
noncomputable def hd.o_21 (P : Params) : Obj := { cls := Value.type "dict", data := Data.dict #[{ hash := PyData.keyHash P (Str.ofString "name"), key := Value.str (Str.ofString "name") 208, val := Value.str (Str.ofString "_sre") 207 }, { hash := PyData.keyHash P (Str.ofString "loader"), key := Value.str (Str.ofString "loader") 209, val := Value.ref 14 }, { hash := PyData.keyHash P (Str.ofString "origin"), key := Value.str (Str.ofString "origin") 210, val := Value.str (Str.ofString "built-in") 184 }, { hash := PyData.keyHash P (Str.ofString "loader_state"), key := Value.str (Str.ofString "loader_state") 211, val := Value.none }, { hash := PyData.keyHash P (Str.ofString "submodule_search_locations"), key := Value.str (Str.ofString "submodule_search_locations") 212, val := Value.none }, { hash := PyData.keyHash P (Str.ofString "_uninitialized_submodules"), key := Value.str (Str.ofString "_uninitialized_submodules") 213, val := Value.ref 19 }, { hash := PyData.keyHash P (Str.ofString "_set_fileattr"), key := Value.str (Str.ofString "_set_fileattr") 214, val := Value.bool false }, { hash := PyData.keyHash P (Str.ofString "_cached"), key := Value.str (Str.ofString "_cached") 215, val := Value.none }, { hash := PyData.keyHash P (Str.ofString "_initializing"), key := Value.str (Str.ofString "_initializing") 243, val := Value.bool false }] 9 }
noncomputable def hd.o_22 (P : Params) : Obj := { cls := Value.type "dict", data := Data.dict #[{ hash := PyData.keyHash P (Str.ofString "__module__"), key := Value.str (Str.ofString "__module__") 227, val := Value.str (Str.ofString "_frozen_importlib") 217 }, { hash := PyData.keyHash P (Str.ofString "__firstlineno__"), key := Value.str (Str.ofString "__firstlineno__") 228, val := Value.int 562 218 }, { hash := PyData.keyHash P (Str.ofString "__doc__"), key := Value.str (Str.ofString "__doc__") 229, val := Value.builtin "_frozen_importlib.ModuleSpec.__doc__:str#opaque" }, { hash := PyData.keyHash P (Str.ofString "__init__"), key := Value.str (Str.ofString "__init__") 230, val := Value.builtin "_frozen_importlib.ModuleSpec.__init__#opaque" }, { hash := PyData.keyHash P (Str.ofString "__repr__"), key := Value.str (Str.ofString "__repr__") 231, val := Value.builtin "_frozen_importlib.ModuleSpec.__repr__#opaque" }, { hash := PyData.keyHash P (Str.ofString "__eq__"), key := Value.str (Str.ofString "__eq__") 232, val := Value.builtin "_frozen_importlib.ModuleSpec.__eq__#opaque" }, { hash := PyData.keyHash P (Str.ofString "cached"), key := Value.str (Str.ofString "cached") 233, val := Value.builtin "_frozen_importlib.ModuleSpec.cached#opaque" }, { hash := PyData.keyHash P (Str.ofString "parent"), key := Value.str (Str.ofString "parent") 234, val := Value.builtin "_frozen_importlib.ModuleSpec.parent#opaque" }, { hash := PyData.keyHash P (Str.ofString "has_location"), key := Value.str (Str.ofString "has_location") 235, val := Value.builtin "_frozen_importlib.ModuleSpec.has_location#opaque" }, { hash := PyData.keyHash P (Str.ofString "__static_attributes__"), key := Value.str (Str.ofString "__static_attributes__") 236, val := Value.ref 23 }, { hash := PyData.keyHash P (Str.ofString "__dict__"), key := Value.str (Str.ofString "__dict__") 238, val := Value.ref 24 }, { hash := PyData.keyHash P (Str.ofString "__weakref__"), key := Value.str (Str.ofString "__weakref__") 240, val := Value.ref 25 }, { hash := PyData.keyHash P (Str.ofString "__hash__"), key := Value.str (Str.ofString "__hash__") 241, val := Value.none }] 13 }
noncomputable def hd.o_23 (_ : Params) : Obj := { cls := Value.type "type", data := Data.cls { name := Str.ofString "ModuleSpec", bases := [Value.type "object"], mro := [Value.ref 22, Value.type "object"], ns := 21, qualname := Str.ofString "ModuleSpec" } }
noncomputable def hd.o_24 (_ : Params) : Obj := { cls := Value.type "tuple", data := Data.seq #[Value.str (Str.ofString "_cached") 219, Value.str (Str.ofString "_set_fileattr") 220, Value.str (Str.ofString "_uninitialized_submodules") 221, Value.str (Str.ofString "loader") 222, Value.str (Str.ofString "loader_state") 223, Value.str (Str.ofString "name") 224, Value.str (Str.ofString "origin") 225, Value.str (Str.ofString "submodule_search_locations") 226] }
noncomputable def hd.o_25 (_ : Params) : Obj := { cls := Value.type "getset_descriptor", data := Data.fields #[Value.str (Str.ofString "__dict__") 237, Value.ref 22, Value.builtin "function.__dict__", Value.builtin "function.__dict__#set"] }
noncomputable def hd.o_26 (_ : Params) : Obj := { cls := Value.type "getset_descriptor", data := Data.fields #[Value.str (Str.ofString "__weakref__") 239, Value.ref 22, Value.builtin "ExceptionGroup.__weakref__", Value.none] }
noncomputable def hd.o_27 (_ : Params) : Obj := { cls := Value.ref 22, dict := some 20 }
noncomputable def hd.o_28 (_ : Params) : Obj := { cls := Value.none, data := Data.seq #[Value.int 11 0, Value.str { cps := #[6, 247, 8, 95, 95, 110, 97, 109, 101, 95, 95, 6, 246, 4, 95, 115, 114, 101, 6, 248, 7, 95, 95, 100, 111, 99, 95, 95, 0, 6, 250, 11, 95, 95, 112, 97, 99, 107, 97, 103, 101, 95, 95, 6, 249, 0, 6, 251, 10, 95, 95, 108, 111, 97, 100, 101, 114, 95, 95, 4, 0, 0, 14, 6, 252, 8, 95, 95, 115, 112, 101, 99, 95, 95, 4, 0, 0, 26, 6, 253, 7, 99, 111, 109, 112, 105, 108, 101, 9, 12, 95, 115, 114, 101, 46, 99, 111, 109, 112, 105, 108, 101, 6, 254, 8, 116, 101, 109, 112, 108, 97, 116, 101, 9, 13, 95, 115, 114, 101, 46, 116, 101, 109, 112, 108, 97, 116, 101, 6, 255, 11, 103, 101, 116, 99, 111, 100, 101, 115, 105, 122, 101, 9, 16, 95, 115, 114, 101, 46, 103, 101, 116, 99, 111, 100, 101, 115, 105, 122, 101, 6, 256, 13, 97, 115, 99, 105, 105, 95, 105, 115, 99, 97, 115, 101, 100, 9, 18, 95, 115, 114, 101, 46, 97, 115, 99, 105, 105, 95, 105, 115, 99, 97, 115, 101, 100, 6, 257, 15, 117, 110, 105, 99, 111, 100, 101, 95, 105, 115, 99, 97, 115, 101, 100, 9, 20, 95, 115, 114, 101, 46, 117, 110, 105, 99, 111, 100, 101, 95, 105, 115, 99, 97, 115, 101, 100, 6, 258, 13, 97, 115, 99, 105, 105, 95, 116, 111, 108, 111, 119, 101, 114, 9, 18, 95, 115, 114, 101, 46, 97, 115, 99, 105, 105, 95, 116, 111, 108, 111, 119, 101, 114, 6, 259, 15, 117, 110, 105, 99, 111, 100, 101, 95, 116, 111, 108, 111, 119, 101, 114, 9, 20, 95, 115, 114, 101, 46, 117, 110, 105, 99, 111, 100, 101, 95, 116, 111, 108, 111, 119, 101, 114, 6, 261, 5, 77, 65, 71, 73, 67, 4, 260, 0, 20230612, 6, 263, 8, 67, 79, 68, 69, 83, 73, 90, 69, 4, 262, 0, 4, 6, 265, 9, 77, 65, 88, 82, 69, 80, 69, 65, 84, 4, 264, 0, 4294967295, 6, 267, 9, 77, 65, 88, 71, 82, 79, 85, 80, 83, 4, 266, 0, 1073741823, 6, 269, 9, 99, 111, 112, 121, 114, 105, 103, 104, 116, 6, 268, 53, 32, 83, 82, 69, 32, 50, 46, 50, 46, 50, 32, 67, 111, 112, 121, 114, 105, 103, 104, 116, 32, 40, 99, 41, 32, 49, 57, 57, 55, 45, 50, 48, 48, 50, 32, 98, 121, 32, 83, 101, 99, 114, 101, 116, 32, 76, 97, 98, 115, 32, 65, 66, 32] } 0, Value.bool true, Value.bool false, Value.str (Str.ofString "_sre") 271] }
noncomputable def hd.o_29 (_ : Params) : Obj := { cls := Value.type "tuple", data := Data.seq #[] }
noncomputable def hd.o_30 (_ : Params) : Obj := { cls := Value.none, data := Data.fields #[] }
noncomputable def hd.o_31 (_ : Params) : Obj := { cls := Value.type "code", data := Data.fields #[Value.str (Str.ofString "<module>") 277, Value.str (Str.ofString "<module>") 278, Value.str (Str.ofString "/claim/cut.py") 279, Value.int 1 0, Value.int 0 0, Value.int 0 0, Value.int 0 0, Value.int 0 0, Value.ref 28, Value.bool false, Value.int 276 0, Value.ref 29, Value.none, Value.none, Value.none, Value.none, Value.int 280 0, Value.int 1 0, Value.str (Str.ofString "/claim/cut.py") 281] }
noncomputable def hd.o_32 (_ : Params) : Obj := { cls := Value.type "frame", slots := #[some (Value.ref 30), some (Value.ref 3), some (Value.ref 3), none, some (Value.str (Str.ofString "__main__") 164), none, some (Value.ref 0)] }
noncomputable def hd.o_33 (P : Params) : Obj := { cls := Value.type "dict", data := Data.dict #[{ hash := PyData.keyHash P (Str.ofString "__name__"), key := Value.str (Str.ofString "__name__") 165, val := Value.str (Str.ofString "cpy313.stringprep") 364 }, { hash := PyData.keyHash P (Str.ofString "__doc__"), key := Value.str (Str.ofString "__doc__") 166, val := Value.none }, { hash := PyData.keyHash P (Str.ofString "__package__"), key := Value.str (Str.ofString "__package__") 167, val := Value.none }, { hash := PyData.keyHash P (Str.ofString "__loader__"), key := Value.str (Str.ofString "__loader__") 168, val := Value.builtin "__main__.__loader__#opaque" }, { hash := PyData.keyHash P (Str.ofString "__spec__"), key := Value.str (Str.ofString "__spec__") 169, val := Value.none }, { hash := PyData.keyHash P (Str.ofString "__annotations__"), key := Value.str (Str.ofString "__annotations__") 170, val := Value.ref 6 }, { hash := PyData.keyHash P (Str.ofString "__builtins__"), key := Value.str (Str.ofString "__builtins__") 171, val := Value.ref 4 }, { hash := PyData.keyHash P (Str.ofString "__file__"), key := Value.str (Str.ofString "__file__") 173, val := Value.str (Str.ofString "/claim/cut.py") 172 }, { hash := PyData.keyHash P (Str.ofString "__cached__"), key := Value.str (Str.ofString "__cached__") 174, val := Value.none }, { hash := PyData.keyHash P (Str.ofString "_sre"), key := Value.str (Str.ofString "_sre") 275, val := Value.ref 12 }, { hash := PyData.keyHash P (Str.ofString "_twin_re_1"), key := Value.str (Str.ofString "_twin_re_1") 299, val := Value.ref 36 }, { hash := PyData.keyHash P (Str.ofString "_twin_re_2"), key := Value.str (Str.ofString "_twin_re_2") 341, val := Value.ref 41 }, { hash := PyData.keyHash P (Str.ofString "CRLF"), key := Value.str (Str.ofString "CRLF") 343, val := Value.str (Str.ofString "\x0d\n") 342 }, { hash := PyData.keyHash P (Str.ofString "quotedata"), key := Value.str (Str.ofString "quotedata") 350, val := Value.ref 48 }, { hash := PyData.keyHash P (Str.ofString "CHAR_MAX"), key := Value.str (Str.ofString "CHAR_MAX") 354, val := Value.int 127 353 }, { hash := PyData.keyHash P (Str.ofString "_grouping_intervals"), key := Value.str (Str.ofString "_grouping_intervals") 363, val := Value.ref 55 }] 16 }
noncomputable def hd.o_34 (_ : Params) : Obj := { cls := Value.none, data := Data.fields #[Value.int 6 0, Value.int 0 0, Value.ref 47, Value.int 10 0, Value.int 0 0, Value.ref 54] }
noncomputable def hd.o_35 (_ : Params) : Obj := { cls := Value.type "list", data := Data.seq #[Value.int 14 287, Value.int 4 288, Value.int 0 289, Value.int 1 290, Value.int 1 291, Value.int 6 292, Value.int 1 293, Value.int 16 294, Value.int 46 295, Value.int 1 296] }
noncomputable def hd.o_36 (_ : Params) : Obj := { cls := Value.type "dict", data := Data.dict #[] }
noncomputable def hd.o_37 (_ : Params) : Obj := { cls := Value.type "tuple", data := Data.seq #[Value.none] }
noncomputable def hd.o_38 (_ : Params) : Obj := { cls := Value.type "tuple", data := Data.seq #[Value.int 14 0, Value.int 4 0, Value.int 0 0, Value.int 1 0, Value.int 1 0, Value.int 6 0, Value.int 1 0, Value.int 16 0, Value.int 46 0, Value.int 1 0] }
noncomputable def hd.o_39 (_ : Params) : Obj := { cls := Value.type "re.Pattern", data := Data.fields #[Value.str (Str.ofString "(?m)^\\.") 285, Value.int 40 298, Value.int 0 0, Value.none, Value.none, Value.ref 35, Value.int 0 0] }
noncomputable def hd.o_40 (_ : Params) : Obj := { cls := Value.type "list", data := Data.seq #[Value.int 14 303, Value.int 9 304, Value.int 4 305, Value.int 1 306, Value.int 2 307, Value.int 16 308, Value.int 10 309, Value.int 16 310, Value.int 13 311, Value.int 0 312, Value.int 7 313, Value.int 7 314, Value.int 16 315, Value.int 13 316, Value.int 16 317, Value.int 10 318, Value.int 15 319, Value.int 18 320, Value.int 5 321, Value.int 16 322, Value.int 10 323, Value.int 15 324, Value.int 13 325, Value.int 11 326, Value.int 16 327, Value.int 13 328, Value.int 5 329, Value.int 5 330, Value.int 0 331, Value.int 16 332, Value.int 10 333, Value.int 1 334, Value.int 15 335, Value.int 2 336, Value.int 0 337, Value.int 1 338] }
noncomputable def hd.o_41 (_ : Params) : Obj := { cls := Value.type "dict", data := Data.dict #[] }
noncomputable def hd.o_42 (_ : Params) : Obj := { cls := Value.type "tuple", data := Data.seq #[Value.none] }
noncomputable def hd.o_43 (_ : Params) : Obj := { cls := Value.type "tuple", data := Data.seq #[Value.int 14 0, Value.int 9 0, Value.int 4 0, Value.int 1 0, Value.int 2 0, Value.int 16 0, Value.int 10 0, Value.int 16 0, Value.int 13 0, Value.int 0 0, Value.int 7 0, Value.int 7 0, Value.int 16 0, Value.int 13 0, Value.int 16 0, Value.int 10 0, Value.int 15 0, Value.int 18 0, Value.int 5 0, Value.int 16 0, Value.int 10 0, Value.int 15 0, Value.int 13 0, Value.int 11 0, Value.int 16 0, Value.int 13 0, Value.int 5 0, Value.int 5 0, Value.int 0 0, Value.int 16 0, Value.int 10 0, Value.int 1 0, Value.int 15 0, Value.int 2 0, Value.int 0 0, Value.int 1 0] }
noncomputable def hd.o_44 (_ : Params) : Obj := { cls := Value.type "re.Pattern", data := Data.fields #[Value.str (Str.ofString "(?:\\r\\n|\\n|\\r(?!\\n))") 301, Value.int 32 340, Value.int 0 0, Value.none, Value.none, Value.ref 40, Value.int 0 0] }
noncomputable def hd.o_45 (_ : Params) : Obj := { cls := Value.type "tuple", data := Data.seq #[] }
noncomputable def hd.o_46 (_ : Params) : Obj := { cls := Value.none, data := Data.fields #[] }
noncomputable def hd.o_47 (_ : Params) : Obj := { cls := Value.type "tuple", data := Data.seq #[Value.str (Str.ofString "data") 347] }
noncomputable def hd.o_48 (_ : Params) : Obj := { cls := Value.type "tuple", data := Data.seq #[] }
noncomputable def hd.o_49 (_ : Params) : Obj := fnObj 5 (Value.none) 0 (Value.none) (Value.none)
noncomputable def hd.o_50 (_ : Params) : Obj := { cls := Value.type "code", data := Data.fields #[Value.str (Str.ofString "quotedata") 344, Value.str (Str.ofString "quotedata") 345, Value.str (Str.ofString "/claim/cut.py") 346, Value.int 6 0, Value.int 1 0, Value.int 0 0, Value.int 0 0, Value.int 3 0, Value.ref 42, Value.bool true, Value.int 276 0, Value.ref 43, Value.none, Value.ref 44, Value.ref 45, Value.ref 46, Value.int 348 0, Value.int 6 0, Value.str (Str.ofString "/claim/cut.py") 349] }
noncomputable def hd.o_51 (_ : Params) : Obj := fnObj 5 (Value.type "function") 3 (Value.str (Str.ofString "cpy313.smtplib") 282) (Value.ref 47)
noncomputable def hd.o_52 (_ : Params) : Obj := { cls := Value.type "tuple", data := Data.seq #[] }
noncomputable def hd.o_53 (_ : Params) : Obj := { cls := Value.none, data := Data.fields #[] }
noncomputable def hd.o_54 (_ : Params) : Obj := { cls := Value.type "tuple", data := Data.seq #[Value.str (Str.ofString "grouping") 358, Value.str (Str.ofString "last_interval") 359, Value.str (Str.ofString "interval") 360] }
noncomputable def hd.o_55 (_ : Params) : Obj := { cls := Value.type "tuple", data := Data.seq #[] }
noncomputable def hd.o_56 (_ : Params) : Obj := fnObj 8 (Value.none) 0 (Value.none) (Value.none)
noncomputable def hd.o_57 (_ : Params) : Obj := { cls := Value.type "code", data := Data.fields #[Value.str (Str.ofString "_grouping_intervals") 355, Value.str (Str.ofString "_grouping_intervals") 356, Value.str (Str.ofString "/claim/cut.py") 357, Value.int 10 0, Value.int 1 0, Value.int 0 0, Value.int 0 0, Value.int 35 0, Value.ref 49, Value.bool true, Value.int 276 0, Value.ref 50, Value.none, Value.ref 51, Value.ref 52, Value.ref 53, Value.int 361 0, Value.int 10 0, Value.str (Str.ofString "/claim/cut.py") 362] }
noncomputable def hd.o_58 (_ : Params) : Obj := fnObj 8 (Value.type "function") 3 (Value.str (Str.ofString "cpy313.locale") 351) (Value.ref 54)
noncomputable def hd.tree_32 (P : Params) : BT := BT.node (hd.o_1 P) (BT.node (hd.o_2 P) (BT.node (hd.o_4 P) (BT.node (hd.o_8 P) (BT.node (hd.o_16 P) (BT.node (hd.o_32 P) BT.nil BT.nil) BT.nil) (BT.node (hd.o_24 P) BT.nil BT.nil)) (BT.node (hd.o_12 P) (BT.node (hd.o_20 P) BT.nil BT.nil) (BT.node (hd.o_28 P) BT.nil BT.nil))) (BT.node (hd.o_6 P) (BT.node (hd.o_10 P) (BT.node (hd.o_18 P) BT.nil BT.nil) (BT.node (hd.o_26 P) BT.nil BT.nil)) (BT.node (hd.o_14 P) (BT.node (hd.o_22 P) BT.nil BT.nil) (BT.node (hd.o_30 P) BT.nil BT.nil)))) (BT.node (hd.o_3 P) (BT.node (hd.o_5 P) (BT.node (hd.o_9 P) (BT.node (hd.o_17 P) BT.nil BT.nil) (BT.node (hd.o_25 P) BT.nil BT.nil)) (BT.node (hd.o_13 P) (BT.node (hd.o_21 P) BT.nil BT.nil) (BT.node (hd.o_29 P) BT.nil BT.nil))) (BT.node (hd.o_7 P) (BT.node (hd.o_11 P) (BT.node (hd.o_19 P) BT.nil BT.nil) (BT.node (hd.o_27 P) BT.nil BT.nil)) (BT.node (hd.o_15 P) (BT.node (hd.o_23 P) BT.nil BT.nil) (BT.node (hd.o_31 P) BT.nil BT.nil))))
noncomputable def hd.tree_58 (P : Params) : BT := BT.node (hd.o_1 P) (BT.node (hd.o_2 P) (BT.node (hd.o_33 P) (BT.node (hd.o_8 P) (BT.node (hd.o_16 P) (BT.node (hd.o_32 P) BT.nil BT.nil) (BT.node (hd.o_50 P) BT.nil BT.nil)) (BT.node (hd.o_24 P) (BT.node (hd.o_42 P) BT.nil BT.nil) (BT.node (hd.o_58 P) BT.nil BT.nil))) (BT.node (hd.o_12 P) (BT.node (hd.o_20 P) (BT.node (hd.o_38 P) BT.nil BT.nil) (BT.node (hd.o_54 P) BT.nil BT.nil)) (BT.node (hd.o_28 P) (BT.node (hd.o_46 P) BT.nil BT.nil) BT.nil))) (BT.node (hd.o_6 P) (BT.node (hd.o_10 P) (BT.node (hd.o_18 P) (BT.node (hd.o_36 P) BT.nil BT.nil) (BT.node (hd.o_52 P) BT.nil BT.nil)) (BT.node (hd.o_26 P) (BT.node (hd.o_44 P) BT.nil BT.nil) BT.nil)) (BT.node (hd.o_14 P) (BT.node (hd.o_22 P) (BT.node (hd.o_40 P) BT.nil BT.nil) (BT.node (hd.o_56 P) BT.nil BT.nil)) (BT.node (hd.o_34 P) (BT.node (hd.o_48 P) BT.nil BT.nil) BT.nil)))) (BT.node (hd.o_3 P) (BT.node (hd.o_5 P) (BT.node (hd.o_9 P) (BT.node (hd.o_17 P) (BT.node (hd.o_35 P) BT.nil BT.nil) (BT.node (hd.o_51 P) BT.nil BT.nil)) (BT.node (hd.o_25 P) (BT.node (hd.o_43 P) BT.nil BT.nil) BT.nil)) (BT.node (hd.o_13 P) (BT.node (hd.o_21 P) (BT.node (hd.o_39 P) BT.nil BT.nil) (BT.node (hd.o_55 P) BT.nil BT.nil)) (BT.node (hd.o_29 P) (BT.node (hd.o_47 P) BT.nil BT.nil) BT.nil))) (BT.node (hd.o_7 P) (BT.node (hd.o_11 P) (BT.node (hd.o_19 P) (BT.node (hd.o_37 P) BT.nil BT.nil) (BT.node (hd.o_53 P) BT.nil BT.nil)) (BT.node (hd.o_27 P) (BT.node (hd.o_45 P) BT.nil BT.nil) BT.nil)) (BT.node (hd.o_15 P) (BT.node (hd.o_23 P) (BT.node (hd.o_41 P) BT.nil BT.nil) (BT.node (hd.o_57 P) BT.nil BT.nil)) (BT.node (hd.o_31 P) (BT.node (hd.o_49 P) BT.nil BT.nil) BT.nil))))
noncomputable def hd.env_1 : Env := { scope := prog.main.scope, locals := mainNs, globals := mainNs, cells := [], code := Value.ref 30, frame := some 31 }
noncomputable def hd.sts_32 : List Stmt := (prog.main.body.drop 1).take 9
/- the table of the top: its items, read off the text -/
noncomputable def cOf : PySem.Expr → Option PySem.Const
  | .Constant c _ _ => some c
  | _ => none
noncomputable def iC : Option PySem.Const → Option Int
  | some (.int k) => some k
  | _ => none
noncomputable def sC : Option PySem.Const → Option Str
  | some (.str k) => some k
  | _ => none
noncomputable def psOf : List (Option PySem.Expr) → List PySem.Expr → List (Int × Str)
  | k :: ks, v :: vs => ((iC (k.bind cOf)).getD 0, (sC (cOf v)).getD default) :: psOf ks vs
  | _, _ => []
noncomputable def okKV : List (Option PySem.Expr) → List PySem.Expr → Bool
  | [], [] => true
  | k :: ks, v :: vs => (iC (k.bind cOf)).isSome && ((sC (cOf v)).isSome && okKV ks vs)
  | _, _ => false
noncomputable def b3St : Stmt := (prog.main.body[12]?).getD (.Pass ⟨0, 0, 0, 0⟩)
noncomputable def b3K : Stmt → List (Option PySem.Expr)
  | .Assign _ (.Dict ks _ _) _ => ks
  | _ => []
noncomputable def b3V : Stmt → List PySem.Expr
  | .Assign _ (.Dict _ vs _) _ => vs
  | _ => []
noncomputable def b3P : List (Int × Str) := psOf (b3K b3St) (b3V b3St)
noncomputable def b3c0 : List (Int × Str) := b3P.take 17
noncomputable def b3cs : List (List (Int × Str)) := (List.range 37).map fun i => (b3P.drop (17 * (i + 1))).take 17
noncomputable def b3last : List (Int × Str) := b3P.drop 646
noncomputable def b3E : List DictEntry := entsOf 433 (b3c0 :: b3cs) ++ entS b3last (433 + toksOf (b3c0 :: b3cs))
noncomputable def b3S : List Obj := subsOf (433 + 3 * b3c0.length) b3cs ++ [dO (entS b3last (433 + toksOf (b3c0 :: b3cs)))]
noncomputable def b3o74 (_ : Params) : Obj := dO b3E
noncomputable def b3o75 (_ : Params) : Obj := b3S.getD 0 default
noncomputable def b3o76 (_ : Params) : Obj := b3S.getD 1 default
noncomputable def b3o77 (_ : Params) : Obj := b3S.getD 2 default
noncomputable def b3o78 (_ : Params) : Obj := b3S.getD 3 default
noncomputable def b3o79 (_ : Params) : Obj := b3S.getD 4 default
noncomputable def b3o80 (_ : Params) : Obj := b3S.getD 5 default
noncomputable def b3o81 (_ : Params) : Obj := b3S.getD 6 default
noncomputable def b3o82 (_ : Params) : Obj := b3S.getD 7 default
noncomputable def b3o83 (_ : Params) : Obj := b3S.getD 8 default
noncomputable def b3o84 (_ : Params) : Obj := b3S.getD 9 default
noncomputable def b3o85 (_ : Params) : Obj := b3S.getD 10 default
noncomputable def b3o86 (_ : Params) : Obj := b3S.getD 11 default
noncomputable def b3o87 (_ : Params) : Obj := b3S.getD 12 default
noncomputable def b3o88 (_ : Params) : Obj := b3S.getD 13 default
noncomputable def b3o89 (_ : Params) : Obj := b3S.getD 14 default
noncomputable def b3o90 (_ : Params) : Obj := b3S.getD 15 default
noncomputable def b3o91 (_ : Params) : Obj := b3S.getD 16 default
noncomputable def b3o92 (_ : Params) : Obj := b3S.getD 17 default
noncomputable def b3o93 (_ : Params) : Obj := b3S.getD 18 default
noncomputable def b3o94 (_ : Params) : Obj := b3S.getD 19 default
noncomputable def b3o95 (_ : Params) : Obj := b3S.getD 20 default
noncomputable def b3o96 (_ : Params) : Obj := b3S.getD 21 default
noncomputable def b3o97 (_ : Params) : Obj := b3S.getD 22 default
noncomputable def b3o98 (_ : Params) : Obj := b3S.getD 23 default
noncomputable def b3o99 (_ : Params) : Obj := b3S.getD 24 default
noncomputable def b3o100 (_ : Params) : Obj := b3S.getD 25 default
noncomputable def b3o101 (_ : Params) : Obj := b3S.getD 26 default
noncomputable def b3o102 (_ : Params) : Obj := b3S.getD 27 default
noncomputable def b3o103 (_ : Params) : Obj := b3S.getD 28 default
noncomputable def b3o104 (_ : Params) : Obj := b3S.getD 29 default
noncomputable def b3o105 (_ : Params) : Obj := b3S.getD 30 default
noncomputable def b3o106 (_ : Params) : Obj := b3S.getD 31 default
noncomputable def b3o107 (_ : Params) : Obj := b3S.getD 32 default
noncomputable def b3o108 (_ : Params) : Obj := b3S.getD 33 default
noncomputable def b3o109 (_ : Params) : Obj := b3S.getD 34 default
noncomputable def b3o110 (_ : Params) : Obj := b3S.getD 35 default
noncomputable def b3o111 (_ : Params) : Obj := b3S.getD 36 default
noncomputable def b3o112 (_ : Params) : Obj := b3S.getD 37 default
noncomputable def c9_3 (P : Params) : Obj := { cls := Value.type "dict", data := Data.dict #[{ hash := PyData.keyHash P (Str.ofString "__name__"), key := Value.str (Str.ofString "__name__") 165, val := Value.str (Str.ofString "cpy313.stringprep") 364 }, { hash := PyData.keyHash P (Str.ofString "__doc__"), key := Value.str (Str.ofString "__doc__") 166, val := Value.none }, { hash := PyData.keyHash P (Str.ofString "__package__"), key := Value.str (Str.ofString "__package__") 167, val := Value.none }, { hash := PyData.keyHash P (Str.ofString "__loader__"), key := Value.str (Str.ofString "__loader__") 168, val := Value.builtin "__main__.__loader__#opaque" }, { hash := PyData.keyHash P (Str.ofString "__spec__"), key := Value.str (Str.ofString "__spec__") 169, val := Value.none }, { hash := PyData.keyHash P (Str.ofString "__annotations__"), key := Value.str (Str.ofString "__annotations__") 170, val := Value.ref 6 }, { hash := PyData.keyHash P (Str.ofString "__builtins__"), key := Value.str (Str.ofString "__builtins__") 171, val := Value.ref 4 }, { hash := PyData.keyHash P (Str.ofString "__file__"), key := Value.str (Str.ofString "__file__") 173, val := Value.str (Str.ofString "/claim/cut.py") 172 }, { hash := PyData.keyHash P (Str.ofString "__cached__"), key := Value.str (Str.ofString "__cached__") 174, val := Value.none }, { hash := PyData.keyHash P (Str.ofString "_sre"), key := Value.str (Str.ofString "_sre") 275, val := Value.ref 12 }, { hash := PyData.keyHash P (Str.ofString "_twin_re_1"), key := Value.str (Str.ofString "_twin_re_1") 299, val := Value.ref 36 }, { hash := PyData.keyHash P (Str.ofString "_twin_re_2"), key := Value.str (Str.ofString "_twin_re_2") 341, val := Value.ref 41 }, { hash := PyData.keyHash P (Str.ofString "CRLF"), key := Value.str (Str.ofString "CRLF") 343, val := Value.str (Str.ofString "\x0d\n") 342 }, { hash := PyData.keyHash P (Str.ofString "quotedata"), key := Value.str (Str.ofString "quotedata") 350, val := Value.ref 48 }, { hash := PyData.keyHash P (Str.ofString "CHAR_MAX"), key := Value.str (Str.ofString "CHAR_MAX") 354, val := Value.int 127 353 }, { hash := PyData.keyHash P (Str.ofString "_grouping_intervals"), key := Value.str (Str.ofString "_grouping_intervals") 363, val := Value.ref 55 }, { hash := PyData.keyHash P (Str.ofString "b1_set"), key := Value.str (Str.ofString "b1_set") 425, val := Value.ref 63 }] 17 }
noncomputable def o56 (_ : Params) : Obj := { cls := Value.type "list", data := Data.seq #[Value.int 173 366, Value.int 847 367, Value.int 6150 368, Value.int 6155 369, Value.int 6156 370, Value.int 6157 371, Value.int 8203 372, Value.int 8204 373, Value.int 8205 374, Value.int 8288 375, Value.int 65279 376] }
noncomputable def o57 (_ : Params) : Obj := { cls := Value.type "range", data := Data.fields #[Value.int 65024 377, Value.int 65040 378, Value.int 1 379] }
noncomputable def o58 (_ : Params) : Obj := { cls := Value.type "list", data := Data.seq #[Value.int 65024 382, Value.int 65025 383, Value.int 65026 384, Value.int 65027 385, Value.int 65028 386, Value.int 65029 387, Value.int 65030 388, Value.int 65031 389, Value.int 65032 390, Value.int 65033 391, Value.int 65034 392, Value.int 65035 393, Value.int 65036 394, Value.int 65037 395, Value.int 65038 396, Value.int 65039 397] 18 }
noncomputable def o59 (_ : Params) : Obj := { cls := Value.type "range_iterator", data := Data.fields #[Value.int 65040 0, Value.int 0 0, Value.int 1 0] }
noncomputable def o60 (_ : Params) : Obj := { cls := Value.type "tuple", data := Data.seq #[] }
noncomputable def o61 (_ : Params) : Obj := { cls := Value.type "StopIteration", data := Data.fields #[Value.ref 60, Value.none, Value.none, Value.none, Value.bool false, Value.none] }
noncomputable def o62 (_ : Params) : Obj := { cls := Value.type "list", data := Data.seq #[Value.int 173 366, Value.int 847 367, Value.int 6150 368, Value.int 6155 369, Value.int 6156 370, Value.int 6157 371, Value.int 8203 372, Value.int 8204 373, Value.int 8205 374, Value.int 8288 375, Value.int 65279 376, Value.int 65024 382, Value.int 65025 383, Value.int 65026 384, Value.int 65027 385, Value.int 65028 386, Value.int 65029 387, Value.int 65030 388, Value.int 65031 389, Value.int 65032 390, Value.int 65033 391, Value.int 65034 392, Value.int 65035 393, Value.int 65036 394, Value.int 65037 395, Value.int 65038 396, Value.int 65039 397] }
noncomputable def o63 (P : Params) : Obj := { cls := Value.type "set", data := Data.set #[(65024, Value.int 65024 382), (65025, Value.int 65025 383), (65026, Value.int 65026 384), (65027, Value.int 65027 385), (65028, Value.int 65028 386), (65029, Value.int 65029 387), (6150, Value.int 6150 368), (65030, Value.int 65030 388), (65031, Value.int 65031 389), (65032, Value.int 65032 390), (65033, Value.int 65033 391), (6155, Value.int 6155 369), (6156, Value.int 6156 370), (6157, Value.int 6157 371), (8203, Value.int 8203 372), (8204, Value.int 8204 373), (8205, Value.int 8205 374), (65034, Value.int 65034 392), (65035, Value.int 65035 393), (65036, Value.int 65036 394), (65037, Value.int 65037 395), (65038, Value.int 65038 396), (65039, Value.int 65039 397), (173, Value.int 173 366), (847, Value.int 847 367), (8288, Value.int 8288 375), (65279, Value.int 65279 376)] 29 { mask := 127, place := #[0, 1, 2, 3, 4, 5, 6, 7, 8, 9, 10, 11, 12, 13, 14, 15, 16, 17, 18, 19, 20, 21, 22, 45, 79, 96, 127], dummies := #[], finger := 0, led := !P.followText "set-order", moves := 2, plain := true } }
noncomputable def o64 (_ : Params) : Obj := { cls := Value.type "list_iterator", data := Data.fields #[Value.none, Value.int 27 0] }
noncomputable def o65 (_ : Params) : Obj := { cls := Value.type "tuple", data := Data.seq #[] }
noncomputable def o66 (_ : Params) : Obj := { cls := Value.type "StopIteration", data := Data.fields #[Value.ref 65, Value.none, Value.none, Value.none, Value.bool false, Value.none] }
noncomputable def c10_3 (P : Params) : Obj := { cls := Value.type "dict", data := Data.dict #[{ hash := PyData.keyHash P (Str.ofString "__name__"), key := Value.str (Str.ofString "__name__") 165, val := Value.str (Str.ofString "cpy313.stringprep") 364 }, { hash := PyData.keyHash P (Str.ofString "__doc__"), key := Value.str (Str.ofString "__doc__") 166, val := Value.none }, { hash := PyData.keyHash P (Str.ofString "__package__"), key := Value.str (Str.ofString "__package__") 167, val := Value.none }, { hash := PyData.keyHash P (Str.ofString "__loader__"), key := Value.str (Str.ofString "__loader__") 168, val := Value.builtin "__main__.__loader__#opaque" }, { hash := PyData.keyHash P (Str.ofString "__spec__"), key := Value.str (Str.ofString "__spec__") 169, val := Value.none }, { hash := PyData.keyHash P (Str.ofString "__annotations__"), key := Value.str (Str.ofString "__annotations__") 170, val := Value.ref 6 }, { hash := PyData.keyHash P (Str.ofString "__builtins__"), key := Value.str (Str.ofString "__builtins__") 171, val := Value.ref 4 }, { hash := PyData.keyHash P (Str.ofString "__file__"), key := Value.str (Str.ofString "__file__") 173, val := Value.str (Str.ofString "/claim/cut.py") 172 }, { hash := PyData.keyHash P (Str.ofString "__cached__"), key := Value.str (Str.ofString "__cached__") 174, val := Value.none }, { hash := PyData.keyHash P (Str.ofString "_sre"), key := Value.str (Str.ofString "_sre") 275, val := Value.ref 12 }, { hash := PyData.keyHash P (Str.ofString "_twin_re_1"), key := Value.str (Str.ofString "_twin_re_1") 299, val := Value.ref 36 }, { hash := PyData.keyHash P (Str.ofString "_twin_re_2"), key := Value.str (Str.ofString "_twin_re_2") 341, val := Value.ref 41 }, { hash := PyData.keyHash P (Str.ofString "CRLF"), key := Value.str (Str.ofString "CRLF") 343, val := Value.str (Str.ofString "\x0d\n") 342 }, { hash := PyData.keyHash P (Str.ofString "quotedata"), key := Value.str (Str.ofString "quotedata") 350, val := Value.ref 48 }, { hash := PyData.keyHash P (Str.ofString "CHAR_MAX"), key := Value.str (Str.ofString "CHAR_MAX") 354, val := Value.int 127 353 }, { hash := PyData.keyHash P (Str.ofString "_grouping_intervals"), key := Value.str (Str.ofString "_grouping_intervals") 363, val := Value.ref 55 }, { hash := PyData.keyHash P (Str.ofString "b1_set"), key := Value.str (Str.ofString "b1_set") 425, val := Value.ref 63 }, { hash := PyData.keyHash P (Str.ofString "in_table_b1"), key := Value.str (Str.ofString "in_table_b1") 432, val := Value.ref 73 }] 18 }
noncomputable def c10_29 (_ : Params) : Obj := { cls := Value.none, data := Data.fields #[Value.int 6 0, Value.int 0 0, Value.ref 47, Value.int 10 0, Value.int 0 0, Value.ref 54, Value.int 24 0, Value.int 0 0, Value.ref 72] }
noncomputable def o67 (_ : Params) : Obj := { cls := Value.type "tuple", data := Data.seq #[] }
noncomputable def o68 (_ : Params) : Obj := { cls := Value.none, data := Data.fields #[] }
noncomputable def o69 (_ : Params) : Obj := { cls := Value.type "tuple", data := Data.seq #[Value.str (Str.ofString "code") 429] }
noncomputable def o70 (_ : Params) : Obj := { cls := Value.type "tuple", data := Data.seq #[] }
noncomputable def o71 (_ : Params) : Obj := fnObj 11 (Value.none) 0 (Value.none) (Value.none)
noncomputable def o72 (_ : Params) : Obj := { cls := Value.type "code", data := Data.fields #[Value.str (Str.ofString "in_table_b1") 426, Value.str (Str.ofString "in_table_b1") 427, Value.str (Str.ofString "/claim/cut.py") 428, Value.int 24 0, Value.int 1 0, Value.int 0 0, Value.int 0 0, Value.int 3 0, Value.ref 67, Value.bool true, Value.int 276 0, Value.ref 68, Value.none, Value.ref 69, Value.ref 70, Value.ref 71, Value.int 430 0, Value.int 24 0, Value.str (Str.ofString "/claim/cut.py") 431] }
noncomputable def o73 (_ : Params) : Obj := fnObj 11 (Value.type "function") 3 (Value.str (Str.ofString "cpy313.stringprep") 364) (Value.ref 72)
noncomputable def c11_3 (P : Params) : Obj := { cls := Value.type "dict", data := Data.dict #[{ hash := PyData.keyHash P (Str.ofString "__name__"), key := Value.str (Str.ofString "__name__") 165, val := Value.str (Str.ofString "cpy313.stringprep") 364 }, { hash := PyData.keyHash P (Str.ofString "__doc__"), key := Value.str (Str.ofString "__doc__") 166, val := Value.none }, { hash := PyData.keyHash P (Str.ofString "__package__"), key := Value.str (Str.ofString "__package__") 167, val := Value.none }, { hash := PyData.keyHash P (Str.ofString "__loader__"), key := Value.str (Str.ofString "__loader__") 168, val := Value.builtin "__main__.__loader__#opaque" }, { hash := PyData.keyHash P (Str.ofString "__spec__"), key := Value.str (Str.ofString "__spec__") 169, val := Value.none }, { hash := PyData.keyHash P (Str.ofString "__annotations__"), key := Value.str (Str.ofString "__annotations__") 170, val := Value.ref 6 }, { hash := PyData.keyHash P (Str.ofString "__builtins__"), key := Value.str (Str.ofString "__builtins__") 171, val := Value.ref 4 }, { hash := PyData.keyHash P (Str.ofString "__file__"), key := Value.str (Str.ofString "__file__") 173, val := Value.str (Str.ofString "/claim/cut.py") 172 }, { hash := PyData.keyHash P (Str.ofString "__cached__"), key := Value.str (Str.ofString "__cached__") 174, val := Value.none }, { hash := PyData.keyHash P (Str.ofString "_sre"), key := Value.str (Str.ofString "_sre") 275, val := Value.ref 12 }, { hash := PyData.keyHash P (Str.ofString "_twin_re_1"), key := Value.str (Str.ofString "_twin_re_1") 299, val := Value.ref 36 }, { hash := PyData.keyHash P (Str.ofString "_twin_re_2"), key := Value.str (Str.ofString "_twin_re_2") 341, val := Value.ref 41 }, { hash := PyData.keyHash P (Str.ofString "CRLF"), key := Value.str (Str.ofString "CRLF") 343, val := Value.str (Str.ofString "\x0d\n") 342 }, { hash := PyData.keyHash P (Str.ofString "quotedata"), key := Value.str (Str.ofString "quotedata") 350, val := Value.ref 48 }, { hash := PyData.keyHash P (Str.ofString "CHAR_MAX"), key := Value.str (Str.ofString "CHAR_MAX") 354, val := Value.int 127 353 }, { hash := PyData.keyHash P (Str.ofString "_grouping_intervals"), key := Value.str (Str.ofString "_grouping_intervals") 363, val := Value.ref 55 }, { hash := PyData.keyHash P (Str.ofString "b1_set"), key := Value.str (Str.ofString "b1_set") 425, val := Value.ref 63 }, { hash := PyData.keyHash P (Str.ofString "in_table_b1"), key := Value.str (Str.ofString "in_table_b1") 432, val := Value.ref 73 }, { hash := PyData.keyHash P (Str.ofString "b3_exceptions"), key := Value.str (Str.ofString "b3_exceptions") 2383, val := Value.ref 74 }] 19 }
noncomputable def o113 (_ : Params) : Obj := { cls := Value.type "tuple", data := Data.seq #[] }
noncomputable def o114 (_ : Params) : Obj := { cls := Value.none, data := Data.fields #[] }
noncomputable def o115 (_ : Params) : Obj := { cls := Value.type "tuple", data := Data.seq #[Value.str (Str.ofString "code") 2387, Value.str (Str.ofString "r") 2388] }
noncomputable def o116 (_ : Params) : Obj := { cls := Value.type "tuple", data := Data.seq #[] }
noncomputable def o117 (_ : Params) : Obj := fnObj 13 (Value.none) 0 (Value.none) (Value.none)
noncomputable def o118 (_ : Params) : Obj := { cls := Value.type "code", data := Data.fields #[Value.str (Str.ofString "map_table_b3") 2384, Value.str (Str.ofString "map_table_b3") 2385, Value.str (Str.ofString "/claim/cut.py") 2386, Value.int 27 0, Value.int 1 0, Value.int 0 0, Value.int 0 0, Value.int 3 0, Value.ref 113, Value.bool true, Value.int 276 0, Value.ref 114, Value.none, Value.ref 115, Value.ref 116, Value.ref 117, Value.int 2389 0, Value.int 27 0, Value.str (Str.ofString "/claim/cut.py") 2390] }
noncomputable def o119 (_ : Params) : Obj := fnObj 13 (Value.type "function") 3 (Value.str (Str.ofString "cpy313.stringprep") 364) (Value.ref 118)
noncomputable def o120 (_ : Params) : Obj := { cls := Value.type "tuple", data := Data.seq #[] }
noncomputable def o121 (_ : Params) : Obj := { cls := Value.none, data := Data.fields #[] }
noncomputable def o122 (_ : Params) : Obj := { cls := Value.type "tuple", data := Data.seq #[Value.str (Str.ofString "number") 2397, Value.str (Str.ofString "codes") 2398, Value.str (Str.ofString "place") 2399] }
noncomputable def o123 (_ : Params) : Obj := { cls := Value.type "tuple", data := Data.seq #[] }
noncomputable def o124 (_ : Params) : Obj := fnObj 15 (Value.none) 0 (Value.none) (Value.none)
noncomputable def o125 (_ : Params) : Obj := { cls := Value.type "code", data := Data.fields #[Value.str (Str.ofString "_law_unseen") 2394, Value.str (Str.ofString "_law_unseen") 2395, Value.str (Str.ofString "/claim/cut.py") 2396, Value.int 33 0, Value.int 1 0, Value.int 0 0, Value.int 0 0, Value.int 3 0, Value.ref 120, Value.bool true, Value.int 276 0, Value.ref 121, Value.none, Value.ref 122, Value.ref 123, Value.ref 124, Value.int 2400 0, Value.int 33 0, Value.str (Str.ofString "/claim/cut.py") 2401] }
noncomputable def o126 (_ : Params) : Obj := fnObj 15 (Value.type "function") 3 (Value.str (Str.ofString "law_st0016_02") 2392) (Value.ref 125)
noncomputable def o127 (_ : Params) : Obj := { cls := Value.type "tuple", data := Data.seq #[] }
noncomputable def o128 (_ : Params) : Obj := { cls := Value.none, data := Data.fields #[] }
noncomputable def o129 (_ : Params) : Obj := { cls := Value.type "tuple", data := Data.seq #[Value.str (Str.ofString "pack") 2406, Value.str (Str.ofString "seed") 2407, Value.str (Str.ofString "deal") 2408, Value.str (Str.ofString "bases") 2409, Value.str (Str.ofString "pairs") 2410, Value.str (Str.ofString "signs") 2411, Value.str (Str.ofString "at") 2412, Value.str (Str.ofString "figure") 2413] }
noncomputable def o130 (_ : Params) : Obj := { cls := Value.type "tuple", data := Data.seq #[] }
noncomputable def o131 (_ : Params) : Obj := fnObj 16 (Value.none) 0 (Value.none) (Value.none)
noncomputable def o132 (_ : Params) : Obj := { cls := Value.type "code", data := Data.fields #[Value.str (Str.ofString "_law_spelled") 2403, Value.str (Str.ofString "_law_spelled") 2404, Value.str (Str.ofString "/claim/cut.py") 2405, Value.int 37 0, Value.int 3 0, Value.int 0 0, Value.int 0 0, Value.int 3 0, Value.ref 127, Value.bool true, Value.int 276 0, Value.ref 128, Value.none, Value.ref 129, Value.ref 130, Value.ref 131, Value.int 2414 0, Value.int 37 0, Value.str (Str.ofString "/claim/cut.py") 2415] }
noncomputable def o133 (_ : Params) : Obj := fnObj 16 (Value.type "function") 3 (Value.str (Str.ofString "law_st0016_02") 2392) (Value.ref 132)
noncomputable def o134 (_ : Params) : Obj := { cls := Value.type "tuple", data := Data.seq #[] }
noncomputable def o135 (_ : Params) : Obj := { cls := Value.none, data := Data.fields #[] }
noncomputable def o136 (_ : Params) : Obj := { cls := Value.type "tuple", data := Data.seq #[Value.str (Str.ofString "text") 2420, Value.str (Str.ofString "width") 2421, Value.str (Str.ofString "rows") 2422, Value.str (Str.ofString "at") 2423, Value.str (Str.ofString "size") 2424] }
noncomputable def o137 (_ : Params) : Obj := { cls := Value.type "tuple", data := Data.seq #[] }
noncomputable def o138 (_ : Params) : Obj := fnObj 17 (Value.none) 0 (Value.none) (Value.none)
noncomputable def o139 (_ : Params) : Obj := { cls := Value.type "code", data := Data.fields #[Value.str (Str.ofString "_law_rows") 2417, Value.str (Str.ofString "_law_rows") 2418, Value.str (Str.ofString "/claim/cut.py") 2419, Value.int 55 0, Value.int 2 0, Value.int 0 0, Value.int 0 0, Value.int 3 0, Value.ref 134, Value.bool true, Value.int 276 0, Value.ref 135, Value.none, Value.ref 136, Value.ref 137, Value.ref 138, Value.int 2425 0, Value.int 55 0, Value.str (Str.ofString "/claim/cut.py") 2426] }
noncomputable def o140 (_ : Params) : Obj := fnObj 17 (Value.type "function") 3 (Value.str (Str.ofString "law_st0016_02") 2392) (Value.ref 139)
noncomputable def o141 (_ : Params) : Obj := { cls := Value.type "tuple", data := Data.seq #[] }
noncomputable def o142 (_ : Params) : Obj := { cls := Value.none, data := Data.fields #[] }
noncomputable def o143 (_ : Params) : Obj := fnObj 18 (Value.none) 0 (Value.none) (Value.none)
noncomputable def o144 (_ : Params) : Obj := { cls := Value.type "code", data := Data.fields #[Value.str (Str.ofString "_law_laid") 2428, Value.str (Str.ofString "_law_laid") 2429, Value.str (Str.ofString "/claim/cut.py") 2430, Value.int 64 0, Value.int 4 0, Value.int 0 0, Value.int 0 0, Value.int 3 0, Value.ref 141, Value.bool true, Value.int 276 0, Value.ref 142, Value.none, Value.none, Value.none, Value.ref 143, Value.int 2431 0, Value.int 64 0, Value.str (Str.ofString "/claim/cut.py") 2432] }
noncomputable def o145 (_ : Params) : Obj := fnObj 18 (Value.type "function") 3 (Value.str (Str.ofString "law_st0016_02") 2392) (Value.ref 144)
noncomputable def c18_3 (P : Params) : Obj := { cls := Value.type "dict", data := Data.dict #[{ hash := PyData.keyHash P (Str.ofString "__name__"), key := Value.str (Str.ofString "__name__") 165, val := Value.str (Str.ofString "law_st0016_02") 2392 }, { hash := PyData.keyHash P (Str.ofString "__doc__"), key := Value.str (Str.ofString "__doc__") 166, val := Value.none }, { hash := PyData.keyHash P (Str.ofString "__package__"), key := Value.str (Str.ofString "__package__") 167, val := Value.none }, { hash := PyData.keyHash P (Str.ofString "__loader__"), key := Value.str (Str.ofString "__loader__") 168, val := Value.builtin "__main__.__loader__#opaque" }, { hash := PyData.keyHash P (Str.ofString "__spec__"), key := Value.str (Str.ofString "__spec__") 169, val := Value.none }, { hash := PyData.keyHash P (Str.ofString "__annotations__"), key := Value.str (Str.ofString "__annotations__") 170, val := Value.ref 6 }, { hash := PyData.keyHash P (Str.ofString "__builtins__"), key := Value.str (Str.ofString "__builtins__") 171, val := Value.ref 4 }, { hash := PyData.keyHash P (Str.ofString "__file__"), key := Value.str (Str.ofString "__file__") 173, val := Value.str (Str.ofString "/claim/cut.py") 172 }, { hash := PyData.keyHash P (Str.ofString "__cached__"), key := Value.str (Str.ofString "__cached__") 174, val := Value.none }, { hash := PyData.keyHash P (Str.ofString "_sre"), key := Value.str (Str.ofString "_sre") 275, val := Value.ref 12 }, { hash := PyData.keyHash P (Str.ofString "_twin_re_1"), key := Value.str (Str.ofString "_twin_re_1") 299, val := Value.ref 36 }, { hash := PyData.keyHash P (Str.ofString "_twin_re_2"), key := Value.str (Str.ofString "_twin_re_2") 341, val := Value.ref 41 }, { hash := PyData.keyHash P (Str.ofString "CRLF"), key := Value.str (Str.ofString "CRLF") 343, val := Value.str (Str.ofString "\x0d\n") 342 }, { hash := PyData.keyHash P (Str.ofString "quotedata"), key := Value.str (Str.ofString "quotedata") 350, val := Value.ref 48 }, { hash := PyData.keyHash P (Str.ofString "CHAR_MAX"), key := Value.str (Str.ofString "CHAR_MAX") 354, val := Value.int 127 353 }, { hash := PyData.keyHash P (Str.ofString "_grouping_intervals"), key := Value.str (Str.ofString "_grouping_intervals") 363, val := Value.ref 55 }, { hash := PyData.keyHash P (Str.ofString "b1_set"), key := Value.str (Str.ofString "b1_set") 425, val := Value.ref 63 }, { hash := PyData.keyHash P (Str.ofString "in_table_b1"), key := Value.str (Str.ofString "in_table_b1") 432, val := Value.ref 73 }, { hash := PyData.keyHash P (Str.ofString "b3_exceptions"), key := Value.str (Str.ofString "b3_exceptions") 2383, val := Value.ref 74 }, { hash := PyData.keyHash P (Str.ofString "map_table_b3"), key := Value.str (Str.ofString "map_table_b3") 2391, val := Value.ref 119 }, { hash := PyData.keyHash P (Str.ofString "_law_unseen"), key := Value.str (Str.ofString "_law_unseen") 2402, val := Value.ref 126 }, { hash := PyData.keyHash P (Str.ofString "_law_spelled"), key := Value.str (Str.ofString "_law_spelled") 2416, val := Value.ref 133 }, { hash := PyData.keyHash P (Str.ofString "_law_rows"), key := Value.str (Str.ofString "_law_rows") 2427, val := Value.ref 140 }, { hash := PyData.keyHash P (Str.ofString "_law_laid"), key := Value.str (Str.ofString "_law_laid") 2433, val := Value.ref 145 }, { hash := PyData.keyHash P (Str.ofString "law"), key := Value.str (Str.ofString "law") 2439, val := Value.ref 150 }] 25 }
noncomputable def c18_29 (_ : Params) : Obj := { cls := Value.none, data := Data.fields #[Value.int 6 0, Value.int 0 0, Value.ref 47, Value.int 10 0, Value.int 0 0, Value.ref 54, Value.int 24 0, Value.int 0 0, Value.ref 72, Value.int 27 0, Value.int 0 0, Value.ref 118, Value.int 33 0, Value.int 0 0, Value.ref 125, Value.int 37 0, Value.int 0 0, Value.ref 132, Value.int 55 0, Value.int 0 0, Value.ref 139, Value.int 64 0, Value.int 0 0, Value.ref 144, Value.int 69 0, Value.int 0 0, Value.ref 149] }
noncomputable def o146 (_ : Params) : Obj := { cls := Value.type "tuple", data := Data.seq #[] }
noncomputable def o147 (_ : Params) : Obj := { cls := Value.none, data := Data.fields #[] }
noncomputable def o148 (_ : Params) : Obj := fnObj 19 (Value.none) 0 (Value.none) (Value.none)
noncomputable def o149 (_ : Params) : Obj := { cls := Value.type "code", data := Data.fields #[Value.str (Str.ofString "law") 2434, Value.str (Str.ofString "law") 2435, Value.str (Str.ofString "/claim/cut.py") 2436, Value.int 69 0, Value.int 1 0, Value.int 0 0, Value.int 0 0, Value.int 3 0, Value.ref 146, Value.bool true, Value.int 276 0, Value.ref 147, Value.none, Value.none, Value.none, Value.ref 148, Value.int 2437 0, Value.int 69 0, Value.str (Str.ofString "/claim/cut.py") 2438] }
noncomputable def o150 (_ : Params) : Obj := fnObj 19 (Value.type "function") 3 (Value.str (Str.ofString "law_st0016_02") 2392) (Value.ref 149)
noncomputable def he11 (P : Params) : Obj := { cls := Value.type "dict", data := Data.dict #[{ hash := PyData.keyHash P (Str.ofString "__name__"), key := Value.str (Str.ofString "__name__") 247, val := Value.str (Str.ofString "_sre") 246 }, { hash := PyData.keyHash P (Str.ofString "__doc__"), key := Value.str (Str.ofString "__doc__") 248, val := Value.none }, { hash := PyData.keyHash P (Str.ofString "__package__"), key := Value.str (Str.ofString "__package__") 250, val := Value.str (Str.ofString "") 249 }, { hash := PyData.keyHash P (Str.ofString "__loader__"), key := Value.str (Str.ofString "__loader__") 251, val := Value.ref 14 }, { hash := PyData.keyHash P (Str.ofString "__spec__"), key := Value.str (Str.ofString "__spec__") 252, val := Value.ref 26 }, { hash := PyData.keyHash P (Str.ofString "compile"), key := Value.str (Str.ofString "compile") 253, val := Value.builtin "_sre.compile" }, { hash := PyData.keyHash P (Str.ofString "template"), key := Value.str (Str.ofString "template") 254, val := Value.builtin "_sre.template" }, { hash := PyData.keyHash P (Str.ofString "getcodesize"), key := Value.str (Str.ofString "getcodesize") 255, val := Value.builtin "_sre.getcodesize" }, { hash := PyData.keyHash P (Str.ofString "ascii_iscased"), key := Value.str (Str.ofString "ascii_iscased") 256, val := Value.builtin "_sre.ascii_iscased" }, { hash := PyData.keyHash P (Str.ofString "unicode_iscased"), key := Value.str (Str.ofString "unicode_iscased") 257, val := Value.builtin "_sre.unicode_iscased" }, { hash := PyData.keyHash P (Str.ofString "ascii_tolower"), key := Value.str (Str.ofString "ascii_tolower") 258, val := Value.builtin "_sre.ascii_tolower" }, { hash := PyData.keyHash P (Str.ofString "unicode_tolower"), key := Value.str (Str.ofString "unicode_tolower") 259, val := Value.builtin "_sre.unicode_tolower" }, { hash := PyData.keyHash P (Str.ofString "MAGIC"), key := Value.str (Str.ofString "MAGIC") 261, val := Value.int 20230612 260 }, { hash := PyData.keyHash P (Str.ofString "CODESIZE"), key := Value.str (Str.ofString "CODESIZE") 263, val := Value.int 4 262 }, { hash := PyData.keyHash P (Str.ofString "MAXREPEAT"), key := Value.str (Str.ofString "MAXREPEAT") 265, val := Value.int 4294967295 264 }, { hash := PyData.keyHash P (Str.ofString "MAXGROUPS"), key := Value.str (Str.ofString "MAXGROUPS") 267, val := Value.int 1073741823 266 }, { hash := PyData.keyHash P (Str.ofString "copyright"), key := Value.str (Str.ofString "copyright") 269, val := Value.str (Str.ofString " SRE 2.2.2 Copyright (c) 1997-2002 by Secret Labs AB ") 268 }] 17 }
noncomputable def heH (P : Params) : Heap := ⟨#[hd.o_1 P, hd.o_2 P, hd.o_3 P, hd.o_4 P, hd.o_5 P, hd.o_6 P, hd.o_7 P, hd.o_8 P, hd.o_9 P, hd.o_10 P, hd.o_11 P, he11 P, hd.o_13 P, hd.o_14 P, hd.o_15 P, hd.o_16 P, hd.o_17 P, hd.o_18 P, hd.o_19 P, hd.o_20 P, hd.o_21 P, hd.o_22 P, hd.o_23 P, hd.o_24 P, hd.o_25 P, hd.o_26 P, hd.o_27 P, hd.o_28 P], {}⟩
noncomputable def s0H (P : Params) : Heap := ⟨#[hd.o_1 P, hd.o_2 P, hd.o_3 P, hd.o_4 P, hd.o_5 P, hd.o_6 P, hd.o_7 P, hd.o_8 P, hd.o_9 P, hd.o_10 P, hd.o_11 P, hd.o_12 P, hd.o_13 P, hd.o_14 P, hd.o_15 P, hd.o_16 P, hd.o_17 P, hd.o_18 P, hd.o_19 P, hd.o_20 P, hd.o_21 P, hd.o_22 P, hd.o_23 P, hd.o_24 P, hd.o_25 P, hd.o_26 P, hd.o_27 P, hd.o_28 P], {}⟩
noncomputable def saH (P : Params) : Heap := ⟨#[hd.o_1 P, hd.o_2 P, hd.o_3 P, hd.o_4 P, hd.o_5 P, hd.o_6 P, hd.o_7 P, hd.o_8 P, hd.o_9 P, hd.o_10 P, hd.o_11 P, hd.o_12 P, hd.o_13 P, hd.o_14 P, hd.o_15 P, hd.o_16 P, hd.o_17 P, hd.o_18 P, hd.o_19 P, hd.o_20 P, hd.o_21 P, hd.o_22 P, hd.o_23 P, hd.o_24 P, hd.o_25 P, hd.o_26 P, hd.o_27 P, hd.o_28 P, hd.o_29 P, hd.o_30 P, hd.o_31 P, hd.o_32 P], {}⟩
noncomputable def t10 (P : Params) : BT := (.node (hd.o_1 P) (.node (hd.o_2 P) (.node (c9_3 P) (.node (hd.o_8 P) (.node (hd.o_16 P) (.node (hd.o_32 P) (.node (o63 P) .nil .nil) .nil) (.node (hd.o_50 P) .nil .nil)) (.node (hd.o_24 P) (.node (hd.o_42 P) .nil .nil) (.node (hd.o_58 P) .nil .nil))) (.node (hd.o_12 P) (.node (hd.o_20 P) (.node (hd.o_38 P) .nil .nil) (.node (hd.o_54 P) .nil .nil)) (.node (hd.o_28 P) (.node (hd.o_46 P) .nil .nil) (.node (o59 P) .nil .nil)))) (.node (hd.o_6 P) (.node (hd.o_10 P) (.node (hd.o_18 P) (.node (hd.o_36 P) (.node (o65 P) .nil .nil) .nil) (.node (hd.o_52 P) .nil .nil)) (.node (hd.o_26 P) (.node (hd.o_44 P) .nil .nil) (.node (o57 P) .nil .nil))) (.node (hd.o_14 P) (.node (hd.o_22 P) (.node (hd.o_40 P) .nil .nil) (.node (hd.o_56 P) .nil .nil)) (.node (hd.o_34 P) (.node (hd.o_48 P) .nil .nil) (.node (o61 P) .nil .nil))))) (.node (hd.o_3 P) (.node (hd.o_5 P) (.node (hd.o_9 P) (.node (hd.o_17 P) (.node (hd.o_35 P) (.node (o64 P) .nil .nil) .nil) (.node (hd.o_51 P) .nil .nil)) (.node (hd.o_25 P) (.node (hd.o_43 P) .nil .nil) (.node (o56 P) .nil .nil))) (.node (hd.o_13 P) (.node (hd.o_21 P) (.node (hd.o_39 P) .nil .nil) (.node (hd.o_55 P) .nil .nil)) (.node (hd.o_29 P) (.node (hd.o_47 P) .nil .nil) (.node (o60 P) .nil .nil)))) (.node (hd.o_7 P) (.node (hd.o_11 P) (.node (hd.o_19 P) (.node (hd.o_37 P) (.node (o66 P) .nil .nil) .nil) (.node (hd.o_53 P) .nil .nil)) (.node (hd.o_27 P) (.node (hd.o_45 P) .nil .nil) (.node (o58 P) .nil .nil))) (.node (hd.o_15 P) (.node (hd.o_23 P) (.node (hd.o_41 P) .nil .nil) (.node (hd.o_57 P) .nil .nil)) (.node (hd.o_31 P) (.node (hd.o_49 P) .nil .nil) (.node (o62 P) .nil .nil))))))
noncomputable def t11 (P : Params) : BT := (.node (hd.o_1 P) (.node (hd.o_2 P) (.node (c10_3 P) (.node (hd.o_8 P) (.node (hd.o_16 P) (.node (hd.o_32 P) (.node (o63 P) .nil .nil) .nil) (.node (hd.o_50 P) .nil .nil)) (.node (hd.o_24 P) (.node (hd.o_42 P) (.node (o71 P) .nil .nil) .nil) (.node (hd.o_58 P) .nil .nil))) (.node (hd.o_12 P) (.node (hd.o_20 P) (.node (hd.o_38 P) (.node (o67 P) .nil .nil) .nil) (.node (hd.o_54 P) .nil .nil)) (.node (hd.o_28 P) (.node (hd.o_46 P) .nil .nil) (.node (o59 P) .nil .nil)))) (.node (hd.o_6 P) (.node (hd.o_10 P) (.node (hd.o_18 P) (.node (hd.o_36 P) (.node (o65 P) .nil .nil) .nil) (.node (hd.o_52 P) .nil .nil)) (.node (hd.o_26 P) (.node (hd.o_44 P) (.node (o73 P) .nil .nil) .nil) (.node (o57 P) .nil .nil))) (.node (hd.o_14 P) (.node (hd.o_22 P) (.node (hd.o_40 P) (.node (o69 P) .nil .nil) .nil) (.node (hd.o_56 P) .nil .nil)) (.node (c10_29 P) (.node (hd.o_48 P) .nil .nil) (.node (o61 P) .nil .nil))))) (.node (hd.o_3 P) (.node (hd.o_5 P) (.node (hd.o_9 P) (.node (hd.o_17 P) (.node (hd.o_35 P) (.node (o64 P) .nil .nil) .nil) (.node (hd.o_51 P) .nil .nil)) (.node (hd.o_25 P) (.node (hd.o_43 P) (.node (o72 P) .nil .nil) .nil) (.node (o56 P) .nil .nil))) (.node (hd.o_13 P) (.node (hd.o_21 P) (.node (hd.o_39 P) (.node (o68 P) .nil .nil) .nil) (.node (hd.o_55 P) .nil .nil)) (.node (hd.o_29 P) (.node (hd.o_47 P) .nil .nil) (.node (o60 P) .nil .nil)))) (.node (hd.o_7 P) (.node (hd.o_11 P) (.node (hd.o_19 P) (.node (hd.o_37 P) (.node (o66 P) .nil .nil) .nil) (.node (hd.o_53 P) .nil .nil)) (.node (hd.o_27 P) (.node (hd.o_45 P) .nil .nil) (.node (o58 P) .nil .nil))) (.node (hd.o_15 P) (.node (hd.o_23 P) (.node (hd.o_41 P) (.node (o70 P) .nil .nil) .nil) (.node (hd.o_57 P) .nil .nil)) (.node (hd.o_31 P) (.node (hd.o_49 P) .nil .nil) (.node (o62 P) .nil .nil))))))
noncomputable def t12 (P : Params) : BT := (.node (hd.o_1 P) (.node (hd.o_2 P) (.node (c11_3 P) (.node (hd.o_8 P) (.node (hd.o_16 P) (.node (hd.o_32 P) (.node (o63 P) .nil .nil) (.node (b3o95 P) .nil .nil)) (.node (hd.o_50 P) (.node (b3o79 P) .nil .nil) (.node (b3o111 P) .nil .nil))) (.node (hd.o_24 P) (.node (hd.o_42 P) (.node (o71 P) .nil .nil) (.node (b3o103 P) .nil .nil)) (.node (hd.o_58 P) (.node (b3o87 P) .nil .nil) .nil))) (.node (hd.o_12 P) (.node (hd.o_20 P) (.node (hd.o_38 P) (.node (o67 P) .nil .nil) (.node (b3o99 P) .nil .nil)) (.node (hd.o_54 P) (.node (b3o83 P) .nil .nil) .nil)) (.node (hd.o_28 P) (.node (hd.o_46 P) (.node (b3o75 P) .nil .nil) (.node (b3o107 P) .nil .nil)) (.node (o59 P) (.node (b3o91 P) .nil .nil) .nil)))) (.node (hd.o_6 P) (.node (hd.o_10 P) (.node (hd.o_18 P) (.node (hd.o_36 P) (.node (o65 P) .nil .nil) (.node (b3o97 P) .nil .nil)) (.node (hd.o_52 P) (.node (b3o81 P) .nil .nil) .nil)) (.node (hd.o_26 P) (.node (hd.o_44 P) (.node (o73 P) .nil .nil) (.node (b3o105 P) .nil .nil)) (.node (o57 P) (.node (b3o89 P) .nil .nil) .nil))) (.node (hd.o_14 P) (.node (hd.o_22 P) (.node (hd.o_40 P) (.node (o69 P) .nil .nil) (.node (b3o101 P) .nil .nil)) (.node (hd.o_56 P) (.node (b3o85 P) .nil .nil) .nil)) (.node (c10_29 P) (.node (hd.o_48 P) (.node (b3o77 P) .nil .nil) (.node (b3o109 P) .nil .nil)) (.node (o61 P) (.node (b3o93 P) .nil .nil) .nil))))) (.node (hd.o_3 P) (.node (hd.o_5 P) (.node (hd.o_9 P) (.node (hd.o_17 P) (.node (hd.o_35 P) (.node (o64 P) .nil .nil) (.node (b3o96 P) .nil .nil)) (.node (hd.o_51 P) (.node (b3o80 P) .nil .nil) (.node (b3o112 P) .nil .nil))) (.node (hd.o_25 P) (.node (hd.o_43 P) (.node (o72 P) .nil .nil) (.node (b3o104 P) .nil .nil)) (.node (o56 P) (.node (b3o88 P) .nil .nil) .nil))) (.node (hd.o_13 P) (.node (hd.o_21 P) (.node (hd.o_39 P) (.node (o68 P) .nil .nil) (.node (b3o100 P) .nil .nil)) (.node (hd.o_55 P) (.node (b3o84 P) .nil .nil) .nil)) (.node (hd.o_29 P) (.node (hd.o_47 P) (.node (b3o76 P) .nil .nil) (.node (b3o108 P) .nil .nil)) (.node (o60 P) (.node (b3o92 P) .nil .nil) .nil)))) (.node (hd.o_7 P) (.node (hd.o_11 P) (.node (hd.o_19 P) (.node (hd.o_37 P) (.node (o66 P) .nil .nil) (.node (b3o98 P) .nil .nil)) (.node (hd.o_53 P) (.node (b3o82 P) .nil .nil) .nil)) (.node (hd.o_27 P) (.node (hd.o_45 P) (.node (b3o74 P) .nil .nil) (.node (b3o106 P) .nil .nil)) (.node (o58 P) (.node (b3o90 P) .nil .nil) .nil))) (.node (hd.o_15 P) (.node (hd.o_23 P) (.node (hd.o_41 P) (.node (o70 P) .nil .nil) (.node (b3o102 P) .nil .nil)) (.node (hd.o_57 P) (.node (b3o86 P) .nil .nil) .nil)) (.node (hd.o_31 P) (.node (hd.o_49 P) (.node (b3o78 P) .nil .nil) (.node (b3o110 P) .nil .nil)) (.node (o62 P) (.node (b3o94 P) .nil .nil) .nil))))))
noncomputable def t19 (P : Params) : BT := (.node (hd.o_1 P) (.node (hd.o_2 P) (.node (c18_3 P) (.node (hd.o_8 P) (.node (hd.o_16 P) (.node (hd.o_32 P) (.node (o63 P) (.node (o127 P) .nil .nil) .nil) (.node (b3o95 P) .nil .nil)) (.node (hd.o_50 P) (.node (b3o79 P) (.node (o143 P) .nil .nil) .nil) (.node (b3o111 P) .nil .nil))) (.node (hd.o_24 P) (.node (hd.o_42 P) (.node (o71 P) (.node (o135 P) .nil .nil) .nil) (.node (b3o103 P) .nil .nil)) (.node (hd.o_58 P) (.node (b3o87 P) .nil .nil) (.node (o119 P) .nil .nil)))) (.node (hd.o_12 P) (.node (hd.o_20 P) (.node (hd.o_38 P) (.node (o67 P) (.node (o131 P) .nil .nil) .nil) (.node (b3o99 P) .nil .nil)) (.node (hd.o_54 P) (.node (b3o83 P) (.node (o147 P) .nil .nil) .nil) (.node (o115 P) .nil .nil))) (.node (hd.o_28 P) (.node (hd.o_46 P) (.node (b3o75 P) (.node (o139 P) .nil .nil) .nil) (.node (b3o107 P) .nil .nil)) (.node (o59 P) (.node (b3o91 P) .nil .nil) (.node (o123 P) .nil .nil))))) (.node (hd.o_6 P) (.node (hd.o_10 P) (.node (hd.o_18 P) (.node (hd.o_36 P) (.node (o65 P) (.node (o129 P) .nil .nil) .nil) (.node (b3o97 P) .nil .nil)) (.node (hd.o_52 P) (.node (b3o81 P) (.node (o145 P) .nil .nil) .nil) (.node (o113 P) .nil .nil))) (.node (hd.o_26 P) (.node (hd.o_44 P) (.node (o73 P) (.node (o137 P) .nil .nil) .nil) (.node (b3o105 P) .nil .nil)) (.node (o57 P) (.node (b3o89 P) .nil .nil) (.node (o121 P) .nil .nil)))) (.node (hd.o_14 P) (.node (hd.o_22 P) (.node (hd.o_40 P) (.node (o69 P) (.node (o133 P) .nil .nil) .nil) (.node (b3o101 P) .nil .nil)) (.node (hd.o_56 P) (.node (b3o85 P) (.node (o149 P) .nil .nil) .nil) (.node (o117 P) .nil .nil))) (.node (c18_29 P) (.node (hd.o_48 P) (.node (b3o77 P) (.node (o141 P) .nil .nil) .nil) (.node (b3o109 P) .nil .nil)) (.node (o61 P) (.node (b3o93 P) .nil .nil) (.node (o125 P) .nil .nil)))))) (.node (hd.o_3 P) (.node (hd.o_5 P) (.node (hd.o_9 P) (.node (hd.o_17 P) (.node (hd.o_35 P) (.node (o64 P) (.node (o128 P) .nil .nil) .nil) (.node (b3o96 P) .nil .nil)) (.node (hd.o_51 P) (.node (b3o80 P) (.node (o144 P) .nil .nil) .nil) (.node (b3o112 P) .nil .nil))) (.node (hd.o_25 P) (.node (hd.o_43 P) (.node (o72 P) (.node (o136 P) .nil .nil) .nil) (.node (b3o104 P) .nil .nil)) (.node (o56 P) (.node (b3o88 P) .nil .nil) (.node (o120 P) .nil .nil)))) (.node (hd.o_13 P) (.node (hd.o_21 P) (.node (hd.o_39 P) (.node (o68 P) (.node (o132 P) .nil .nil) .nil) (.node (b3o100 P) .nil .nil)) (.node (hd.o_55 P) (.node (b3o84 P) (.node (o148 P) .nil .nil) .nil) (.node (o116 P) .nil .nil))) (.node (hd.o_29 P) (.node (hd.o_47 P) (.node (b3o76 P) (.node (o140 P) .nil .nil) .nil) (.node (b3o108 P) .nil .nil)) (.node (o60 P) (.node (b3o92 P) .nil .nil) (.node (o124 P) .nil .nil))))) (.node (hd.o_7 P) (.node (hd.o_11 P) (.node (hd.o_19 P) (.node (hd.o_37 P) (.node (o66 P) (.node (o130 P) .nil .nil) .nil) (.node (b3o98 P) .nil .nil)) (.node (hd.o_53 P) (.node (b3o82 P) (.node (o146 P) .nil .nil) .nil) (.node (o114 P) .nil .nil))) (.node (hd.o_27 P) (.node (hd.o_45 P) (.node (b3o74 P) (.node (o138 P) .nil .nil) .nil) (.node (b3o106 P) .nil .nil)) (.node (o58 P) (.node (b3o90 P) .nil .nil) (.node (o122 P) .nil .nil)))) (.node (hd.o_15 P) (.node (hd.o_23 P) (.node (hd.o_41 P) (.node (o70 P) (.node (o134 P) .nil .nil) .nil) (.node (b3o102 P) .nil .nil)) (.node (hd.o_57 P) (.node (b3o86 P) (.node (o150 P) .nil .nil) .nil) (.node (o118 P) .nil .nil))) (.node (hd.o_31 P) (.node (hd.o_49 P) (.node (b3o78 P) (.node (o142 P) .nil .nil) .nil) (.node (b3o110 P) .nil .nil)) (.node (o62 P) (.node (b3o94 P) .nil .nil) (.node (o126 P) .nil .nil)))))))
noncomputable def sT (t : Params → BT) (n tk : Nat) (w : World) (os : OsState) : SharedT := { tree := t w.params, n := n, life := {}, gens := #[], drawn := {}, toks := tk, os := os }
noncomputable def pos8 : Pos := ⟨22, 0, 22, 8⟩
noncomputable def pos9 : Pos := ⟨23, 0, 23, 6⟩
noncomputable def pos10 : Pos := ⟨24, 0, 25, 30⟩
noncomputable def pos11 : Pos := ⟨26, 0, 26, 13⟩
noncomputable def pos18 : Pos := ⟨69, 0, 95, 53⟩
noncomputable def st9 : List Stmt := (prog.main.body.drop 10).take 1
noncomputable def st10 : List Stmt := (prog.main.body.drop 11).take 1
noncomputable def st12 : List Stmt := prog.main.body.drop 13
noncomputable abbrev B0 : List Frame := [topFrame ⟨0, 0, 0, 0⟩]

theorem hd.p8 (w : World) : (fun (p : Program) (b : List Stmt) (os : OsState) => segRunT treeTable p w 28 (some (.ref 6)) 1 250 { tree := hd.tree_32 w.params, n := 32, life := {}, gens := #[], drawn := {}, toks := 282, os := os } (piecesOf hd.sts_32 hd.env_1 (.body b hd.env_1) ⟨0, 0, 0, 0⟩ B0)) =
    fun _ b os => some (.next, { tree := hd.tree_58 w.params, n := 56, life := {}, gens := #[], drawn := {}, toks := 366, os := os }, .body b hd.env_1, pos8) := by
  rw [PySem.W.Fast.te10110043849684766642, PySem.W.Fast.te14364793385576792824]
  kernel_rfl!
theorem hd.chain (p : Program) (b : List Stmt) (w : World) (os : OsState) (rest : List Stmt) (N : Nat) (r : Shared) (h : topRun treeTable p w 28 (some (.ref 6)) N ({ tree := hd.tree_58 w.params, n := 56, life := {}, gens := #[], drawn := {}, toks := 366, os := os } : SharedT).abs (restOf rest hd.env_1 (.body b hd.env_1) pos8 B0) = some r) :
    topRun treeTable p w 28 (some (.ref 6)) (Nat.add 250 N) ({ tree := hd.tree_32 w.params, n := 32, life := {}, gens := #[], drawn := {}, toks := 282, os := os } : SharedT).abs (restOf (hd.sts_32 ++ rest) hd.env_1 (.body b hd.env_1) ⟨0, 0, 0, 0⟩ B0) = some r :=
  piece_app (segRun_of (congrFun (congrFun (congrFun (hd.p8 w) p) b) os)) h
theorem imp_run (w : World) : importEnds treeTable (opening prog) w 820 (start (opening prog)).1 (start (opening prog)).2 = some ⟨heH w.params, #[], {}, 276, (start (opening prog)).1.os⟩ := by
  rw [PySem.W.Fast.te10274390034422433532, PySem.W.Fast.te14364793385576792824]
  kernel_rfl!
theorem fence_run (w : World) : (fun os => (fenceModules? prog ⟨heH w.params, #[], {}, 276, os⟩).map (fun s => (s.heap, s.gens, s.drawn, s.toks))) = fun _ => some (s0H w.params, #[], {}, 276) := by
  rw [PySem.W.Fast.te14289696077712309145]
  kernel_rfl!
theorem pre_run (w : World) (os : OsState) : topGo treeTable prog w 28 (some (.ref 6)) 12 ⟨s0H w.params, #[], {}, 276, os⟩ (topStub prog) = some (⟨saH w.params, #[], {}, 282, os⟩, ⟨denote treeTable (.body (behindTheImports prog) hd.env_1), .body (behindTheImports prog) hd.env_1, ⟨0, 0, 0, 0⟩, B0⟩) := by
  kernel_rfl!
theorem block_run (w : World) (os : OsState) : segRun treeTable prog w 28 (some (.ref 6)) 1 1 ⟨saH w.params, #[], {}, 282, os⟩ (blockOf (behindTheImports prog) hd.env_1 (.body (behindTheImports prog) hd.env_1) ⟨0, 0, 0, 0⟩ B0) =
    some (.next, ({ tree := hd.tree_32 w.params, n := 32, life := {}, gens := #[], drawn := {}, toks := 282, os := os } : SharedT).abs, .body (behindTheImports prog) hd.env_1, ⟨0, 0, 0, 0⟩) := by
  kernel_rfl!
noncomputable def P9 (w : World) : Prop := (fun (p : Program) (b : List Stmt) (os : OsState) => segRunT treeTable p w 28 (some (.ref 6)) 1 999 { tree := hd.tree_58 w.params, n := 56, life := {}, gens := #[], drawn := {}, toks := 366, os := os } (piecesOf st9 hd.env_1 (.body b hd.env_1) pos8 B0)) =
    fun _ b os => some (.next, sT t10 67 426 w os, .body b hd.env_1, pos9)
theorem p9f (w : World) : P9 (w.withFollow "special-get-raises" false) := by
  unfold P9
  rw [PySem.W.Fast.te10110043849684766642, PySem.W.Fast.te14364793385576792824]
  kernel_rfl!
theorem p9t (w : World) : P9 (w.withFollow "special-get-raises" true) := by
  unfold P9
  rw [PySem.W.Fast.te10110043849684766642, PySem.W.Fast.te14364793385576792824]
  kernel_rfl!
theorem p9 (w : World) : P9 w := byRow2 "special-get-raises" p9f p9t w
theorem p10 (w : World) : (fun (p : Program) (b : List Stmt) (os : OsState) => segRunT treeTable p w 28 (some (.ref 6)) 1 30 (sT t10 67 426 w os) (piecesOf st10 hd.env_1 (.body b hd.env_1) pos9 B0)) =
    fun _ b os => some (.next, sT t11 74 433 w os, .body b hd.env_1, pos10) := by
  rw [PySem.W.Fast.te10110043849684766642, PySem.W.Fast.te14364793385576792824]
  kernel_rfl!
theorem p12 (w : World) : (fun (p : Program) (b : List Stmt) (os : OsState) => segRunT treeTable p w 28 (some (.ref 6)) 1 192 (sT t12 113 2384 w os) (piecesOf st12 hd.env_1 (.body b hd.env_1) pos11 B0)) =
    fun _ b os => some (.next, sT t19 151 2440 w os, .body b hd.env_1, pos18) := by
  rw [PySem.W.Fast.te10110043849684766642, PySem.W.Fast.te14364793385576792824]
  kernel_rfl!

end Mine
end partHead02a

section partHead02b
open PySem PySem.W PyProof.Rows
set_option maxRecDepth 100000
namespace Mine

theorem cOf_of {e : PySem.Expr} {c : PySem.Const} (h : cOf e = some c) : ∃ n p, e = .Constant c n p := by
  cases e
  case Constant c n p => cases h; exact ⟨n, p, rfl⟩
  all_goals cases h
theorem iC_of {k : Option PySem.Expr} (h : (iC (k.bind cOf)).isSome = true) : ∃ i n p, k = some (.Constant (.int i) n p) := by
  cases k with
  | none => cases h
  | some e =>
    have h2 : (iC (cOf e)).isSome = true := h
    cases e' : cOf e with
    | none => rw [e'] at h2; cases h2
    | some c =>
      rw [e'] at h2
      obtain ⟨n, p, rfl⟩ := cOf_of e'
      cases c
      case int i => exact ⟨i, n, p, rfl⟩
      all_goals cases h2
theorem sC_of {e : PySem.Expr} (h2 : (sC (cOf e)).isSome = true) : ∃ i n p, e = .Constant (.str i) n p := by
  cases e' : cOf e with
  | none => rw [e'] at h2; cases h2
  | some c =>
    rw [e'] at h2
    obtain ⟨n, p, rfl⟩ := cOf_of e'
    cases c
    case str i => exact ⟨i, n, p, rfl⟩
    all_goals cases h2
theorem items_eq (env : Env) (pos : Pos) : ∀ (ks : List (Option PySem.Expr)) (vs : List PySem.Expr), okKV ks vs = true →
    (evalEachOpt ks env).zip ((evalEach vs env).map fun v => do let x ← v; standAt pos; pure x) = (psOf ks vs).map (itT pos)
  | [], [], _ => rfl
  | [], _ :: _, h => Bool.noConfusion (show false = true from h)
  | _ :: _, [], h => Bool.noConfusion (show false = true from h)
  | k :: ks, v :: vs, h => by
    have h1 := Bool.and_eq_true_iff.mp h
    have h2 := Bool.and_eq_true_iff.mp h1.2
    obtain ⟨i, n, p, rfl⟩ := iC_of h1.1
    obtain ⟨s, _, _, rfl⟩ := sC_of h2.1
    have ih := items_eq env pos ks vs h2.2
    show (some (eval (.Constant (.int i) n p) env), _) :: _ = (some (kT i), vT pos s) :: _
    exact congrArg _ ih
/-- rising, from nought to a bound -/
noncomputable def risesFrom : Int → List (Int × Str) → Bool
  | _, [] => true
  | a, (k, _) :: r => decide (a < k) && decide (k < 1048576) && risesFrom k r
theorem rises_all : ∀ (ps : List (Int × Str)) (a : Int), risesFrom a ps = true → ∀ x ∈ ps, a < x.1 ∧ x.1 < 1048576
  | [], _, _, x, h => by cases h
  | (k, v) :: r, a, h, x, hx => by
    simp only [risesFrom, Bool.and_eq_true, decide_eq_true_eq] at h
    rcases List.mem_cons.mp hx with rfl | hx
    · exact ⟨h.1.1, h.1.2⟩
    · have := rises_all r k h.2 x hx
      exact ⟨Int.lt_trans h.1.1 this.1, this.2⟩
theorem hash_small (k : Int) (h0 : -1 < k) (h1 : k < 1048576) : hashInt k = k := by
  obtain ⟨n, rfl⟩ := Int.eq_ofNat_of_zero_le (show (0 : Int) ≤ k by omega)
  have e : rawHash (n : Int) = n := by
    have hn : n < 1048576 := by omega
    simp only [rawHash]
    have hm : (n : Int) % ((2 ^ 61 - 1 : Nat) : Int) = n := by
      rw [← Int.natCast_emod, Nat.mod_eq_of_lt (by omega)]
    have hn0 : ¬ (n : Int) < 0 := by omega
    rw [Int.natAbs_natCast, hm, if_neg hn0, if_neg (by rw [beq_iff_eq]; omega)]
  unfold hashInt
  rw [e, if_neg (by rw [beq_iff_eq]; omega)]
theorem rises_pair : ∀ (ps : List (Int × Str)) (a : Int), -1 ≤ a → risesFrom a ps = true → (ps.map fun x => hashInt x.1).Pairwise (· ≠ ·)
  | [], _, _, _ => List.Pairwise.nil
  | (k, v) :: r, a, ha, h => by
    simp only [risesFrom, Bool.and_eq_true, decide_eq_true_eq] at h
    refine List.pairwise_cons.mpr ⟨fun y hy => ?_, rises_pair r k (by omega) h.2⟩
    obtain ⟨x, hx, rfl⟩ := List.mem_map.mp hy
    have := rises_all r k h.2 x hx
    show hashInt k ≠ hashInt x.1
    rw [hash_small k (by omega) h.1.2, hash_small x.1 (by omega) this.2]
    omega
theorem b3_rises : risesFrom (-1) b3P = true := by kernel_rfl!
theorem b3_split : b3c0 ++ b3cs.flatten ++ b3last = b3P := by kernel_rfl!
theorem b3_ok : okKV (b3K b3St) (b3V b3St) = true := by kernel_rfl!
theorem b3_lens : (decide (b3c0.length = 17) && b3cs.all (fun c => decide (c.length = 17)) && decide (b3last.length = 4) && decide (b3P.length = 650)) = true := by kernel_rfl!
theorem b3_toks : 433 + toksOf (b3c0 :: b3cs) + 3 * b3last.length = 2383 := by kernel_rfl!
theorem b3_cslen : b3cs.length = 37 := by simp [b3cs]
noncomputable def b3N : Stmt → PySem.Expr
  | .Assign [n] _ _ => n
  | _ => .Constant .none 0 ⟨0, 0, 0, 0⟩
noncomputable def b3D : Stmt → Pos
  | .Assign _ (.Dict _ _ p) _ => p
  | _ => ⟨0, 0, 0, 0⟩
noncomputable def b3Q : Stmt → Pos
  | .Assign _ _ p => p
  | _ => ⟨0, 0, 0, 0⟩
theorem b3_shape : b3St = .Assign [b3N b3St] (.Dict (b3K b3St) (b3V b3St) (b3D b3St)) (b3Q b3St) := by kernel_rfl!
noncomputable def b3Tail (v : Value) : Sem Flow := assignStores hd.env_1 v none [assign (b3N b3St) hd.env_1]
theorem b3_exec : exec b3St hd.env_1 = ((standAt (b3Q b3St) >>= fun _ => standAt (b3D b3St) >>= fun _ => dictDisplay (b3P.map (itT (b3D b3St)))) >>= b3Tail) := by
  have e := items_eq hd.env_1 (b3D b3St) (b3K b3St) (b3V b3St) b3_ok
  rw [show b3P = psOf (b3K b3St) (b3V b3St) from rfl, ← e]
  generalize hk : b3K b3St = ks
  generalize hv : b3V b3St = vs
  rw [b3_shape, hk, hv]
  obtain ⟨id, q, hn⟩ : ∃ id q, b3N b3St = .Name id q := ⟨_, _, rfl⟩
  generalize b3D b3St = dp
  generalize b3Q b3St = qp
  show exec (.Assign [b3N b3St] (.Dict ks vs dp) qp) hd.env_1 = _
  unfold b3Tail
  rw [hn]
  rfl
theorem b3_tail (w : World) (os : OsState) (p' : Pos) (p : Program) (b rest : List Stmt) : topGo treeTable p w 28 (some (.ref 6)) 7
    ⟨hp ((t11 w.params).list 74 ++ dO b3E :: b3S), #[], {}, 2383, os⟩
    ⟨(b3Tail (.ref 74)).wrap (fun f => match f with | .next => (execs rest hd.env_1).wrap doneF (leaveH hd.env_1) id id | f => doneF f) (leaveH hd.env_1) id id, .body b hd.env_1, p', B0⟩ =
    some ((sT t12 113 2384 w os).abs, restOf rest hd.env_1 (.body b hd.env_1) pos11 B0) := by
  kernel_rfl!
theorem t_len (t : BT) (n : Nat) : (t.list n).length = n := by simp [BT.list]
theorem b3_goes (w : World) (os : OsState) (p : Program) (b rest : List Stmt) : ∃ n, n ≤ 22000 ∧
    Goes p w 28 (some (.ref 6)) n (sT t11 74 433 w os).abs (restOf (b3St :: rest) hd.env_1 (.body b hd.env_1) pos10 B0) (sT t12 113 2384 w os).abs (restOf rest hd.env_1 (.body b hd.env_1) pos11 B0) := by
  have hl := b3_lens
  simp only [Bool.and_eq_true, decide_eq_true_eq, List.all_eq_true] at hl
  obtain ⟨⟨⟨h0, h1⟩, h2⟩, h3⟩ := hl
  obtain ⟨p', n, hn, h⟩ := ev_display (n₀ := 28) (S := ⟨p, w.params⟩) (l := (t11 w.params).list 74) (gens := #[]) (drawn := {}) (os := os) (b3D b3St) b3c0 b3cs b3last (by rw [t_len]; decide) (by rw [t_len]; decide) 433 (b3D b3St)
    h0 h1 ⟨(by intro e; rw [e] at h2; cases h2), (by omega)⟩ (by rw [b3_split]; omega) (by rw [b3_split]; exact rises_pair _ _ (by decide) b3_rises)
  rw [b3_split, b3_toks, t_len] at h
  have h' : ev orcHash 28 ⟨p, w.params⟩ (standAt (b3Q b3St) >>= fun _ => standAt (b3D b3St) >>= fun _ => dictDisplay (b3P.map (itT (b3D b3St)))) pos10 (sT t11 74 433 w os).abs =
      some (.ref 74, p', ⟨hp ((t11 w.params).list 74 ++ dO b3E :: b3S), #[], {}, 2383, os⟩, n + 2) := by
    refine ev_bindN (n := 1) (k := n + 1) (a := ()) (p' := b3Q b3St) (s' := (sT t11 74 433 w os).abs) rfl ?_
    exact ev_bindN (n := 1) (k := n) (a := ()) (p' := b3D b3St) (s' := (sT t11 74 433 w os).abs) rfl h
  have g := ev_goes (w := w) (ann := some (.ref 6)) orcHash_ok (fun v => (b3Tail v).wrap (fun f => match f with | .next => (execs rest hd.env_1).wrap doneF (leaveH hd.env_1) id id | f => doneF f) (leaveH hd.env_1) id id) (leaveH hd.env_1) id id (.body b hd.env_1) B0 _ h'
  have t := b3_tail w os p' p b rest
  refine ⟨n + 2 + 7, by rw [b3_cslen] at hn; omega, ?_⟩
  have e : restOf (b3St :: rest) hd.env_1 (.body b hd.env_1) pos10 B0 = ⟨(standAt (b3Q b3St) >>= fun _ => standAt (b3D b3St) >>= fun _ => dictDisplay (b3P.map (itT (b3D b3St)))).wrap (fun v => (b3Tail v).wrap (fun f => match f with | .next => (execs rest hd.env_1).wrap doneF (leaveH hd.env_1) id id | f => doneF f) (leaveH hd.env_1) id id) (leaveH hd.env_1) id id, .body b hd.env_1, pos10, B0⟩ := by
    unfold restOf
    rw [execs_cons_wrap, b3_exec, Sem.bind_eq_wrap', Sem.wrap_wrap]
    rfl
  rw [e]
  exact g.trans ⟨fun N r hr => go_top t hr⟩
end Mine
end partHead02b

section partHead02c
open PySem PySem.W PyProof.Rows
set_option maxRecDepth 100000
namespace Mine

theorem body_split : behindTheImports prog = hd.sts_32 ++ (st9 ++ (st10 ++ (b3St :: (st12 ++ [])))) := by kernel_rfl!
theorem top_run (w : World) (os : OsState) : topRun treeTable prog w 28 (some (.ref 6)) 23486 ⟨s0H w.params, #[], {}, 276, os⟩ (topStub prog) = some ⟨absHeap (t19 w.params) 151 {}, #[], {}, 2440, os⟩ := by
  have fin : topRun treeTable prog w 28 (some (.ref 6)) 2 (sT t19 151 2440 w os).abs ⟨doneF .next, .body (behindTheImports prog) hd.env_1, pos18, B0⟩ = some (sT t19 151 2440 w os).abs := by kernel_rfl!
  have k12 := piece_app (q := ⟨0, 0, 0, 0⟩) (rest := []) (segRun_of (congrFun (congrFun (congrFun (p12 w) prog) (behindTheImports prog)) os)) (piece_nil fin)
  obtain ⟨n, hn, g⟩ := b3_goes w os prog (behindTheImports prog) (st12 ++ [])
  have k11 := g.go _ _ k12
  have k10 := piece_app (q := ⟨0, 0, 0, 0⟩) (rest := b3St :: (st12 ++ [])) (segRun_of (congrFun (congrFun (congrFun (p10 w) prog) (behindTheImports prog)) os)) k11
  have h9 := p9 w
  unfold P9 at h9
  have k9 := piece_app (q := ⟨0, 0, 0, 0⟩) (rest := st10 ++ (b3St :: (st12 ++ []))) (segRun_of (congrFun (congrFun (congrFun h9 prog) (behindTheImports prog)) os)) k10
  have k8 := hd.chain prog (behindTheImports prog) w os _ _ _ k9
  rw [← body_split] at k8
  have kb := piece_block (q := ⟨0, 0, 0, 0⟩) (block_run w os) k8
  have kp := go_top (pre_run w os) kb
  have km := topRun_mono (22000 - n) _ _ _ _ kp
  have e : 12 + (1 + Nat.add 250 (999 + (30 + (n + (192 + 2))))) + (22000 - n) = 23486 := by
    show 12 + (1 + (250 + (999 + (30 + (n + (192 + 2)))))) + (22000 - n) = _
    omega
  rw [e] at km
  exact km

noncomputable def viewQ : Program := { prog with main := { prog.main with body := ([0, 1, 4, 5, 6, 7, 8, 9, 11, 13, 14, 15, 16, 17, 18, 19] : List Nat).filterMap fun i => prog.main.body[i]? } }
noncomputable def looseL : List Str := [Str.ofString "_twin_re_1", Str.ofString "_twin_re_2", Str.ofString "b1_set", Str.ofString "b3_exceptions"]
noncomputable def Yf (s : Shared) : List (Option Obj) := ([3, 36, 35, 41, 40, 63, 74] : List Nat).map s.heap.get?
noncomputable def Ya (w : World) : List (Option Obj) := [some (c18_3 w.params), some (hd.o_39 w.params), some (hd.o_38 w.params), some (hd.o_44 w.params), some (hd.o_43 w.params), some (o63 w.params), some (b3o74 w.params)]
noncomputable abbrev lawRow : OpenRow := PySem.Challenge.rw_st0016_02.row
noncomputable def Xt (s : Shared) : Bool := xlAt viewQ [] s && recOk (RowW.records lawRow.toRowW) s
noncomputable def H1 (P : Params) : Heap := absHeap (t19 P) 151 {}
noncomputable abbrev mods : List Str := importedModules prog.main.body
theorem look0 (w : World) (os : OsState) : (staticsOk mods (s0H w.params) (H1 w.params) && namesBound prog (H1 w.params) && gensDone ⟨H1 w.params, #[], {}, 2440, os⟩ && laidKept (s0H w.params) (H1 w.params)) = true := by
  kernel_rfl!
theorem look1 (w : World) (os : OsState) : openSeen viewQ looseL mods Xt true ⟨H1 w.params, #[], {}, 2440, os⟩ = openGood viewQ looseL := by
  rw [PySem.W.Fast.te4187177175401517315]
  kernel_rfl!
theorem look2 (w : World) (os : OsState) : Yf ⟨H1 w.params, #[], {}, 2440, os⟩ = Ya w := by
  kernel_rfl!
theorem size_ok (w : World) : ((s0H w.params).isNs mainGlobals && (#[] : Array GenState).size == 0, (s0H w.params).objs.size, (s0H w.params).nsMap mainGlobals "__annotations__") = (true, 28, some (.ref 6)) := by
  kernel_rfl!
theorem left : LeftO prog viewQ looseL Xt Yf Ya 30000 :=
  LeftO.of_pieces (open_cut imp_run rfl fence_run) size_ok top_run rfl fun w => by
    funext os
    rw [look0 w os, look1 w os, look2 w os]
end Mine
end partHead02c

section partW1
open PySem PySem.W PyProof.Rows
set_option maxRecDepth 100000
set_option linter.unusedVariables false
namespace Mine

noncomputable def Kp (s s' : Shared) : Prop := PySem.Keeps s s'

noncomputable def strOf (l : List Nat) : Str := ⟨l.toArray⟩
theorem strOf_len (l : List Nat) : (strOf l).length = l.length := by simp [strOf, Str.length]

/-- what a value is, with no heap in sight -/
inductive PV where
  | none | bool (b : Bool) | int (i : Int) | str (l : List Nat) | tup (l : List PV) | lst (l : List PV) | raw (v : Value)

mutual
noncomputable def Rep (h : Heap) (X : Addr → Prop) : PV → Value → Prop
  | .none, v => v = .none
  | .bool b, v => v = .bool b
  | .int i, v => ∃ t, v = .int i t
  | .str l, v => ∃ t, v = .str (strOf l) t
  | .tup l, v => ∃ a xs, v = .ref a ∧ ¬ X a ∧ h.IsTuple a xs ∧ RepL h X l xs.toList
  | .lst l, v => ∃ a xs, v = .ref a ∧ ¬ X a ∧ PlainL h a xs ∧ RepL h X l xs.toList
  | .raw u, v => v = u
noncomputable def RepL (h : Heap) (X : Addr → Prop) : List PV → List Value → Prop
  | [], [] => True
  | p :: ps, v :: vs => Rep h X p v ∧ RepL h X ps vs
  | [], _ :: _ => False
  | _ :: _, [] => False
end

theorem RepL.length {h : Heap} {X : Addr → Prop} : ∀ {ps : List PV} {vs : List Value}, RepL h X ps vs → ps.length = vs.length
  | [], [], _ => rfl
  | _ :: _, _ :: _, x => by simp only [RepL] at x; simp [RepL.length x.2]
  | [], _ :: _, x => by simp [RepL] at x
  | _ :: _, [], x => by simp [RepL] at x

theorem RepL.get {h : Heap} {X : Addr → Prop} : ∀ {ps : List PV} {vs : List Value} {i : Nat} {p : PV}, RepL h X ps vs → ps[i]? = some p → ∃ v, vs[i]? = some v ∧ Rep h X p v
  | p :: ps, v :: vs, 0, q, x, e => by simp only [RepL] at x; simp at e; subst e; exact ⟨v, rfl, x.1⟩
  | p :: ps, v :: vs, i + 1, q, x, e => by simp only [RepL] at x; simp at e; simpa using RepL.get x.2 e
  | [], _, _, _, _, e => by simp at e
  | _ :: _, [], _, _, x, _ => by simp [RepL] at x

theorem RepL.get' {h : Heap} {X : Addr → Prop} : ∀ {ps : List PV} {vs : List Value} {i : Nat} {v : Value}, RepL h X ps vs → vs[i]? = some v → ∃ p, ps[i]? = some p ∧ Rep h X p v
  | p :: ps, v :: vs, 0, q, x, e => by simp only [RepL] at x; simp at e; subst e; exact ⟨p, rfl, x.1⟩
  | p :: ps, v :: vs, i + 1, q, x, e => by simp only [RepL] at x; simp at e; simpa using RepL.get' x.2 e
  | _, [], _, _, _, e => by simp at e
  | [], _ :: _, _, _, x, _ => by simp [RepL] at x

theorem RepL.append {h : Heap} {X : Addr → Prop} : ∀ {ps qs : List PV} {vs ws : List Value}, RepL h X ps vs → RepL h X qs ws → RepL h X (ps ++ qs) (vs ++ ws)
  | [], _, [], _, _, y => y
  | p :: ps, qs, v :: vs, ws, x, y => by simp only [RepL, List.cons_append] at x ⊢; exact ⟨x.1, RepL.append x.2 y⟩
  | [], _, _ :: _, _, x, _ => by simp [RepL] at x
  | _ :: _, _, [], _, x, _ => by simp [RepL] at x

theorem RepL.take {h : Heap} {X : Addr → Prop} : ∀ {ps : List PV} {vs : List Value} (n : Nat), RepL h X ps vs → RepL h X (ps.take n) (vs.take n)
  | _, _, 0, _ => by simp [RepL]
  | [], [], _ + 1, _ => by simp [RepL]
  | p :: ps, v :: vs, n + 1, x => by simp only [RepL, List.take_succ_cons] at x ⊢; exact ⟨x.1, RepL.take n x.2⟩
  | [], _ :: _, _, x => by simp [RepL] at x
  | _ :: _, [], _, x => by simp [RepL] at x

theorem RepL.drop {h : Heap} {X : Addr → Prop} : ∀ {ps : List PV} {vs : List Value} (n : Nat), RepL h X ps vs → RepL h X (ps.drop n) (vs.drop n)
  | _, _, 0, x => by simpa using x
  | [], [], _ + 1, _ => by simp [RepL]
  | p :: ps, v :: vs, n + 1, x => by simp only [RepL, List.drop_succ_cons] at x ⊢; exact RepL.drop n x.2
  | [], _ :: _, _, x => by simp [RepL] at x
  | _ :: _, [], _, x => by simp [RepL] at x

mutual
theorem Rep.mono {h h' : Heap} {X X' : Addr → Prop} (k : ∀ b o, ¬ X b → h.get? b = some o → h'.get? b = some o) (hX : ∀ b, X' b → (h.get? b).isSome → X b) :
    ∀ {p : PV} {v : Value}, Rep h X p v → Rep h' X' p v
  | .none, _, x => x
  | .bool _, _, x => x
  | .int _, _, x => x
  | .str _, _, x => x
  | .raw _, _, x => x
  | .tup l, v, x => by
    simp only [Rep] at x ⊢
    obtain ⟨a, xs, e, hx, ⟨o, ho, r⟩, hl⟩ := x
    exact ⟨a, xs, e, fun z => hx (hX a z (by rw [ho]; rfl)), ⟨o, k a o hx ho, r⟩, RepL.mono k hX hl⟩
  | .lst l, v, x => by
    simp only [Rep] at x ⊢
    obtain ⟨a, xs, e, hx, ⟨o, n, ho, r⟩, hl⟩ := x
    exact ⟨a, xs, e, fun z => hx (hX a z (by rw [ho]; rfl)), ⟨o, n, k a o hx ho, r⟩, RepL.mono k hX hl⟩
theorem RepL.mono {h h' : Heap} {X X' : Addr → Prop} (k : ∀ b o, ¬ X b → h.get? b = some o → h'.get? b = some o) (hX : ∀ b, X' b → (h.get? b).isSome → X b) :
    ∀ {ps : List PV} {vs : List Value}, RepL h X ps vs → RepL h' X' ps vs
  | [], [], _ => by simp [RepL]
  | p :: ps, v :: vs, x => by simp only [RepL] at x ⊢; exact ⟨Rep.mono k hX x.1, RepL.mono k hX x.2⟩
  | [], _ :: _, x => by simp [RepL] at x
  | _ :: _, [], x => by simp [RepL] at x
end

theorem Rep.keeps {s s' : Shared} {X : Addr → Prop} (k : Kp s s') {p : PV} {v : Value} (x : Rep s.heap X p v) : Rep s'.heap X p v := by
  obtain ⟨h', tk, rfl, k⟩ := k
  exact x.mono (fun b o _ e => k b o e) fun b z _ => z
theorem RepL.keeps {s s' : Shared} {X : Addr → Prop} (k : Kp s s') {p : List PV} {v : List Value} (x : RepL s.heap X p v) : RepL s'.heap X p v := by
  obtain ⟨h', tk, rfl, k⟩ := k
  exact x.mono (fun b o _ e => k b o e) fun b z _ => z

theorem Kp.rfl' (s : Shared) : Kp s s := ⟨s.heap, s.toks, rfl, fun _ _ e => e⟩
theorem Kp.tr {s s' s'' : Shared} (x : Kp s s') (y : Kp s' s'') : Kp s s'' := by
  obtain ⟨h', tk, rfl, k⟩ := x
  obtain ⟨h'', tk', rfl, k'⟩ := y
  exact ⟨h'', tk', rfl, fun b o e => k' b o (k b o e)⟩
theorem Kp.tok (s : Shared) (t : Nat) : Kp s { s with toks := t } := ⟨s.heap, t, rfl, fun _ _ e => e⟩
theorem Kp.push (s : Shared) (o : Obj) (t : Nat) : Kp s { s with heap := s.heap.push o, toks := t } := ⟨_, t, rfl, fun _ _ e => Heap.get?_push_of_some _ e⟩
theorem Kp.get {s s' : Shared} (k : Kp s s') {b : Addr} {o : Obj} (e : s.heap.get? b = some o) : s'.heap.get? b = some o := by
  obtain ⟨h', tk, rfl, k⟩ := k; exact k b o e

/-- the world that the calls stand in -/
structure Wd where
  prog : Program
  w : World
  mg : Str → Option Value
  mb : Str → Option Value
  g : Heap → Prop
  mono : ∀ h h' : Heap, g h → (∀ b o, h.get? b = some o → h'.get? b = some o) → g h'
  ns : ∀ h, g h → h.Ns mainGlobals mg
  bns : ∀ h, g h → h.Ns builtinsNs mb
  nl : ∀ h, g h → h.NoLimit

noncomputable abbrev Wd.M (W : Wd) : Model := model W.prog W.w

structure Fc where
  env : Env
  A : Around
  s₀ : Shared
  X₀ : Addr → Prop
  N : List Str
  gl : List Str
  fr : Bool
  k : Nat

noncomputable def Room (A : Around) (n : Nat) : Prop := A.depth + n < recursionLimit ∧ A.units + 10 * n < cLine
theorem Room.le {A : Around} {n m : Nat} (r : Room A n) (h : m ≤ n) : Room A m := ⟨by have := r.1; omega, by have := r.2; omega⟩

structure Fc.Ok (W : Wd) (c : Fc) : Prop where
  fn : c.env.scope.kind = .function
  nm : ∀ x ∈ c.N, c.env.kindOf x = some .local ∨ (c.env.kindOf x = some .cell ∧ (c.env.cells.lookup x).isSome = true)
  gm : ∀ x ∈ c.gl, c.env.kindOf x = some .globalImplicit
  nd : c.N.Nodup
  db : (∀ x ∈ c.N, (x == ("__debug__" : Str)) = false) ∧ ∀ x ∈ c.gl, (x == ("__debug__" : Str)) = false
  gg : c.env.globals = mainGlobals
  gb : c.env.builtins = builtinsNs
  hd : c.A.handled = none
  g0 : W.g c.s₀.heap
  x0 : ∀ b, c.X₀ b → (c.s₀.heap.get? b).isSome = true
  rm : Room c.A c.k

structure Fc.Fr (c : Fc) : Prop where
  fr : c.fr = true
  apart : c.env.cells.Pairwise fun x y => x.2 ≠ y.2
  above : ∀ n d, (n, d) ∈ c.env.cells → c.env.locals < d
  fresh : c.s₀.heap.objs.size ≤ c.env.locals

inductive At : List Str → List (Option PV) → Str → PV → Prop
  | here {x N p ρ} : At (x :: N) (some p :: ρ) x p
  | there {x y N p o ρ} : At N ρ x p → At (y :: N) (o :: ρ) x p

inductive Put : List Str → List (Option PV) → Str → PV → List (Option PV) → Prop
  | here {x N o p ρ} : Put (x :: N) (o :: ρ) x p (some p :: ρ)
  | there {x y N p o ρ ρ'} : Put N ρ x p ρ' → Put (y :: N) (o :: ρ) x p (o :: ρ')

theorem At.mem {N ρ x p} (h : At N ρ x p) : x ∈ N := by
  induction h with
  | here => exact List.mem_cons_self
  | there _ ih => exact List.mem_cons_of_mem _ ih
theorem Put.mem {N ρ x p ρ'} (h : Put N ρ x p ρ') : x ∈ N := by
  induction h with
  | here => exact List.mem_cons_self
  | there _ ih => exact List.mem_cons_of_mem _ ih
theorem Put.at {N ρ x p ρ' y q} (h : Put N ρ x p ρ') (nd : N.Nodup) (a : At N ρ' y q) : (y = x ∧ q = p) ∨ (y ≠ x ∧ At N ρ y q) := by
  induction h with
  | here =>
    cases a with
    | here => exact .inl ⟨rfl, rfl⟩
    | there a => exact .inr ⟨fun e => (List.nodup_cons.mp nd).1 (e ▸ a.mem), .there a⟩
  | there h ih =>
    cases a with
    | here => exact .inr ⟨fun e => (List.nodup_cons.mp nd).1 (e ▸ h.mem), .here⟩
    | there a =>
      rcases ih (List.nodup_cons.mp nd).2 a with r | r
      · exact .inl r
      · exact .inr ⟨r.1, .there r.2⟩

structure AS where
  σ : List (Addr × List PV)
  K : List (Addr × Obj)
  ρ : List (Option PV)
  lo : Bool := false

/-- what a value's objects must lie apart from: in the loose reading the frame's own lists are values too -/
noncomputable def AS.Y (a : AS) (X : Addr → Prop) : Addr → Prop := fun b => X b ∧ (a.lo = true → b ∉ a.σ.map (·.1))
noncomputable def AS.loose (a : AS) : AS := { a with lo := true }

noncomputable def Cells (c : Fc) (h : Heap) (cm : Str → Option Value) : Prop := ∀ n d, c.env.cells.lookup n = some d → h.IsCell d (cm n)

structure Vars (c : Fc) (X : Addr → Prop) (a : AS) (h : Heap) : Prop where
  ex : ∃ m cm, h.Ns c.env.locals m ∧ Cells c h cm ∧ ∀ x p, At c.N a.ρ x p → ∃ v, (c.env.kindOf x = some .local → m x = some v) ∧ (c.env.kindOf x = some .cell → cm x = some v) ∧ Rep h X p v

/-- an address that no frame name and no base object lies at -/
structure Mine' (c : Fc) (X : Addr → Prop) (b : Addr) : Prop where
  x : X b
  l : b ≠ c.env.locals
  cl : ∀ n d, c.env.cells.lookup n = some d → b ≠ d
  new : c.fr = true → c.s₀.heap.get? b = none

structure St (W : Wd) (c : Fc) (X : Addr → Prop) (a : AS) (s : Shared) : Prop where
  ok : c.Ok W
  same : ∃ h tk, s = { c.s₀ with heap := h, toks := tk }
  keep : ∀ b o, c.s₀.heap.get? b = some o → s.heap.get? b = some o
  vars : Vars c X a s.heap
  xl : X c.env.locals
  xc : ∀ n d, c.env.cells.lookup n = some d → X d
  x0 : ∀ b, c.X₀ b → X b
  own : ∀ q ∈ a.σ, Mine' c X q.1 ∧ ∃ xs, PlainL s.heap q.1 xs ∧ RepL s.heap X q.2 xs.toList
  ownd : (a.σ.map (·.1)).Nodup
  kk : ∀ q ∈ a.K, (Mine' c X q.1 ∧ q.1 ∉ a.σ.map (·.1)) ∧ s.heap.get? q.1 = some q.2
  xd : ∀ b, X b → (s.heap.get? b).isSome = true

theorem St.g {W : Wd} {c : Fc} {X : Addr → Prop} {a : AS} {s : Shared} (x : St W c X a s) : W.g s.heap := W.mono _ _ x.ok.g0 x.keep

theorem St.keeps {W : Wd} {c : Fc} {X : Addr → Prop} {a : AS} {s s' : Shared} (x : St W c X a s) (k : Kp s s') : St W c X a s' := by
  obtain ⟨h', tk, rfl, k⟩ := k
  obtain ⟨h, t, hs⟩ := x.same
  refine ⟨x.ok, ⟨h', tk, by rw [hs]⟩, fun b o e => k b o (x.keep b o e), ?_, x.xl, x.xc, x.x0, fun q hq => ?_, x.ownd, fun q hq => ?_, fun b hb => ?_⟩
  · obtain ⟨m, cm, hn, hc, hv⟩ := x.vars.ex
    refine ⟨m, cm, hn.keeps k, fun n d e => (hc n d e).keeps k, fun y p hy => ?_⟩
    obtain ⟨v, h1, h2, h3⟩ := hv y p hy
    exact ⟨v, h1, h2, h3.mono (fun b o _ e => k b o e) fun b z _ => z⟩
  · obtain ⟨h1, xs, ⟨o, n, ho, r⟩, hl⟩ := x.own q hq
    exact ⟨h1, xs, ⟨o, n, k _ _ ho, r⟩, hl.mono (fun b o _ e => k b o e) fun b z _ => z⟩
  · obtain ⟨h1, h3⟩ := x.kk q hq
    exact ⟨h1, k _ _ h3⟩
  · obtain ⟨o, ho⟩ := Option.isSome_iff_exists.mp (x.xd b hb)
    show (h'.get? b).isSome = true
    rw [k b o ho]; rfl

theorem St.yd {W : Wd} {c : Fc} {X : Addr → Prop} {a : AS} {s : Shared} (x : St W c X a s) : ∀ b, a.Y X b → (s.heap.get? b).isSome = true := fun b z => x.xd b z.1
theorem St.toLoose {W : Wd} {c : Fc} {X : Addr → Prop} {a : AS} {s : Shared} (x : St W c X a s) : St W c X a.loose s :=
  ⟨x.ok, x.same, x.keep, ⟨x.vars.ex⟩, x.xl, x.xc, x.x0, x.own, x.ownd, x.kk, x.xd⟩

structure Ev (W : Wd) (c : Fc) (a : AS) (e : Expr) (p : PV) : Prop where
  go : ∀ X s, St W c X a s → ∀ (Q : Value → Shared → Prop) (E : Value → Shared → Prop), (∀ v s', Kp s s' → Rep s'.heap (a.Y X) p v → Q v s') → wpAny W.M c.A (eval e c.env) Q E s

structure EvB (W : Wd) (c : Fc) (a : AS) (e : Expr) (b : Bool) : Prop where
  go : ∀ X s, St W c X a s → ∀ (Q : Bool → Shared → Prop) (E : Value → Shared → Prop), (∀ s', Kp s s' → Q b s') → wpAny W.M c.A (isTrue e c.env (eval e c.env)) Q E s

structure EvL (W : Wd) (c : Fc) (a : AS) (pos : Pos) (es : List Expr) (ps : List PV) : Prop where
  go : ∀ X s, St W c X a s → ∀ (Q : List Value → Shared → Prop) (E : Value → Shared → Prop), (∀ vs s', Kp s s' → RepL s'.heap (a.Y X) ps vs → Q vs s') → wpAny W.M c.A (spliced (backTo pos (starEach es c.env))) Q E s

section
variable {W : Wd} {c : Fc} {a : AS}

theorem ev_int {i k pos} : Ev W c a (.Constant (.int i) k pos) (.int i) := .mk fun X s _ Q E h =>
  wpAny_Constant_int (h _ _ (Kp.tok _ _) (by simp only [Rep]; exact ⟨_, rfl⟩))
theorem ev_str {x : Str} {k pos} : Ev W c a (.Constant (.str x) k pos) (.str x.cps.toList) := .mk fun X s _ Q E h =>
  Calls.Constant_str (h _ _ (Kp.tok _ _) (by simp only [Rep]; exact ⟨_, rfl⟩))
theorem ev_none {k pos} : Ev W c a (.Constant .none k pos) .none := .mk fun X s _ Q E h => by
  rw [eval_Constant]; exact wpAny_pure (h _ _ (Kp.rfl' _) (by simp only [Rep]))
theorem ev_bool {b k pos} : Ev W c a (.Constant (.bool b) k pos) (.bool b) := .mk fun X s _ Q E h => by
  rw [eval_Constant]; exact wpAny_pure (h _ _ (Kp.rfl' _) (by simp only [Rep]))

theorem load_name {x : Str} {p : PV} {X : Addr → Prop} {s : Shared} (x₁ : St W c X a s) (hx : At c.N a.ρ x p) {Q : Value → Shared → Prop} {E : Value → Shared → Prop}
    (h : ∀ v, Rep s.heap X p v → Q v s) : wpAny W.M c.A (loadName c.env x) Q E s := by
  obtain ⟨m, cm, hn, hc, hv⟩ := x₁.vars.ex
  obtain ⟨v, h1, h2, h3⟩ := hv x p hx
  rcases x₁.ok.nm x hx.mem with hl | ⟨hl, hl'⟩
  · exact wpAny_loadName_local x₁.ok.fn hl hn (h1 hl) (h v h3)
  · obtain ⟨d, hd⟩ := Option.isSome_iff_exists.mp hl'
    exact wpAny_loadName_cell x₁.ok.fn hl hd (h2 hl ▸ hc x d hd) (h v h3)

theorem ev_own {x : Str} {pos b l} (hx : At c.N a.ρ x (.raw (.ref b))) (hl : (b, l) ∈ a.σ) (hlo : a.lo = true) : Ev W c a (.Name x pos) (.lst l) := .mk fun X s x₁ Q E h => by
  refine wpAny_Name (load_name x₁ hx fun v hv => ?_) (x₁.ok.db.1 x hx.mem)
  simp only [Rep] at hv
  subst hv
  obtain ⟨m, xs, hx', hr⟩ := x₁.own _ hl
  refine h _ s (Kp.rfl' _) ?_
  simp only [Rep]
  exact ⟨_, xs, rfl, fun z => z.2 hlo (List.mem_map.mpr ⟨_, hl, rfl⟩), hx', hr.mono (fun _ _ _ e => e) fun b z _ => z.1⟩

/-- values without objects -/
noncomputable def PV.flat : PV → Bool
  | .lst _ => false
  | .tup _ => false
  | _ => true
theorem Rep.flat {h h' : Heap} {X Y : Addr → Prop} : ∀ {p : PV} {v : Value}, p.flat = true → Rep h X p v → Rep h' Y p v
  | .none, _, _, x => x
  | .bool _, _, _, x => x
  | .int _, _, _, x => x
  | .str _, _, _, x => x
  | .raw _, _, _, x => x
  | .lst _, _, f, _ => by cases f
  | .tup _, _, f, _ => by cases f
theorem ev_flat {e p} (he : Ev W c a.loose e p) (hp : p.flat = true) : Ev W c a e p := .mk fun X s x Q E h =>
  he.go X s x.toLoose Q E fun v s' k r => h v s' k (r.flat hp)
theorem evB_loose {e b} (he : EvB W c a.loose e b) : EvB W c a e b := .mk fun X s x Q E h => he.go X s x.toLoose Q E h

theorem ev_name {x : Str} {pos p} (hx : At c.N a.ρ x p) : Ev W c a (.Name x pos) p := .mk fun X s x₁ Q E h =>
  wpAny_Name (load_name x₁ hx fun v hv => h v s (Kp.rfl' _) (hv.mono (fun _ _ _ e => e) fun b z _ => z.1)) (x₁.ok.db.1 x hx.mem)

/-- a rule for an operator: both values in, the result's out -/
structure BinR (W : Wd) (op : Operator) (p q r : PV) : Prop where
  go : ∀ A s X u v, A.handled = none → Room A 0 → W.g s.heap → Rep s.heap X p u → Rep s.heap X q v → (∀ b, X b → (s.heap.get? b).isSome = true) → ∀ (Q : Value → Shared → Prop) (E : Value → Shared → Prop), (∀ v s', Kp s s' → Rep s'.heap X r v → Q v s') → wpAny W.M A (binaryOp op u v) Q E s
structure InpR (W : Wd) (op : Operator) (p q r : PV) : Prop where
  go : ∀ A s X u v, A.handled = none → Room A 0 → W.g s.heap → Rep s.heap X p u → Rep s.heap X q v → (∀ b, X b → (s.heap.get? b).isSome = true) → ∀ (Q : Value → Shared → Prop) (E : Value → Shared → Prop), (∀ v s', Kp s s' → Rep s'.heap X r v → Q v s') → wpAny W.M A (inplaceOp op u v) Q E s
structure CmpR (W : Wd) (op : CmpOp) (p q : PV) (b : Bool) : Prop where
  go : ∀ A s X u v, A.handled = none → Room A 0 → W.g s.heap → Rep s.heap X p u → Rep s.heap X q v → ∀ (Q : Value → Shared → Prop) (E : Value → Shared → Prop), (∀ s', Kp s s' → Q (.bool b) s') → wpAny W.M A (compareOp op u v) Q E s

theorem ev_bin {l op r pos p q z} (hl : Ev W c a l p) (hr : Ev W c a r q) (ho : BinR W op p q z) : Ev W c a (.BinOp l op r pos) z := .mk fun X s x Q E h =>
  wpAny_BinOp (hl.go X s x _ _ fun u s₁ k₁ r₁ => hr.go X s₁ (x.keeps k₁) _ _ fun v s₂ k₂ r₂ =>
    ho.go _ s₂ (a.Y X) u v x.ok.hd (x.ok.rm.le (Nat.zero_le _)) (x.keeps (k₁.tr k₂)).g (r₁.keeps k₂) r₂ (x.keeps (k₁.tr k₂)).yd _ _ fun y s₃ k₃ r₃ => h y s₃ ((k₁.tr k₂).tr k₃) r₃)

theorem ev_cmp {l op r pos p q b} (hl : Ev W c a l p) (hr : Ev W c a r q) (ho : CmpR W op p q b) (hm : behindInMarks op r = false := by with_unfolding_all rfl) : Ev W c a (.Compare l [op] [r] pos) (.bool b) := .mk fun X s x Q E h =>
  wpAny_Compare1 (hm := hm) (hl.go X s x _ _ fun u s₁ k₁ r₁ => hr.go X s₁ (x.keeps k₁) _ _ fun v s₂ k₂ r₂ =>
    ho.go _ s₂ (a.Y X) u v x.ok.hd (x.ok.rm.le (Nat.zero_le _)) (x.keeps (k₁.tr k₂)).g (r₁.keeps k₂) r₂ _ _ fun s₃ k₃ => h _ s₃ ((k₁.tr k₂).tr k₃) (by simp only [Rep]))

theorem evB_cmp {l op r pos p q b} (hl : Ev W c a l p) (hr : Ev W c a r q) (ho : CmpR W op p q b) (hm : behindInMarks op r = false := by with_unfolding_all rfl) : EvB W c a (.Compare l [op] [r] pos) b := .mk fun X s x Q E h =>
  wpAny_isTrue_Compare1 (hm := hm) (hl.go X s x _ _ fun u s₁ k₁ r₁ => hr.go X s₁ (x.keeps k₁) _ _ fun v s₂ k₂ r₂ =>
    ho.go _ s₂ (a.Y X) u v x.ok.hd (x.ok.rm.le (Nat.zero_le _)) (x.keeps (k₁.tr k₂)).g (r₁.keeps k₂) r₂ _ _ fun s₃ k₃ => wpAny_truthy_bool (h s₃ ((k₁.tr k₂).tr k₃)))

theorem evL_nil {pos} : EvL W c a pos [] [] := .mk fun X s x Q E h => args_nil (h [] s (Kp.rfl' _) (by simp only [RepL]))
theorem evL_cons {pos e es p ps} (he : Ev W c a e p) (hs : EvL W c a pos es ps)
    (hst : starEach (e :: es) c.env = (false, eval e c.env) :: starEach es c.env := by rfl) : EvL W c a pos (e :: es) (p :: ps) := .mk fun X s x Q E h =>
  args_cons (he := hst) (he.go X s x _ _ fun v s₁ k₁ r₁ => hs.go X s₁ (x.keeps k₁) _ _ fun vs s₂ k₂ r₂ => h (v :: vs) s₂ (k₁.tr k₂) (by simp only [RepL]; exact ⟨r₁.keeps k₂, r₂⟩))

/-- a function of the program, by what it gives back -/
noncomputable def Fun (W : Wd) (name : Str) (k : Nat) (ps : List PV) (r : PV) : Prop :=
  ∃ f, W.mg name = some (.ref f) ∧ (∀ h, W.g h → ∃ o fd, h.get? f = some o ∧ o.data = .func fd) ∧
    ∀ s A X vals, W.g s.heap → Room A k → A.handled = none → (∀ b, X b → (s.heap.get? b).isSome = true) → RepL s.heap X ps vals →
      ∀ (Q : Value → Shared → Prop) (E : Value → Shared → Prop), (∀ v s', Kp s s' → Rep s'.heap X r v → Q v s') → wpAny W.M A (PySem.call (.ref f) vals) Q E s

/-- a built-in function, by what it gives back -/
structure BFun (W : Wd) (id : String) (k : Nat) (ps : List PV) (r : PV) : Prop where
  go : ∀ s A X vals, W.g s.heap → Room A k → A.handled = none → (∀ b, X b → (s.heap.get? b).isSome = true) → RepL s.heap X ps vals →
      ∀ (Q : Value → Shared → Prop) (E : Value → Shared → Prop), (∀ v s', Kp s s' → Rep s'.heap X r v → Q v s') → wpAny W.M A (PySem.call (.builtin id) vals) Q E s

theorem ev_call {x : Str} {pos pos' : Pos} {e : Expr} {es : List Expr} {ps : List PV} {r : PV} {k : Nat} (hx : x ∈ c.gl) (ha : EvL W c a pos (e :: es) ps) (hf : Fun W x k ps r) (hr : k ≤ c.k)
    (he : eval (.Call (.Name x pos') (e :: es) [] pos) c.env = (do callWith pos (← eval (.Name x pos') c.env) [] (backTo pos (starEach (e :: es) c.env)) (backToKw pos (keywordEach [] c.env))) := by rfl)
    (hst : starEach (e :: es) c.env = (false, eval e c.env) :: starEach es c.env := by rfl) :
    Ev W c a (.Call (.Name x pos') (e :: es) [] pos) r := .mk fun X s x₁ Q E h => by
  obtain ⟨f, hmg, hfd, hc⟩ := hf
  refine Call_ (he := he) (Calls.Name_function_global x₁.ok.fn (x₁.ok.gm x hx) (Calls.loadGlobal_global (env := c.env) (mg := W.mg) (by rw [x₁.ok.gg]; exact W.ns _ x₁.g) hmg ?_) (x₁.ok.db.2 x hx))
  obtain ⟨o, fd, ho, hd⟩ := hfd _ x₁.g
  refine callWith_def (o := o) (fd := fd) hd (ha.go X s x₁ _ _ fun vs s₁ k₁ r₁ => ⟨k₁.get ho, hc s₁ c.A (a.Y X) vs (x₁.keeps k₁).g (x₁.ok.rm.le hr) x₁.ok.hd (x₁.keeps k₁).yd r₁ _ _ fun v s₂ k₂ r₂ => h v s₂ (k₁.tr k₂) r₂⟩) (he := hst)

theorem ev_callB {x : Str} {id : String} {pos pos' : Pos} {e : Expr} {es : List Expr} {ps : List PV} {r : PV} {k : Nat} (hx : x ∈ c.gl) (hg : W.mg x = none) (hb : W.mb x = some (.builtin id)) (ha : EvL W c a pos (e :: es) ps) (hf : BFun W id k ps r) (hr : k ≤ c.k)
    (he : eval (.Call (.Name x pos') (e :: es) [] pos) c.env = (do callWith pos (← eval (.Name x pos') c.env) [] (backTo pos (starEach (e :: es) c.env)) (backToKw pos (keywordEach [] c.env))) := by rfl)
    (hst : starEach (e :: es) c.env = (false, eval e c.env) :: starEach es c.env := by rfl)
    (hpl : (backTo pos (starEach es c.env)).any (·.1) = false := by rfl) :
    Ev W c a (.Call (.Name x pos') (e :: es) [] pos) r := .mk fun X s x₁ Q E h => by
  refine Call_ (he := he) (Calls.Name_function_global x₁.ok.fn (x₁.ok.gm x hx) (Calls.loadGlobal_builtin (env := c.env) (mg := W.mg) (mb := W.mb) (by rw [x₁.ok.gg]; exact W.ns _ x₁.g) hg (by rw [x₁.ok.gb]; exact W.bns _ x₁.g) hb ?_) (x₁.ok.db.2 x hx))
  exact callWith_builtin1 (ha.go X s x₁ _ _ fun vs s₁ k₁ r₁ => hf.go s₁ c.A (a.Y X) vs (x₁.keeps k₁).g (x₁.ok.rm.le hr) x₁.ok.hd (x₁.keeps k₁).yd r₁ _ _ fun v s₂ k₂ r₂ => h v s₂ (k₁.tr k₂) r₂) (he := hst) (hplain := hpl)
end
end Mine
end partW1

section partW2
open PySem PySem.W PyProof.Rows
set_option maxRecDepth 100000
namespace Mine
set_option linter.unusedVariables false
section
variable {W : Wd}

theorem bin_add {a b : Int} : BinR W .Add (.int a) (.int b) (.int (a + b)) := .mk fun A s X u v hd rm g x y hX Q E h => by
  simp only [Rep] at x y; obtain ⟨t, rfl⟩ := x; obtain ⟨t', rfl⟩ := y
  exact add_int (h _ _ (Kp.tok _ _) (by simp only [Rep]; exact ⟨_, rfl⟩))
theorem bin_sub {a b : Int} : BinR W .Sub (.int a) (.int b) (.int (a - b)) := .mk fun A s X u v hd rm g x y hX Q E h => by
  simp only [Rep] at x y; obtain ⟨t, rfl⟩ := x; obtain ⟨t', rfl⟩ := y
  exact sub_int' (h _ _ (Kp.tok _ _) (by simp only [Rep]; exact ⟨_, rfl⟩))
theorem bin_mul {a b : Int} (hm : IntMulOk a b) : BinR W .Mult (.int a) (.int b) (.int (a * b)) := .mk fun A s X u v hd rm g x y hX Q E h => by
  simp only [Rep] at x y; obtain ⟨t, rfl⟩ := x; obtain ⟨t', rfl⟩ := y
  exact mul_int (h _ _ (Kp.tok _ _) (by simp only [Rep]; exact ⟨_, rfl⟩)) hm
theorem bin_mod {a b : Int} (hb : b ≠ 0) : BinR W .Mod (.int a) (.int b) (.int (a.fmod b)) := .mk fun A s X u v hd rm g x y hX Q E h => by
  simp only [Rep] at x y; obtain ⟨t, rfl⟩ := x; obtain ⟨t', rfl⟩ := y
  exact mod_int' hb (h _ _ (Kp.tok _ _) (by simp only [Rep]; exact ⟨_, rfl⟩))
theorem bin_div {a b : Int} (hb : b ≠ 0) (hs : b.natAbs.log2 < 9000) : BinR W .FloorDiv (.int a) (.int b) (.int (a.fdiv b)) := .mk fun A s X u v hd rm g x y hX Q E h => by
  simp only [Rep] at x y; obtain ⟨t, rfl⟩ := x; obtain ⟨t', rfl⟩ := y
  exact floordiv_int hb (h _ _ (Kp.tok _ _) (by simp only [Rep]; exact ⟨_, rfl⟩)) (Or.inl (PyProof.noPylong_of_log2 hs))
theorem bin_pow {a n : Int} (hn : 0 ≤ n) (hsz : (Builtin.Int.intBits a : Int) * n ≤ 2 ^ 27) : BinR W .Pow (.int a) (.int n) (.int (a ^ n.toNat)) := .mk fun A s X u v hd rm g x y hX Q E h => by
  simp only [Rep] at x y; obtain ⟨t, rfl⟩ := x; obtain ⟨t', rfl⟩ := y
  exact pow_int hn hsz (h _ _ (Kp.tok _ _) (by simp only [Rep]; exact ⟨_, rfl⟩))

theorem inp_add {a b : Int} : InpR W .Add (.int a) (.int b) (.int (a + b)) := .mk fun A s X u v hd rm g x y hX Q E h => by
  simp only [Rep] at x y; obtain ⟨t, rfl⟩ := x; obtain ⟨t', rfl⟩ := y
  exact P.iadd_int (h _ _ (Kp.tok _ _) (by simp only [Rep]; exact ⟨_, rfl⟩))

theorem strOf_app (a b : List Nat) : strOf a ++ strOf b = strOf (a ++ b) := by
  show Str.append _ _ = _
  simp [strOf, Str.append]

theorem bin_adds {a b : List Nat} (hs : a.length + b.length ≤ sizeLine) : BinR W .Add (.str a) (.str b) (.str (a ++ b)) := .mk fun A s X u v hd rm g x y hX Q E h => by
  simp only [Rep] at x y; obtain ⟨t, rfl⟩ := x; obtain ⟨t', rfl⟩ := y
  refine PyProof.Rows.add_str (fun t' tk => ?_) (by rw [strOf_len, strOf_len]; exact hs)
  rw [strOf_app]
  exact h _ _ (Kp.tok _ _) (by simp only [Rep]; exact ⟨_, rfl⟩)

theorem foldl_app {α : Type} (y : Array α) : ∀ (n : Nat) (acc : Array α), ((List.replicate n y).foldl (· ++ ·) acc).toList = acc.toList ++ (List.replicate n y.toList).flatten
  | 0, acc => by simp
  | n + 1, acc => by rw [List.replicate_succ, List.foldl_cons, foldl_app y n]; simp [List.replicate_succ]

theorem bin_muls {a : List Nat} {n : Int} (h0 : 0 ≤ n) (h1 : n ≤ 65535) (h2 : a.length ≤ 255) : BinR W .Mult (.str a) (.int n) (.str (List.replicate n.toNat a).flatten) := .mk fun A s X u v hd rm g x y hX Q E h => by
  simp only [Rep] at x y; obtain ⟨t, rfl⟩ := x; obtain ⟨t', rfl⟩ := y
  refine SB.mul (mulOk_of 255 65535 (by rw [strOf_len]; exact h2) (by omega) (by omega) (by decide) (by decide)) fun t' k => ?_
  have e : Txt.mul (strOf a) n = strOf (List.replicate n.toNat a).flatten := by
    unfold Txt.mul
    by_cases hn : n < 1
    · have : n = 0 := by omega
      subst this; rfl
    · rw [if_neg hn]
      split
      · rename_i hc
        rcases Bool.or_eq_true_iff.mp hc with hc | hc
        · have : n = 1 := by simpa using hc
          subst this; simp [strOf]
        · have : a = [] := by
            have : (strOf a).length = 0 := by simpa using hc
            rw [strOf_len] at this; exact List.eq_nil_of_length_eq_zero this
          subst this; simp
      · apply congrArg Str.mk
        apply Array.toList_inj.mp
        rw [foldl_app]; simp [strOf]
  rw [e]
  exact h _ _ (Kp.tok _ _) (by simp only [Rep]; exact ⟨_, rfl⟩)

theorem fresh_not {s : Shared} {X : Addr → Prop} (hX : ∀ b, X b → (s.heap.get? b).isSome = true) : ¬ X s.heap.objs.size := fun x => by
  obtain ⟨o, ho⟩ := Option.isSome_iff_exists.mp (hX _ x)
  exact absurd (Heap.lt_size ho) (Nat.lt_irrefl _)

theorem kp_heap {s : Shared} {o : Obj} : Kp s { s with heap := s.heap.push o } := ⟨_, s.toks, rfl, fun _ _ e => Heap.get?_push_of_some _ e⟩

theorem bin_addl {a b : List PV} (hs : a.length + b.length ≤ sizeLine) : BinR W .Add (.lst a) (.lst b) (.lst (a ++ b)) := .mk fun A s X u v hd rm g x y hX Q E h => by
  simp only [Rep] at x y
  obtain ⟨l, xs, rfl, hxl, hl, rl⟩ := x
  obtain ⟨b', ys, rfl, hxb, hb, rb⟩ := y
  obtain ⟨⟨cls, dd, data, sl⟩, ho, hc, n, hd'⟩ := hl.isList
  obtain ⟨⟨cls2, dd2, data2, sl2⟩, ho2, hc2, n2, hd2⟩ := hb.isList
  simp only at hc hd' hc2 hd2
  subst hc hd' hc2 hd2
  have e1 := rl.length
  have e2 := rb.length
  refine concat_meets ⟨_, ho, rfl⟩ ⟨_, ho2, rfl⟩ noFill_list_add seq_list_add PySem.F.slot_list_add PySem.F.entry_list_add (PySem.F.args_list_add_2 _ _) (list_addW l b' xs ys n n2 dd dd2 sl sl2 (by simp at e1 e2; omega)) ⟨ho, ho2, ?_⟩
  refine h _ _ kp_heap ?_
  simp only [Rep]
  refine ⟨_, _, rfl, fresh_not hX, ⟨_, _, Heap.get?_push_size _ rfl, rfl, rfl, rfl⟩, ?_⟩
  have := RepL.append rl rb
  simp only [Array.toList_append]
  exact this.keeps kp_heap

theorem list_mulW (l : Addr) (items : Array Value) (n : Nat) (dd : Option Addr) (sl : Array (Option Value)) (x : Int) (u : Tok) (hc0 : ¬(!Builtin.List.listFitsIndex x) = true) (hc1 : ¬items.size * x.toNat > (2 ^ 63 - 1) / 8) (hc2 : ¬Builtin.List.listTooLong (items.size * x.toNat) = true) :
    Meets (Builtin.«list.__mul__» ⟨[.ref l, .int x u], []⟩) (fun _ R s => s.heap.get? l = some { cls := .type "list", dict := dd, data := .seq items n, slots := sl } ∧ R (.ok (.ret (Value.ref s.heap.objs.size))) { s with heap := s.heap.push { cls := Value.type "list", data := Data.seq (List.foldl (fun x1 x2 => x1 ++ x2) #[] (List.replicate (if items.isEmpty = true then 0 else x.toNat) items)) }, toks := s.toks }) :=
  .of_wp fun prog w A R s h => by
    obtain ⟨hp, g, d, tk, os⟩ := s; obtain ⟨hl, h⟩ := h
    have hsz := AutoListH.joined_fits hc2
    wp_walk using AutoSeq1.wpAny_loadPart' hl; refine wpAny_ite_false (decide_eq_false (Nat.not_lt.mpr hsz)) ?_; wp_walk using AutoSeq1.wpAny_loadPart' hl; exact ⟨_, rfl, h⟩

end
end Mine
end partW2

section partW3
open PySem PySem.W PyProof.Rows
set_option maxRecDepth 100000
set_option linter.unusedVariables false
namespace Mine
section
variable {W : Wd} {c : Fc} {a : AS}

theorem ev_neg {i : Int} {k pos pos'} : Ev W c a (.UnaryOp .USub (.Constant (.int i) k pos') pos) (.int (-i)) := .mk fun X s x Q E h => by
  rw [arm_eval_UnaryOp]
  refine wpAny_bind (wpAny_Constant_int (wpAny_bind (wpAny_standAt (wpAny_holding (neg_int (h _ _ ?_ (by simp only [Rep]; exact ⟨_, rfl⟩)))))))
  exact Kp.tok s _

theorem ev_list {es : List Expr} {ps : List PV} {pos : Pos} (he : EvL W c a pos es ps) (hl : ps.length ≤ sizeLine := by decide) : Ev W c a (.List es pos) (.lst ps) := .mk fun X s x Q E h => by
  rw [arm_eval_List]
  refine wpAny_bind (wpAny_standAt (wpAny_bind (he.go X s x _ _ fun vs s₁ k₁ r₁ => ?_)))
  refine wpAny_newList (h _ _ (k₁.tr kp_heap) ?_) (by rw [← r₁.length]; exact hl)
  simp only [Rep]
  exact ⟨_, _, rfl, fresh_not (x.keeps k₁).yd, ⟨_, _, Heap.get?_push_size _ rfl, rfl, rfl, rfl⟩, by simpa using r₁.keeps kp_heap⟩

theorem ev_tuple {es : List Expr} {ps : List PV} {k : Nat} {pos : Pos} (he : EvL W c a pos es ps) (hl : ps.length ≤ sizeLine := by decide) : Ev W c a (.Tuple es k pos) (.tup ps) := .mk fun X s x Q E h => by
  rw [arm_eval_Tuple]
  refine wpAny_bind (wpAny_standAt (wpAny_bind (he.go X s x _ _ fun vs s₁ k₁ r₁ => ?_)))
  refine wpAny_newTuple (h _ _ (k₁.tr kp_heap) ?_) (by rw [← r₁.length]; exact hl)
  simp only [Rep]
  exact ⟨_, _, rfl, fresh_not (x.keeps k₁).yd, ⟨_, Heap.get?_push_size _ rfl, rfl, _, rfl⟩, by simpa using r₁.keeps kp_heap⟩

theorem ev_if {test body orelse pos b p} (ht : EvB W c a test b) (h1 : b = true → Ev W c a body p) (h2 : b = false → Ev W c a orelse p) : Ev W c a (.IfExp test body orelse pos) p := .mk fun X s x Q E h => by
  rw [arm_eval_IfExp]
  refine wpAny_bind (ht.go X s x _ _ fun s₁ k₁ => ?_)
  cases b with
  | true => exact (h1 rfl).go X s₁ (x.keeps k₁) Q E fun v s' k r => h v s' (k₁.tr k) r
  | false => exact (h2 rfl).go X s₁ (x.keeps k₁) Q E fun v s' k r => h v s' (k₁.tr k) r

theorem operate_sub {slice : Expr} {o i : Value} {s : Shared} {Q : Value → Shared → Prop} {E : Value → Shared → Prop} {M : Model} {A : Around} (h : wpAny M A (getItem o i) Q E s) :
    wpAny M A (subscripted slice false o i) Q E s := by
  unfold subscripted
  split
  · exact wpAny_operating h
  · rename_i hf; simp at hf
  · exact wpAny_operating h

theorem sub_rule {value slice : Expr} {pos : Pos} {s : Shared} {Q : Value → Shared → Prop} {E : Value → Shared → Prop} {A : Around} {env : Env}
    (h : wpAny W.M A (eval value env) (fun o s₁ => wpAny W.M A (eval slice env) (fun i s₂ => ∃ T id, typeLookup (.type T) "__getitem__" = pure (some (.builtin id)) ∧ s₂.TypeIs o T ∧ wpAny W.M A (getItem o i) Q E s₂) E s₁) E s) :
    wpAny W.M A (eval (.Subscript value slice pos) env) Q E s := by
  refine Subscript_ (wpAny_mono h (fun o s₁ h₁ => wpAny_mono h₁ (fun i s₂ h₂ => ?_) fun _ _ e => e) fun _ _ e => e)
  obtain ⟨T, id, hl, hT, hg⟩ := h₂
  unfold subscriptTail
  refine wpAny_bind ?_
  rw [getitemInPython_of_ne hT.not_modules]
  refine wpAny_bind (wpAny_specialOf hT hl ?_)
  have fin : wpAny W.M A (subscripted slice false o i) (fun r s₃ => wpAny W.M A (letTemporaryGo value o r >>= fun _ => pure r) Q E s₃) E s₂ :=
    operate_sub (wpAny_mono hg (fun r s₃ h₃ => wpAny_bind (wpAny_letTemporaryGo (wpAny_pure h₃))) fun _ _ x => x)
  first
    | exact wpAny_pure (wpAny_bind fin)
    | exact wpAny_bind (wpAny_pure (wpAny_bind fin))
    | exact wpAny_bind fin

/-- what an item read gives -/
structure SubR (W : Wd) (p q r : PV) : Prop where
  go : ∀ A s X u v, A.handled = none → Room A 0 → W.g s.heap → Rep s.heap X p u → Rep s.heap X q v → (∀ b, X b → (s.heap.get? b).isSome = true) → ∀ (Q : Value → Shared → Prop) (E : Value → Shared → Prop), (∀ v s', Kp s s' → Rep s'.heap X r v → Q v s') →
    ∃ T id, typeLookup (.type T) "__getitem__" = pure (some (.builtin id)) ∧ s.TypeIs u T ∧ wpAny W.M A (getItem u v) Q E s

theorem ev_sub {value slice pos p q r} (hv : Ev W c a value p) (hs : Ev W c a slice q) (hr : SubR W p q r) : Ev W c a (.Subscript value slice pos) r := .mk fun X s x Q E h =>
  sub_rule (hv.go X s x _ _ fun u s₁ k₁ r₁ => hs.go X s₁ (x.keeps k₁) _ _ fun v s₂ k₂ r₂ =>
    hr.go _ s₂ (a.Y X) u v x.ok.hd (x.ok.rm.le (Nat.zero_le _)) (x.keeps (k₁.tr k₂)).g (r₁.keeps k₂) r₂ (x.keeps (k₁.tr k₂)).yd _ _ fun y s₃ k₃ r₃ => h y s₃ ((k₁.tr k₂).tr k₃) r₃)

/-- a list's items: the frozen list's -/
theorem sub_lst {l : List PV} {i : Int} {p : PV} (h0 : 0 ≤ i) (h1 : i < 2 ^ 63) (hp : l[i.toNat]? = some p) : SubR W (.lst l) (.int i) p := .mk fun A s X u v hd rm g x y hX Q E h => by
  simp only [Rep] at x y
  obtain ⟨b, xs, rfl, hxl, hl, rl⟩ := x
  obtain ⟨t, rfl⟩ := y
  obtain ⟨w, hw, rw⟩ := rl.get hp
  exact ⟨"list", _, slot_list_getitem.lookup, hl.isList.typeIs, wpAny_getItem_list hl.isList h0 h1 (by simpa using hw) (h _ _ (Kp.rfl' _) rw)⟩

theorem sub_tup {l : List PV} {i : Int} {p : PV} (h0 : 0 ≤ i) (h1 : i < 2 ^ 63) (hp : l[i.toNat]? = some p) : SubR W (.tup l) (.int i) p := .mk fun A s X u v hd rm g x y hX Q E h => by
  simp only [Rep] at x y
  obtain ⟨b, xs, rfl, hxl, hl, rl⟩ := x
  obtain ⟨t, rfl⟩ := y
  obtain ⟨w, hw, rw⟩ := rl.get hp
  have hj : seqIndex? i xs.size = some i.toNat := by
    have hlt : i.toNat < xs.toList.length := by
      have := (List.getElem?_eq_some_iff.mp hw).1; exact this
    rw [Array.length_toList] at hlt
    unfold seqIndex?
    have : ¬ i < 0 := by omega
    simp only [this, if_false]
    have h2 : (decide (0 ≤ i) && decide (i < (xs.size : Int))) = true := by simp; omega
    rw [if_pos h2]
  obtain ⟨o, ho, hc, n, hd'⟩ := hl
  exact ⟨"tuple", _, slot_tuple_getitem.lookup, ⟨o, ho, hc⟩, PyProof.Rows.getItem_tuple ⟨o, ho, hc, n, hd'⟩ (by omega) h1 hj (by simpa using hw) (h _ _ (Kp.rfl' _) rw)⟩

theorem sub_str {l : List Nat} {i : Int} {n : Nat} (h0 : 0 ≤ i) (h1 : i < 2 ^ 63) (hp : l[i.toNat]? = some n) : SubR W (.str l) (.int i) (.str [n]) := .mk fun A s X u v hd rm g x y hX Q E h => by
  simp only [Rep] at x y
  obtain ⟨t, rfl⟩ := x
  obtain ⟨t', rfl⟩ := y
  have hj : seqIndex? i (strOf l).length = some i.toNat := by
    have hlt := (List.getElem?_eq_some_iff.mp hp).1
    rw [strOf_len]
    unfold seqIndex?
    have : ¬ i < 0 := by omega
    simp only [this, if_false]
    have h2 : (decide (0 ≤ i) && decide (i < (l.length : Int))) = true := by simp; omega
    rw [if_pos h2]
  refine ⟨"str", _, F.slot_str_getitem.lookup, typeIs_str _ _ _, P.getItem_str (c := n) ?_ ?_ (h _ _ (Kp.tok _ _) ?_)⟩
  · simp; omega
  · rw [hj]; simpa [strOf] using hp
  · simp only [Rep]; exact ⟨_, rfl⟩

/-- a slice, of any list -/
noncomputable def clip (n : Nat) : Option Int → Nat → Nat
  | none, d => d
  | some i, _ => (max 0 (min (if i < 0 then i + n else i) n)).toNat
noncomputable def sl {α : Type} (l : List α) (lo hi : Option Int) : List α := (l.drop (clip l.length lo 0)).take (clip l.length hi l.length - clip l.length lo 0)

theorem clip_le {n : Nat} {o : Option Int} {d : Nat} (hd : d ≤ n) : clip n o d ≤ n := by
  cases o with
  | none => exact hd
  | some i => simp only [clip]; omega

theorem range_take {α : Type} (l : List α) (a b : Nat) (hb : b ≤ l.length) : ((List.range (b - a)).map (a + ·)).filterMap (l[·]?) = (l.drop a).take (b - a) := by
  rw [List.filterMap_map]
  have : ∀ n, a + n ≤ l.length ∨ n = 0 → (List.range n).filterMap (fun k => l[a + k]?) = (l.drop a).take n := by
    intro n
    induction n with
    | zero => intro _; simp
    | succ n ih =>
      intro h
      have h' : a + (n + 1) ≤ l.length := by omega
      rw [List.range_succ, List.filterMap_append, ih (by omega), List.take_add_one]
      have : l[a + n]? = some l[a + n] := List.getElem?_eq_getElem (by omega)
      simp [List.getElem?_drop, this]
  exact this (b - a) (by omega)

theorem str_idx (n : Nat) (lo hi : Option Int) : Builtin.Str.strSliceIndices lo hi 1 n = (List.range (clip n hi n - clip n lo 0)).map (clip n lo 0 + ·) := by
  have nn : ∀ z : Int, (((max 0 (min z (n : Int))).toNat : Nat) : Int) = max 0 (min z (n : Int)) := fun z => Int.toNat_of_nonneg (by omega)
  cases lo with
  | none =>
    cases hi with
    | none => exact sliceRange_one 0 n
    | some j =>
      have := sliceRange_one 0 (clip n (some j) n)
      simp only [clip] at this ⊢
      rw [nn] at this
      exact this
  | some i =>
    cases hi with
    | none =>
      have := sliceRange_one (clip n (some i) 0) n
      simp only [clip] at this ⊢
      rw [nn] at this
      exact this
    | some j =>
      have := sliceRange_one (clip n (some i) 0) (clip n (some j) n)
      simp only [clip] at this ⊢
      rw [nn, nn] at this
      exact this

theorem pick_list (items : Array Value) (lo hi : Option Int) : (slicePick items lo hi none).toList = sl items.toList lo hi := by
  have hb := clip_le (n := items.toList.length) (o := hi) (Nat.le_refl items.toList.length)
  have hk := range_take items.toList (clip items.toList.length lo 0) (clip items.toList.length hi items.toList.length) hb
  have e : sliceRange (sliceBounds lo hi none items.size).1 (sliceBounds lo hi none items.size).2.1 (sliceBounds lo hi none items.size).2.2 = Builtin.Str.strSliceIndices lo hi 1 items.size := by
    cases lo <;> cases hi <;> rfl
  unfold slicePick sl
  rw [e, ← hk, str_idx, Array.length_toList]
  simp

theorem txt_slice (l : List Nat) (lo hi : Option Int) : Txt.slice (strOf l) lo hi = strOf (sl l lo hi) := by
  have hb := clip_le (n := l.length) (o := hi) (Nat.le_refl l.length)
  have hb0 := clip_le (n := l.length) (o := lo) (Nat.zero_le l.length)
  have hk := range_take l (clip l.length lo 0) (clip l.length hi l.length) hb
  have hk' : ((List.range (clip l.length hi l.length - clip l.length lo 0)).map (clip l.length lo 0 + ·)).filterMap ((strOf l).cps[·]?) = sl l lo hi := by
    unfold sl
    rw [← hk]
    simp [strOf]
  unfold Txt.slice
  rw [strOf_len, str_idx]
  split
  · rename_i hc
    have hc := (Bool.and_eq_true_iff.mp hc).2
    simp only [List.length_map, List.length_range, beq_iff_eq] at hc
    have hz : clip l.length lo 0 = 0 := by omega
    unfold sl
    rw [hc, hz]
    simp
  · rw [hk']; rfl
end
end Mine
end partW3

section partW4
open PySem PySem.W PyProof.Rows
open PySem.MeetsSeq PySem.SeqRoads2 PySem.SeqAt
set_option maxRecDepth 100000
set_option linter.unusedVariables false
namespace Mine
section
variable {W : Wd} {c : Fc} {a : AS}

/-- a slice's bound -/
noncomputable def EvP (W : Wd) (c : Fc) (a : AS) : Option Expr → Option Int → Prop
  | none, z => z = none
  | some e, z => ∃ i, z = some i ∧ Ev W c a e (.int i)
theorem evP_none : EvP W c a none none := rfl
theorem evP_some {e i} (h : Ev W c a e (.int i)) : EvP W c a (some e) (some i) := ⟨i, rfl, h⟩

theorem part_run {o : Option Expr} {z : Option Int} (hp : EvP W c a o z) {X : Addr → Prop} {s : Shared} (x : St W c X a s) {Q : Value → Shared → Prop} {E : Value → Shared → Prop}
    (h : ∀ v s', Kp s s' → IsPart v z → Q v s') : wpAny W.M c.A (evalPart o c.env) Q E s := by
  cases o with
  | none =>
    simp only [EvP] at hp
    subst hp
    rw [evalPart_none]
    exact wpAny_pure (h _ _ (Kp.rfl' _) .none)
  | some e =>
    obtain ⟨i, rfl, he⟩ := hp
    rw [evalPart_some]
    refine he.go X s x _ _ fun v s' k r => ?_
    simp only [Rep] at r
    obtain ⟨t, rfl⟩ := r
    exact h _ _ k (.int i t)

theorem ev_slice_str {value : Expr} {lower upper : Option Expr} {p pos : Pos} {l : List Nat} {lo hi : Option Int} (hv : Ev W c a value (.str l)) (hlo : EvP W c a lower lo) (hhi : EvP W c a upper hi) (hl : l.length ≤ sizeLine) :
    Ev W c a (.Subscript value (.Slice lower upper none p) pos) (.str (sl l lo hi)) := .mk fun X s x Q E h => by
  refine sub_rule (hv.go X s x _ _ fun u s₁ k₁ r₁ => wpAny_Slice (part_run hlo (x.keeps k₁) fun v s₂ k₂ i₂ => part_run hhi (x.keeps (k₁.tr k₂)) fun y s₃ k₃ i₃ => ?_))
  rw [evalPart_none]
  refine wpAny_pure ?_
  simp only [Rep] at r₁
  obtain ⟨t, rfl⟩ := r₁
  have fin : ∀ h' t' k, (∀ b o, s₃.heap.get? b = some o → h'.get? b = some o) → Q (.str (Txt.slice (strOf l) lo hi) t') { s₃ with heap := h', toks := k } := fun h' t' k hk => by
    rw [txt_slice]
    refine h _ _ (((k₁.tr k₂).tr k₃).tr ⟨h', k, rfl, hk⟩) ?_
    simp only [Rep]; exact ⟨_, rfl⟩
  have hK : KeptH fun h' => ∀ b o, s₃.heap.get? b = some o → h'.get? b = some o := fun h ob hh b o e => Heap.get?_push_of_some _ (hh b o e)
  cases i₂ <;> cases i₃
  · exact SBH.sliceItem_nn hK (fun _ _ e => e) fin (by rw [strOf_len]; exact hl)
  · exact SBH.sliceItem_ns hK (fun _ _ e => e) fin (by rw [strOf_len]; exact hl)
  · exact SBH.sliceItem_sn hK (fun _ _ e => e) fin (by rw [strOf_len]; exact hl)
  · exact SBH.sliceItem_ss hK (fun _ _ e => e) fin (by rw [strOf_len]; exact hl)

theorem RepL.sl {h : Heap} {X : Addr → Prop} {ps : List PV} {vs : List Value} (x : RepL h X ps vs) (lo hi : Option Int) : RepL h X (Mine.sl ps lo hi) (Mine.sl vs lo hi) := by
  unfold Mine.sl
  rw [x.length]
  exact (x.drop _).take _

theorem ev_slice_lst {value : Expr} {lower upper : Option Expr} {p pos : Pos} {l : List PV} {lo hi : Option Int} (hv : Ev W c a value (.lst l)) (hlo : EvP W c a lower lo) (hhi : EvP W c a upper hi) (hl : l.length ≤ sizeLine) :
    Ev W c a (.Subscript value (.Slice lower upper none p) pos) (.lst (sl l lo hi)) := .mk fun X s x Q E h => by
  refine sub_rule (hv.go X s x _ _ fun u s₁ k₁ r₁ => wpAny_Slice (part_run hlo (x.keeps k₁) fun v s₂ k₂ i₂ => part_run hhi (x.keeps (k₁.tr k₂)) fun y s₃ k₃ i₃ => ?_))
  rw [evalPart_none]
  refine wpAny_pure ?_
  have r := r₁.keeps (k₂.tr k₃)
  simp only [Rep] at r
  obtain ⟨b, xs, rfl, hx, hl', rl⟩ := r
  have e : xs.size = l.length := by rw [rl.length, Array.length_toList]
  refine ⟨"list", _, slot_list_getitem.lookup, (hl'.isList.push _).typeIs, wpAny_getItem_list_slice (hl'.isList.push _) (Heap.IsSliceOf.new ..) i₂ i₃ .none (by simp) ?_ (by rw [e]; exact hl)⟩
  have kk : Kp s₃ { s₃ with heap := (s₃.heap.push { cls := .type "slice", data := .fields #[v, y, .none] }).push { cls := .type "list", data := .seq (slicePick xs lo hi none) } } :=
    ⟨_, s₃.toks, rfl, fun _ _ e => Heap.get?_push_of_some _ (Heap.get?_push_of_some _ e)⟩
  refine h _ _ (((k₁.tr k₂).tr k₃).tr kk) ?_
  simp only [Rep]
  refine ⟨_, _, rfl, ?_, ⟨_, _, Heap.get?_push_size _ rfl, rfl, rfl, rfl⟩, ?_⟩
  · intro z
    exact fresh_not (x.keeps (((k₁.tr k₂).tr k₃).tr (kp_heap (o := { cls := .type "slice", data := .fields #[v, y, .none] })))).yd z
  · rw [pick_list]
    exact (rl.sl lo hi).keeps kk

theorem cmp_eq {i j : Int} : CmpR W .Eq (.int i) (.int j) (decide (i = j)) := .mk fun A s X u v hd rm g x y Q E h => by
  simp only [Rep] at x y; obtain ⟨t, rfl⟩ := x; obtain ⟨t', rfl⟩ := y
  have e : (i == j) = decide (i = j) := rfl
  exact PyProof.Rows.eq_int (e ▸ h s (Kp.rfl' _))
theorem cmp_ne {i j : Int} : CmpR W .NotEq (.int i) (.int j) (decide (i ≠ j)) := .mk fun A s X u v hd rm g x y Q E h => by
  simp only [Rep] at x y; obtain ⟨t, rfl⟩ := x; obtain ⟨t', rfl⟩ := y
  have e : (i != j) = decide (i ≠ j) := by by_cases hij : i = j <;> simp [hij, bne]
  exact P.ne_int (e ▸ h s (Kp.rfl' _))
theorem cmp_lt {i j : Int} : CmpR W .Lt (.int i) (.int j) (decide (i < j)) := .mk fun A s X u v hd rm g x y Q E h => by
  simp only [Rep] at x y; obtain ⟨t, rfl⟩ := x; obtain ⟨t', rfl⟩ := y
  exact P.lt_int (h s (Kp.rfl' _))
theorem cmp_le {i j : Int} : CmpR W .LtE (.int i) (.int j) (decide (i ≤ j)) := .mk fun A s X u v hd rm g x y Q E h => by
  simp only [Rep] at x y; obtain ⟨t, rfl⟩ := x; obtain ⟨t', rfl⟩ := y
  exact P.le_int (h s (Kp.rfl' _))
theorem cmp_gt {i j : Int} : CmpR W .Gt (.int i) (.int j) (decide (j < i)) := .mk fun A s X u v hd rm g x y Q E h => by
  simp only [Rep] at x y; obtain ⟨t, rfl⟩ := x; obtain ⟨t', rfl⟩ := y
  exact P.gt_int (h s (Kp.rfl' _))
theorem cmp_ge {i j : Int} : CmpR W .GtE (.int i) (.int j) (decide (j ≤ i)) := .mk fun A s X u v hd rm g x y Q E h => by
  simp only [Rep] at x y; obtain ⟨t, rfl⟩ := x; obtain ⟨t', rfl⟩ := y
  exact P.ge_int (h s (Kp.rfl' _))
theorem cmp_eqs {i j : List Nat} : CmpR W .Eq (.str i) (.str j) (decide (i = j)) := .mk fun A s X u v hd rm g x y Q E h => by
  simp only [Rep] at x y; obtain ⟨t, rfl⟩ := x; obtain ⟨t', rfl⟩ := y
  refine P.eq_str ?_
  have e : ((strOf i).cps.toList == (strOf j).cps.toList) = decide (i = j) := by
    by_cases hij : i = j <;> simp [hij, strOf]
  exact e ▸ h s (Kp.rfl' _)

theorem cmp_is {p : PV} (hp : p.flat = true) (hn : p ≠ .none) (hr : ∀ v, p ≠ .raw v) : CmpR W .Is p .none false := .mk fun A s X u v hd rm g x y Q E h => by
  cases p with
  | none => exact absurd rfl hn
  | bool b => simp only [Rep] at x y; subst x y; exact is_none_ne (by intro e; cases e) (h s (Kp.rfl' _))
  | int i => simp only [Rep] at x y; obtain ⟨t, rfl⟩ := x; subst y; exact is_int_none (h s (Kp.rfl' _))
  | str l => simp only [Rep] at x y; obtain ⟨t, rfl⟩ := x; subst y; exact is_str_none (h s (Kp.rfl' _))
  | tup l => cases hp
  | lst l => cases hp
  | raw v => exact absurd rfl (hr v)

/-- two values' equality, where both are ints or both are strs -/
noncomputable def PV.eqb : PV → PV → Bool
  | .int i, .int j => i == j
  | .str i, .str j => i == j
  | _, _ => false
noncomputable def PV.same : PV → PV → Bool
  | .int _, .int _ => true
  | .str _, .str _ => true
  | _, _ => false
theorem eqAt_of {A : Around} {s : Shared} {X : Addr → Prop} : ∀ {p q : PV} {u v : Value}, p.same q = true → Rep s.heap X p u → Rep s.heap X q v → EqAt A s u v (p.eqb q)
  | .int i, .int j, u, v, _, x, y => by
    simp only [Rep] at x y; obtain ⟨t, rfl⟩ := x; obtain ⟨t', rfl⟩ := y
    exact (EqGives.int i j t t').at A s
  | .str i, .str j, u, v, _, x, y => by
    simp only [Rep] at x y; obtain ⟨t, rfl⟩ := x; obtain ⟨t', rfl⟩ := y
    have := (EqGives.str (strOf i) (strOf j) t t').at A s
    have e : ((strOf i).cps.toList == (strOf j).cps.toList) = PV.eqb (.str i) (.str j) := by simp [strOf, PV.eqb]
    exact e ▸ this
  | .none, _, _, _, h, _, _ => by cases h
  | .bool _, _, _, _, h, _, _ => by cases h
  | .tup _, _, _, _, h, _, _ => by cases h
  | .lst _, _, _, _, h, _, _ => by cases h
  | .raw _, _, _, _, h, _, _ => by cases h
  | .int _, .none, _, _, h, _, _ => by cases h
  | .int _, .bool _, _, _, h, _, _ => by cases h
  | .int _, .str _, _, _, h, _, _ => by cases h
  | .int _, .tup _, _, _, h, _, _ => by cases h
  | .int _, .lst _, _, _, h, _, _ => by cases h
  | .int _, .raw _, _, _, h, _, _ => by cases h
  | .str _, .none, _, _, h, _, _ => by cases h
  | .str _, .bool _, _, _, h, _, _ => by cases h
  | .str _, .int _, _, _, h, _, _ => by cases h
  | .str _, .tup _, _, _, h, _, _ => by cases h
  | .str _, .lst _, _, _, h, _, _ => by cases h
  | .str _, .raw _, _, _, h, _, _ => by cases h

noncomputable def eqbL : List PV → List PV → Bool
  | [], [] => true
  | p :: ps, q :: qs => p.eqb q && eqbL ps qs
  | _, _ => false

theorem eqbL_range : ∀ (ps qs : List PV), ps.length = qs.length → (List.range ps.length).all (fun j => (ps.getD j .none).eqb (qs.getD j .none)) = eqbL ps qs
  | [], [], _ => rfl
  | p :: ps, q :: qs, h => by
    simp only [List.length_cons, List.range_succ_eq_map, List.all_cons, List.all_map, eqbL]
    rw [← eqbL_range ps qs (by simpa using h)]
    rfl
  | [], _ :: _, h => by simp at h
  | _ :: _, [], h => by simp at h

theorem eqbL_ne : ∀ (ps qs : List PV), ps.length ≠ qs.length → eqbL ps qs = false
  | [], [], h => by simp at h
  | p :: ps, q :: qs, h => by simp only [eqbL]; rw [eqbL_ne ps qs (by simpa using h)]; simp
  | [], _ :: _, h => rfl
  | _ :: _, [], h => rfl

theorem cmp_eql {ps qs : List PV} (hs : ∀ p ∈ ps, ∀ q ∈ qs, p.same q = true) : CmpR W .Eq (.lst ps) (.lst qs) (eqbL ps qs) := .mk fun A s X u v hd rm g x y Q E h => by
  simp only [Rep] at x y
  obtain ⟨l, xs, rfl, hxl, hl, rl⟩ := x
  obtain ⟨b', ys, rfl, hxb, hb, rb⟩ := y
  have hu : A.units < cLine := by have := rm.2; omega
  have e1 : xs.size = ps.length := by rw [rl.length, Array.length_toList]
  have e2 : ys.size = qs.length := by rw [rb.length, Array.length_toList]
  by_cases hlen : ps.length = qs.length
  · refine eq_listAt (e := fun j => (ps.getD j .none).eqb (qs.getD j .none)) hl.isList hb.isList (by omega) hu (fun j h1 h2 => ?_) ?_
    · obtain ⟨p, hp, rp⟩ := rl.get' (i := j) (v := xs[j]) (by simp [h1])
      obtain ⟨q, hq, rq⟩ := rb.get' (i := j) (v := ys[j]) (by simp [h2])
      have e3 : ps.getD j .none = p := by simp [List.getD, hp]
      have e4 : qs.getD j .none = q := by simp [List.getD, hq]
      rw [e3, e4]
      exact eqAt_of (hs p (List.mem_of_getElem? hp) q (List.mem_of_getElem? hq)) rp rq
    · rw [e1, eqbL_range ps qs hlen]
      exact h s (Kp.rfl' _)
  · refine eq_list_lengthsAt hl.isList hb.isList (by simp; omega) hu ?_
    rw [← eqbL_ne ps qs hlen]
    exact h s (Kp.rfl' _)

theorem eqbL_int (l m : List Int) : eqbL (l.map .int) (m.map .int) = decide (l = m) := by
  induction l generalizing m with
  | nil => cases m <;> simp [eqbL]
  | cons x l ih => cases m with
    | nil => simp [eqbL]
    | cons y m =>
      simp only [List.map_cons, eqbL, PV.eqb, ih, List.cons.injEq]
      by_cases h1 : x = y <;> by_cases h2 : l = m <;> simp [h1, h2]
theorem eqbL_str (l m : List (List Nat)) : eqbL (l.map .str) (m.map .str) = decide (l = m) := by
  induction l generalizing m with
  | nil => cases m <;> simp [eqbL]
  | cons x l ih => cases m with
    | nil => simp [eqbL]
    | cons y m =>
      simp only [List.map_cons, eqbL, PV.eqb, ih, List.cons.injEq]
      by_cases h1 : x = y <;> by_cases h2 : l = m <;> simp [h1, h2]

theorem cmp_eqli {l m : List Int} : CmpR W .Eq (.lst (l.map .int)) (.lst (m.map .int)) (decide (l = m)) := by
  rw [← eqbL_int]
  exact cmp_eql fun p hp q hq => by
    obtain ⟨i, _, rfl⟩ := List.mem_map.mp hp
    obtain ⟨j, _, rfl⟩ := List.mem_map.mp hq
    rfl
theorem cmp_eqls {l m : List (List Nat)} : CmpR W .Eq (.lst (l.map .str)) (.lst (m.map .str)) (decide (l = m)) := by
  rw [← eqbL_str]
  exact cmp_eql fun p hp q hq => by
    obtain ⟨i, _, rfl⟩ := List.mem_map.mp hp
    obtain ⟨j, _, rfl⟩ := List.mem_map.mp hq
    rfl

/-- truth of a value -/
noncomputable def PV.truth : PV → Option Bool
  | .none => some false
  | .bool b => some b
  | .int i => some (i != 0)
  | _ => Option.none
theorem evB_plain {e : Expr} {p : PV} {b : Bool} (he : Ev W c a e p) (hb : p.truth = some b)
    (hi : ∀ whole : Sem Value, isTrue e c.env whole = (do let v ← whole; standAt e.pos; holding [v] (truthy v)) := by intro _; rfl) : EvB W c a e b := .mk fun X s x Q E h => by
  refine isTrue_plain (he.go X s x _ _ fun v s₁ k₁ r₁ => ?_) (hi _)
  cases p with
  | none => cases hb; simp only [Rep] at r₁; subst r₁; exact truthy_none (h s₁ k₁)
  | bool b => cases hb; simp only [Rep] at r₁; subst r₁; exact wpAny_truthy_bool (h s₁ k₁)
  | int i => cases hb; simp only [Rep] at r₁; obtain ⟨t, rfl⟩ := r₁; exact PyProof.Rows.truthy_int (h s₁ k₁)
  | str l => cases hb
  | tup l => cases hb
  | lst l => cases hb
  | raw l => cases hb

theorem evB_and2 {x y : Expr} {pos : Pos} {b b' : Bool} (hx : EvB W c a x b) (hy : b = true → EvB W c a y b') : EvB W c a (.BoolOp .And [x, y] pos) (b && b') := .mk fun X s st Q E h => by
  have e : isTrue (.BoolOp .And [x, y] pos) c.env (eval (.BoolOp .And [x, y] pos) c.env) = (do
      match BoolOp.And, ← isTrue x c.env (eval x c.env) with
      | .And, false => pure false
      | .Or, true => pure true
      | _, _ => (do match BoolOp.And, ← isTrue y c.env (eval y c.env) with
        | .And, false => pure false
        | .Or, true => pure true
        | _, _ => pure (BoolOp.And == BoolOp.And))) := rfl
  rw [e]
  refine wpAny_bind (hx.go X s st _ _ fun s₁ k₁ => ?_)
  cases b with
  | false => exact wpAny_pure (h s₁ k₁)
  | true =>
    refine wpAny_bind ((hy rfl).go X s₁ (st.keeps k₁) _ _ fun s₂ k₂ => ?_)
    cases b' with
    | false => exact wpAny_pure (h s₂ (k₁.tr k₂))
    | true => exact wpAny_pure (h s₂ (k₁.tr k₂))
theorem evB_or2 {x y : Expr} {pos : Pos} {b b' : Bool} (hx : EvB W c a x b) (hy : b = false → EvB W c a y b') : EvB W c a (.BoolOp .Or [x, y] pos) (b || b') := .mk fun X s st Q E h => by
  have e : isTrue (.BoolOp .Or [x, y] pos) c.env (eval (.BoolOp .Or [x, y] pos) c.env) = (do
      match BoolOp.Or, ← isTrue x c.env (eval x c.env) with
      | .And, false => pure false
      | .Or, true => pure true
      | _, _ => (do match BoolOp.Or, ← isTrue y c.env (eval y c.env) with
        | .And, false => pure false
        | .Or, true => pure true
        | _, _ => pure (BoolOp.Or == BoolOp.And))) := rfl
  rw [e]
  refine wpAny_bind (hx.go X s st _ _ fun s₁ k₁ => ?_)
  cases b with
  | true => exact wpAny_pure (h s₁ k₁)
  | false =>
    refine wpAny_bind ((hy rfl).go X s₁ (st.keeps k₁) _ _ fun s₂ k₂ => ?_)
    cases b' with
    | false => exact wpAny_pure (h s₂ (k₁.tr k₂))
    | true => exact wpAny_pure (h s₂ (k₁.tr k₂))

/-- the value of a chain of ands, all of them true -/
theorem ev_and3 {x y z : Expr} {pos : Pos} (hx : Ev W c a x (.bool true)) (hy : Ev W c a y (.bool true)) (hz : Ev W c a z (.bool true)) : Ev W c a (.BoolOp .And [x, y, z] pos) (.bool true) := .mk fun X s st Q E h => by
  rw [arm_eval_BoolOp]
  have e : evalEach [x, y, z] c.env = [eval x c.env, eval y c.env, eval z c.env] := rfl
  rw [e]
  unfold boolOp
  refine wpAny_bind (hx.go X s st _ _ fun v s₁ k₁ r₁ => ?_)
  simp only [Rep] at r₁; subst r₁
  refine wpAny_bind (wpAny_standAt (wpAny_bind (wpAny_holding (wpAny_truthy_bool ?_))))
  show wpAny _ _ (boolOp pos .And [eval y c.env, eval z c.env]) Q E s₁
  unfold boolOp
  refine wpAny_bind (hy.go X s₁ (st.keeps k₁) _ _ fun v s₂ k₂ r₂ => ?_)
  simp only [Rep] at r₂; subst r₂
  refine wpAny_bind (wpAny_standAt (wpAny_bind (wpAny_holding (wpAny_truthy_bool ?_))))
  show wpAny _ _ (boolOp pos .And [eval z c.env]) Q E s₂
  unfold boolOp
  exact hz.go X s₂ (st.keeps (k₁.tr k₂)) _ _ fun v s₃ k₃ r₃ => h v s₃ ((k₁.tr k₂).tr k₃) r₃
end
end Mine
end partW4

section partW5
open PySem PySem.W PyProof.Rows
set_option maxRecDepth 100000
set_option linter.unusedVariables false
namespace Mine

/-- one of the frame's own addresses has changed, all else stands -/
theorem St.change {W : Wd} {c : Fc} {X : Addr → Prop} {a a' : AS} {s : Shared} {b₀ : Addr} {h' : Heap} {tk : Nat} (x : St W c X a s) (hb : X b₀) (hs : Heap.ExtBut b₀ s.heap h') (hex : (h'.get? b₀).isSome = true)
    (hnew : ∀ o, c.s₀.heap.get? b₀ = some o → False) (hv : Vars c X a' h') (hσ : ∀ q ∈ a'.σ, Mine' c X q.1 ∧ ∃ xs, PlainL h' q.1 xs ∧ RepL h' X q.2 xs.toList) (hd : (a'.σ.map (·.1)).Nodup)
    (hK : ∀ q ∈ a'.K, q ∈ a.K ∧ q.1 ≠ b₀ ∧ q.1 ∉ a'.σ.map (·.1)) : St W c X a' { s with heap := h', toks := tk } := by
  obtain ⟨h, t, he⟩ := x.same
  refine ⟨x.ok, ⟨h', tk, by rw [he]⟩, fun b o e => ?_, hv, x.xl, x.xc, x.x0, hσ, hd, fun q hq => ?_, fun b z => ?_⟩
  · by_cases hbb : b = b₀
    · subst hbb; exact (hnew o e).elim
    · exact hs b o hbb (x.keep b o e)
  · obtain ⟨h1, h2⟩ := hK q hq
    obtain ⟨k1, k3⟩ := x.kk q h1
    exact ⟨⟨k1.1, h2.2⟩, hs _ _ h2.1 k3⟩
  · by_cases hbb : b = b₀
    · subst hbb; exact hex
    · obtain ⟨o, e⟩ := Option.isSome_iff_exists.mp (x.xd b z)
      show (h'.get? b).isSome = true
      rw [hs b o hbb e]; rfl

theorem Rep.but {h h' : Heap} {X : Addr → Prop} {b₀ : Addr} (hb : X b₀) (hs : Heap.ExtBut b₀ h h') {p : PV} {v : Value} (x : Rep h X p v) : Rep h' X p v :=
  x.mono (fun b o hx e => hs b o (fun e' => hx (e' ▸ hb)) e) fun b z _ => z
theorem RepL.but {h h' : Heap} {X : Addr → Prop} {b₀ : Addr} (hb : X b₀) (hs : Heap.ExtBut b₀ h h') {p : List PV} {v : List Value} (x : RepL h X p v) : RepL h' X p v :=
  x.mono (fun b o hx e => hs b o (fun e' => hx (e' ▸ hb)) e) fun b z _ => z

theorem plainL_but {h h' : Heap} {b₀ b : Addr} {xs : Array Value} (hs : Heap.ExtBut b₀ h h') (hne : b ≠ b₀) (x : PlainL h b xs) : PlainL h' b xs := by
  obtain ⟨o, n, e, r⟩ := x; exact ⟨o, n, hs b o hne e, r⟩

section
variable {W : Wd} {c : Fc} {a : AS}

/-- what a store wants of its frame -/
structure Fc.Sto (c : Fc) (x : Str) : Prop where
  lf : c.s₀.heap.get? c.env.locals = none
  lc : ∀ n d, c.env.cells.lookup n = some d → d ≠ c.env.locals
  cx : ∀ n d d', c.env.cells.lookup x = some d → c.env.cells.lookup n = some d' → n ≠ x → d' ≠ d
  cf : ∀ d, c.env.kindOf x = some .cell → c.env.cells.lookup x = some d → c.s₀.heap.get? d = none
theorem Fc.Fr.sto {c : Fc} (hf : c.Fr) (x : Str) : c.Sto x :=
  ⟨by
    cases hg : c.s₀.heap.get? c.env.locals with
    | none => rfl
    | some o => exact absurd (Heap.lt_size hg) (Nat.not_lt.mpr hf.fresh), fun n d e => Nat.ne_of_gt (hf.above n d (mem_of_lookup e)), fun n d d' h h' hne e => hne (name_of_addr hf.apart (mem_of_lookup h') (mem_of_lookup (e ▸ h))), fun d _ e => by
    cases hg : c.s₀.heap.get? d with
    | none => rfl
    | some o => exact absurd (Heap.lt_size hg) (Nat.not_lt.mpr (Nat.le_of_lt (Nat.lt_of_le_of_lt hf.fresh (hf.above x d (mem_of_lookup e)))))⟩

theorem store_name {x : Str} {p : PV} {ρ' : List (Option PV)} {X : Addr → Prop} {s : Shared} {v : Value} (x₁ : St W c X a s) (hf : c.Sto x) (hx : Put c.N a.ρ x p ρ') (hv : Rep s.heap X p v)
    {Q : Unit → Shared → Prop} {E : Value → Shared → Prop} (h : ∀ s', St W c X { a with ρ := ρ' } s' → (∀ b o, b ≠ c.env.locals → (∀ d, c.env.kindOf x = some .cell → c.env.cells.lookup x = some d → b ≠ d) → s.heap.get? b = some o → s'.heap.get? b = some o) → Q () s') : wpAny W.M c.A (storeName c.env x v) Q E s := by
  obtain ⟨m, cm, hn, hc, hvs⟩ := x₁.vars.ex
  rcases x₁.ok.nm x hx.mem with hl | ⟨hl, hl'⟩
  · refine wpAny_storeName_local hl hn (fun h' hn' hs => h _ ?_ (fun b o h1 _ e => hs.extBut b o h1 e)) (by rw [x₁.ok.fn]; rfl)
    refine x₁.change x₁.xl hs.extBut ?_ ?_ ?_ ?_ x₁.ownd ?_
    · obtain ⟨o, _, _, ho, _⟩ := hn'; rw [ho]; rfl
    · intro o e; rw [hf.lf] at e; cases e
    · refine ⟨_, cm, hn', fun n d e => (hc n d e).sameBut hs (hf.lc n d e), fun y q hy => ?_⟩
      rcases hx.at x₁.ok.nd hy with ⟨rfl, rfl⟩ | ⟨hne, hy'⟩
      · refine ⟨v, fun _ => by simp, fun hk => ?_, hv.but x₁.xl hs.extBut⟩
        rw [hl] at hk; cases hk
      · obtain ⟨u, h1, h2, h3⟩ := hvs y q hy'
        exact ⟨u, fun hk => by simp only [if_neg hne]; exact h1 hk, h2, h3.but x₁.xl hs.extBut⟩
    · intro q hq
      obtain ⟨h1, xs, h2, h3⟩ := x₁.own q hq
      exact ⟨h1, xs, plainL_but hs.extBut h1.l h2, h3.but x₁.xl hs.extBut⟩
    · intro q hq
      obtain ⟨h1, h3⟩ := x₁.kk q hq
      exact ⟨hq, h1.1.l, h1.2⟩
  · obtain ⟨d, hd⟩ := Option.isSome_iff_exists.mp hl'
    refine wpAny_storeName_cell x₁.ok.fn hl hd (hc x d hd) fun h' hc' hs => h _ ?_ (fun b o _ h1 e => hs.extBut b o (h1 d hl hd) e)
    refine x₁.change (x₁.xc x d hd) hs.extBut ?_ ?_ ?_ ?_ x₁.ownd ?_
    · obtain ⟨o, ho, _⟩ := hc'; rw [ho]; rfl
    · intro o e; rw [hf.cf d hl hd] at e; cases e
    · refine ⟨m, fun y => if y = x then some v else cm y, hn.sameBut hs (Ne.symm (hf.lc x d hd)), fun n d' e => ?_, fun y q hy => ?_⟩
      · by_cases hnx : n = x
        · subst hnx; rw [hd] at e; cases e; simpa using hc'
        · simp only [if_neg hnx]
          exact (hc n d' e).sameBut hs (hf.cx n d d' hd e hnx)
      · rcases hx.at x₁.ok.nd hy with ⟨rfl, rfl⟩ | ⟨hne, hy'⟩
        · refine ⟨v, fun hk => ?_, fun _ => by simp, hv.but (x₁.xc _ d hd) hs.extBut⟩
          rw [hl] at hk; cases hk
        · obtain ⟨u, h1, h2, h3⟩ := hvs y q hy'
          exact ⟨u, h1, fun hk => by simp only [if_neg hne]; exact h2 hk, h3.but (x₁.xc _ d hd) hs.extBut⟩
    · intro q hq
      obtain ⟨h1, xs, h2, h3⟩ := x₁.own q hq
      exact ⟨h1, xs, plainL_but hs.extBut (h1.cl x d hd) h2, h3.but (x₁.xc x d hd) hs.extBut⟩
    · intro q hq
      obtain ⟨h1, h3⟩ := x₁.kk q hq
      exact ⟨hq, h1.1.cl x d hd, h1.2⟩

/-- the frame's own list at an address, exchanged -/
inductive OPut : List (Addr × List PV) → Addr → List PV → List PV → List (Addr × List PV) → Prop
  | here {b l l' σ} : OPut ((b, l) :: σ) b l l' ((b, l') :: σ)
  | there {b l l' σ σ' q} : OPut σ b l l' σ' → OPut (q :: σ) b l l' (q :: σ')
theorem OPut.mem {σ b l l' σ'} (h : OPut σ b l l' σ') : (b, l) ∈ σ := by
  induction h with
  | here => exact List.mem_cons_self
  | there _ ih => exact List.mem_cons_of_mem _ ih
theorem OPut.keys {σ b l l' σ'} (h : OPut σ b l l' σ') : σ'.map (·.1) = σ.map (·.1) := by
  induction h with
  | here => rfl
  | there _ ih => simp [ih]
theorem OPut.of {σ b l l' σ'} (h : OPut σ b l l' σ') (nd : (σ.map (·.1)).Nodup) {q : Addr × List PV} (hq : q ∈ σ') : q = (b, l') ∨ (q ∈ σ ∧ q.1 ≠ b) := by
  induction h with
  | here =>
    rcases List.mem_cons.mp hq with e | hq
    · exact .inl e
    · exact .inr ⟨List.mem_cons_of_mem _ hq, fun e => (List.nodup_cons.mp nd).1 (List.mem_map.mpr ⟨q, hq, e⟩)⟩
  | there h ih =>
    rcases List.mem_cons.mp hq with e | hq
    · subst e; exact .inr ⟨List.mem_cons_self, fun e => (List.nodup_cons.mp nd).1 (List.mem_map.mpr ⟨_, h.mem, e.symm⟩)⟩
    · rcases ih (List.nodup_cons.mp nd).2 hq with e | ⟨h1, h2⟩
      · exact .inl e
      · exact .inr ⟨List.mem_cons_of_mem _ h1, h2⟩

/-- all but one address is kept -/
noncomputable def Kp1 (b : Addr) (s s' : Shared) : Prop := (∃ h tk, s' = { s with heap := h, toks := tk }) ∧ ∀ b' o, b' ≠ b → s.heap.get? b' = some o → s'.heap.get? b' = some o

theorem append_own {X : Addr → Prop} {s : Shared} {b : Addr} {l : List PV} {p : PV} {v : Value} {σ' : List (Addr × List PV)} (x₁ : St W c X a s) (hl : OPut a.σ b l (l ++ [p]) σ') (hv : Rep s.heap X p v) (hsz : l.length ≤ sizeLine)
    {Q : Value → Shared → Prop} {E : Value → Shared → Prop} (h : ∀ s', St W c X { a with σ := σ' } s' → Kp1 b s s' → Q .none s')
    (hnew : c.s₀.heap.get? b = none) : wpAny W.M c.A (call (.builtin "list.append") [.ref b, v]) Q E s := by
  obtain ⟨hm, xs, hp, hr⟩ := x₁.own _ hl.mem
  have e : xs.size = l.length := by rw [hr.length, Array.length_toList]
  refine list_append_plainL hp (fun h' hp' hs => h _ ?_ ⟨⟨h', s.toks, rfl⟩, fun b' o h1 e => hs.extBut b' o h1 e⟩) (by rw [e]; exact hsz)
  obtain ⟨m, cm, hn, hc, hvs⟩ := x₁.vars.ex
  refine x₁.change (a' := { a with σ := σ' }) (tk := s.toks) hm.x hs.extBut ?_ (fun o e => by rw [hnew] at e; cases e) ⟨m, cm, hn.sameBut hs (Ne.symm hm.l), fun n d e => (hc n d e).sameBut hs (Ne.symm (hm.cl n d e)), fun y q hy => ?_⟩ ?_ ?_ ?_
  · obtain ⟨o, _, ho, _⟩ := hp'; rw [ho]; rfl
  · obtain ⟨u, h1, h2, h3⟩ := hvs y q hy
    exact ⟨u, h1, h2, h3.but hm.x hs.extBut⟩
  · intro q hq
    rcases hl.of x₁.ownd hq with rfl | ⟨h1, h2⟩
    · refine ⟨hm, _, hp', ?_⟩
      rw [Array.toList_push]
      exact (hr.but hm.x hs.extBut).append (by simp only [RepL, and_true]; exact hv.but hm.x hs.extBut)
    · obtain ⟨k1, ys, k2, k3⟩ := x₁.own _ h1
      exact ⟨k1, ys, plainL_but hs.extBut h2 k2, k3.but hm.x hs.extBut⟩
  · show (σ'.map (·.1)).Nodup
    rw [hl.keys]; exact x₁.ownd
  · intro q hq
    obtain ⟨⟨k3, k4⟩, k2⟩ := x₁.kk q hq
    refine ⟨hq, fun e => k4 (List.mem_map.mpr ⟨_, hl.mem, e.symm⟩), ?_⟩
    show q.1 ∉ σ'.map (·.1)
    rw [hl.keys]; exact k4

/-- a fresh object joins what is the frame's own -/
theorem St.grow {W : Wd} {c : Fc} {X : Addr → Prop} {a : AS} {s : Shared} (x : St W c X a s) (o : Obj) (σ : List (Addr × List PV)) (K : List (Addr × Obj)) (tk : Nat)
    (hσ : σ = a.σ ∨ (σ = (s.heap.objs.size, []) :: a.σ ∧ o = { cls := .type "list", data := .seq #[] })) (hK : K = a.K ∨ K = (s.heap.objs.size, o) :: a.K) (hn : o.isFreed = false) (hboth : σ = a.σ ∨ K = a.K) :
    St W c (fun b => X b ∨ b = s.heap.objs.size) { a with σ := σ, K := K } { s with heap := s.heap.push o, toks := tk } := by
  have new : s.heap.get? s.heap.objs.size = none := by
    cases e : s.heap.get? s.heap.objs.size with
    | none => rfl
    | some o => exact absurd (Heap.lt_size e) (Nat.lt_irrefl _)
  have ne : ∀ b o', s.heap.get? b = some o' → b ≠ s.heap.objs.size := fun b o' e => Nat.ne_of_lt (Heap.lt_size e)
  have hmono : ∀ {p : PV} {v : Value}, Rep s.heap X p v → Rep (s.heap.push o) (fun b => X b ∨ b = s.heap.objs.size) p v := fun r =>
    r.mono (fun b o' _ e => Heap.get?_push_of_some _ e) fun b z hz => by
      rcases z with z | z
      · exact z
      · subst z; rw [new] at hz; cases hz
  have hmonoL : ∀ {p : List PV} {v : List Value}, RepL s.heap X p v → RepL (s.heap.push o) (fun b => X b ∨ b = s.heap.objs.size) p v := fun r =>
    r.mono (fun b o' _ e => Heap.get?_push_of_some _ e) fun b z hz => by
      rcases z with z | z
      · exact z
      · subst z; rw [new] at hz; cases hz
  obtain ⟨m, cm, hns, hc, hv⟩ := x.vars.ex
  obtain ⟨h, t, hs⟩ := x.same
  have hmine : Mine' c (fun b => X b ∨ b = s.heap.objs.size) s.heap.objs.size := ⟨.inr rfl, fun e => Nat.ne_of_gt hns.lt e, fun n d e he => by
      have := (hc n d e).lt
      exact absurd (he ▸ this) (Nat.lt_irrefl _), fun _ => by
      cases e : c.s₀.heap.get? s.heap.objs.size with
      | none => rfl
      | some o' => have := x.keep _ _ e; rw [new] at this; cases this⟩
  have hold : ∀ b, Mine' c X b → Mine' c (fun b => X b ∨ b = s.heap.objs.size) b := fun b hb => ⟨.inl hb.x, hb.l, hb.cl, hb.new⟩
  have ownne : ∀ q ∈ a.σ, q.1 ≠ s.heap.objs.size := fun q hq => by
    obtain ⟨_, _, ⟨o', _, e, _⟩, _⟩ := x.own q hq
    exact ne _ _ e
  refine ⟨x.ok, ⟨_, tk, by rw [hs]⟩, fun b o' e => Heap.get?_push_of_some _ (x.keep b o' e), ⟨m, cm, hns.keeps fun _ _ e => Heap.get?_push_of_some _ e, fun n d e => (hc n d e).keeps fun _ _ e => Heap.get?_push_of_some _ e, fun y p hy => ?_⟩,
    .inl x.xl, fun n d e => .inl (x.xc n d e), fun b z => .inl (x.x0 b z), ?_, ?_, ?_, ?_⟩
  · obtain ⟨v, h1, h2, h3⟩ := hv y p hy
    exact ⟨v, h1, h2, hmono h3⟩
  · intro q hq
    have old : ∀ q ∈ a.σ, Mine' c (fun b => X b ∨ b = s.heap.objs.size) q.1 ∧ ∃ xs, PlainL (s.heap.push o) q.1 xs ∧ RepL (s.heap.push o) (fun b => X b ∨ b = s.heap.objs.size) q.2 xs.toList := fun q hq => by
      obtain ⟨h1, xs, h2, h3⟩ := x.own q hq
      exact ⟨hold _ h1, xs, h2.keeps fun _ _ e => Heap.get?_push_of_some _ e, hmonoL h3⟩
    rcases hσ with rfl | ⟨rfl, rfl⟩
    · exact old q hq
    · rcases List.mem_cons.mp hq with rfl | hq
      · exact ⟨hmine, #[], ⟨_, _, Heap.get?_push_size _ rfl, rfl, rfl, rfl⟩, by simp [RepL]⟩
      · exact old q hq
  · show (σ.map (·.1)).Nodup
    rcases hσ with rfl | ⟨rfl, rfl⟩
    · exact x.ownd
    · refine List.nodup_cons.mpr ⟨fun hm => ?_, x.ownd⟩
      obtain ⟨q, hq, e⟩ := List.mem_map.mp hm
      exact ownne q hq e
  · intro q hq
    have old : ∀ q ∈ a.K, (Mine' c (fun b => X b ∨ b = s.heap.objs.size) q.1 ∧ q.1 ∉ σ.map (·.1)) ∧ (s.heap.push o).get? q.1 = some q.2 := fun q hq => by
      obtain ⟨h1, h2⟩ := x.kk q hq
      refine ⟨⟨hold _ h1.1, ?_⟩, Heap.get?_push_of_some _ h2⟩
      rcases hσ with rfl | ⟨rfl, rfl⟩
      · exact h1.2
      · intro hm
        rcases List.mem_cons.mp hm with e | hm
        · exact ne _ _ h2 e
        · exact h1.2 hm
    rcases hK with rfl | rfl
    · exact old q hq
    · rcases List.mem_cons.mp hq with rfl | hq
      · refine ⟨⟨hmine, ?_⟩, Heap.get?_push_size _ hn⟩
        rcases hσ with rfl | ⟨rfl, rfl⟩
        · intro hm
          obtain ⟨q, hq, e⟩ := List.mem_map.mp hm
          exact ownne q hq e
        · rcases hboth with hb | hb
          · exact absurd hb (by simp)
          · exact absurd hb (by simp)
      · exact old q hq
  · intro b z
    rcases z with z | z
    · obtain ⟨o', e⟩ := Option.isSome_iff_exists.mp (x.xd b z)
      show ((s.heap.push o).get? b).isSome = true
      rw [Heap.get?_push_of_some _ e]; rfl
    · subst z
      show ((s.heap.push o).get? s.heap.objs.size).isSome = true
      rw [Heap.get?_push_size _ hn]; rfl

inductive Out | next (a : AS) | brk (a : AS) | ret (p : PV)

noncomputable def Conf (W : Wd) (c : Fc) : Out → Flow → Shared → Prop
  | .next a, f, s => f = .next ∧ ∃ X, St W c X a s
  | .brk a, f, s => f = .brk ∧ ∃ X, St W c X a s
  | .ret p, f, s => (∃ v, f = .ret v ∧ Rep s.heap c.X₀ p v) ∧ Kp c.s₀ s

noncomputable abbrev Post := Flow → Shared → Prop

structure Run (W : Wd) (c : Fc) (a : AS) (sts : List Stmt) (post : Post) : Prop where
  go : ∀ X s, St W c X a s → ∀ (E : Value → Shared → Prop), wpAny W.M c.A (execs sts c.env) post E s

/-- what is left to do behind a block -/
noncomputable def Then (W : Wd) (c : Fc) (rest : List Stmt) (post : Post) : Post := fun f s =>
  match f with
  | .next => ∀ (E : Value → Shared → Prop), wpAny W.M c.A (execs rest c.env) post E s
  | f => post f s

theorem run_nil {post : Post} (h : ∀ X s, St W c X a s → post .next s) : Run W c a [] post := .mk fun X s x E => wpAny_execs_nil (h X s x)
theorem run_nil_then {rest : List Stmt} {post : Post} (h : Run W c a rest post) : Run W c a [] (Then W c rest post) := run_nil fun X s x E => h.go X s x E
theorem run_mono {sts : List Stmt} {post post' : Post} (h : Run W c a sts post) (hp : ∀ f s, post f s → post' f s) : Run W c a sts post' := .mk fun X s x E => wpAny_mono (h.go X s x E) hp fun _ _ e => e

theorem cons_of {st : Stmt} {rest : List Stmt} {post : Post} {s : Shared} {E : Value → Shared → Prop} (h : wpAny W.M c.A (exec st c.env) (Then W c rest post) E s) : wpAny W.M c.A (execs (st :: rest) c.env) post E s := by
  refine wpAny_execs_cons (wpAny_mono h (fun f s' h' => ?_) fun _ _ e => e)
  cases f with
  | next => exact h' E
  | brk => exact h'
  | cont => exact h'
  | ret v => exact h'

theorem run_assign {x : Str} {pos' pos : Pos} {value : Expr} {rest : List Stmt} {post : Post} {p : PV} {ρ' : List (Option PV)} (hf : c.Fr) (hlo : a.lo = false) (he : Ev W c a value p) (hx : Put c.N a.ρ x p ρ')
    (h : Run W c { a with ρ := ρ' } rest post) (hs : swapsWith value (some (.Name x pos')) pos.line c.env = pure false := by rfl) :
    Run W c a (.Assign [.Name x pos'] value pos :: rest) post := .mk fun X s st E =>
  cons_of (wpAny_Assign_Name (hs := hs) (he.go X s st _ _ fun v s₁ k₁ r₁ => store_name (st.keeps k₁) (hf.sto _) hx (r₁.mono (fun _ _ _ e => e) fun b z _ => ⟨z, fun hl => by rw [hlo] at hl; cases hl⟩) fun s₂ st₂ _ E' => h.go X s₂ st₂ E'))

theorem run_aug {x : Str} {pos' pos : Pos} {op : Operator} {value : Expr} {rest : List Stmt} {post : Post} {p q r : PV} {ρ' : List (Option PV)} (hf : c.Fr) (hlo : a.lo = false) (hx : At c.N a.ρ x p) (he : Ev W c a value q) (ho : InpR W op p q r) (hp : Put c.N a.ρ x r ρ')
    (h : Run W c { a with ρ := ρ' } rest post) : Run W c a (.AugAssign (.Name x pos') op value pos :: rest) post := .mk fun X s st E =>
  cons_of (wpAny_AugAssign_Name (load_name st hx fun old ro => he.go X s st _ _ fun v s₁ k₁ r₁ =>
    ho.go _ s₁ X old v st.ok.hd (st.ok.rm.le (Nat.zero_le _)) (st.keeps k₁).g (ro.keeps k₁) (r₁.mono (fun _ _ _ e => e) fun b z _ => ⟨z, fun hl => by rw [hlo] at hl; cases hl⟩) (st.keeps k₁).xd _ _ fun y s₂ k₂ r₂ =>
      store_name (st.keeps (k₁.tr k₂)) (hf.sto _) hp r₂ fun s₃ st₃ _ E' => h.go X s₃ st₃ E'))

theorem run_if {test : Expr} {body orelse rest : List Stmt} {pos : Pos} {post : Post} {b : Bool} (ht : EvB W c a test b) (h1 : b = true → Run W c a body (Then W c rest post)) (h2 : b = false → Run W c a orelse (Then W c rest post)) :
    Run W c a (.If test body orelse pos :: rest) post := .mk fun X s st E =>
  cons_of (wpAny_If (ht.go X s st _ _ fun s₁ k₁ => by
    cases b with
    | true => exact (h1 rfl).go X s₁ (st.keeps k₁) E
    | false => exact (h2 rfl).go X s₁ (st.keeps k₁) E))

theorem run_ret {e : Expr} {pos : Pos} {rest : List Stmt} {post : Post} {p : PV} (hf : c.Fr) (he : Ev W c a e p) (h : ∀ v s, Rep s.heap c.X₀ p v → Kp c.s₀ s → post (.ret v) s) :
    Run W c a (.Return (some e) pos :: rest) post := .mk fun X s st E =>
  cons_of (wpAny_Return_some (he.go X s st _ _ fun v s₁ k₁ r₁ => h v s₁ (r₁.mono (fun _ _ _ e => e) fun b z hz => ⟨st.x0 b z, fun _ hm => by
    obtain ⟨q, hq, rfl⟩ := List.mem_map.mp hm
    have := (st.own q hq).1.new hf.fr
    have h0 := st.ok.x0 _ z
    rw [this] at h0; cases h0⟩) (by
      obtain ⟨h', t, hs⟩ := (st.keeps k₁).same
      exact ⟨h', t, hs, fun b o e => by have := (st.keeps k₁).keep b o e; rw [hs] at this; exact this⟩)))

theorem run_while {test : Expr} {body : List Stmt} {pos : Pos} {rest : List Stmt} {post : Post} (Inv : Nat → AS → Prop)
    (turn : ∀ n a, Inv n a → ∃ b, EvB W c a test b ∧
      (b = true → Run W c a body (fun f s => match f with
        | .next => ∃ m, m < n ∧ ∃ a' X, Inv m a' ∧ St W c X a' s
        | .cont => ∃ m, m < n ∧ ∃ a' X, Inv m a' ∧ St W c X a' s
        | .brk => ∀ (E : Value → Shared → Prop), wpAny W.M c.A (execs rest c.env) post E s
        | .ret v => post (.ret v) s)) ∧ (b = false → Run W c a rest post))
    (n : Nat) (h : Inv n a) : Run W c a (.While test body [] pos :: rest) post := .mk fun X s st E => by
  refine cons_of (wpAny_While (codeAny_whileLoop (fun n s => ∃ a' X, Inv n a' ∧ St W c X a' s) (fun n s hI => ?_) n ⟨a, X, h, st⟩))
  obtain ⟨a', X', hi, st'⟩ := hI
  obtain ⟨b, hb, h1, h2⟩ := turn n a' hi
  refine hb.go X' s st' _ _ fun s₁ k₁ => ?_
  cases b with
  | true =>
    simp only [if_true]
    refine wpAny_mono ((h1 rfl).go X' s₁ (st'.keeps k₁) _) (fun f s₂ h' => ?_) fun _ _ e => e
    cases f with
    | next => exact h'
    | cont => exact h'
    | brk => exact h'
    | ret v => exact h'
  | false =>
    simp only [Bool.false_eq_true, if_false]
    exact wpAny_execs_nil (show Then W c rest post .next s₁ from fun E' => (h2 rfl).go X' s₁ (st'.keeps k₁) E')
end
end Mine
end partW5

section partW6
open PySem PySem.W PyProof.Rows
open PySem.Calls (docDef)
set_option maxRecDepth 100000
set_option linter.unusedVariables false
namespace Mine

theorem cellsFrom_some (x : Str) : ∀ (names : List (Str × NameKind)) (n : Nat) (acc : List (Str × Addr)), ((acc.lookup x).isSome = true ∨ (x, NameKind.cell) ∈ names) → ((cellsFrom n names acc).lookup x).isSome = true
  | [], n, acc, h => by
    rcases h with h | h
    · exact h
    · cases h
  | (name, kind) :: r, n, acc, h => by
    unfold cellsFrom
    split
    · refine cellsFrom_some x r _ _ ?_
      rcases h with h | h
      · refine .inl ?_
        rw [List.lookup_cons]
        split <;> simp_all
      · rcases List.mem_cons.mp h with h | h
        · cases h; refine .inl ?_; simp [List.lookup_cons]
        · exact .inr h
    · rename_i hk
      refine cellsFrom_some x r _ _ ?_
      rcases h with h | h
      · exact .inl h
      · rcases List.mem_cons.mp h with h | h
        · cases h; exact absurd rfl hk
        · exact .inr h

theorem bindL_skip (kindOf : Str → Option NameKind) (x : Str) : ∀ (r : List (Str × Value)) (m : Str → Option Value), x ∉ r.map (·.1) → bindL kindOf r m x = m x
  | [], _, _ => rfl
  | (n, v) :: r, m, h => by
    unfold bindL
    rw [bindL_skip kindOf x r _ (fun hh => h (List.mem_cons_of_mem _ hh))]
    split
    · exact if_neg fun e => h (by rw [e]; exact List.mem_cons_self)
    · rfl
theorem bindC_skip (kindOf : Str → Option NameKind) (x : Str) : ∀ (r : List (Str × Value)) (m : Str → Option Value), x ∉ r.map (·.1) → bindC kindOf r m x = m x
  | [], _, _ => rfl
  | (n, v) :: r, m, h => by
    unfold bindC
    rw [bindC_skip kindOf x r _ (fun hh => h (List.mem_cons_of_mem _ hh))]
    split
    · rfl
    · exact if_neg fun e => h (by rw [e]; exact List.mem_cons_self)
theorem bindL_get (kindOf : Str → Option NameKind) (x : Str) (v : Value) (hk : kindOf x = some .local) : ∀ (r : List (Str × Value)) (m : Str → Option Value), (r.map (·.1)).Nodup → (x, v) ∈ r → bindL kindOf r m x = some v
  | (n, u) :: r, m, hd, h => by
    obtain ⟨h1, h2⟩ := List.nodup_cons.mp hd
    unfold bindL
    rcases List.mem_cons.mp h with e | h
    · cases e
      rw [if_pos hk, bindL_skip kindOf _ r _ h1, if_pos rfl]
    · exact bindL_get kindOf x v hk r _ h2 h
theorem bindC_get (kindOf : Str → Option NameKind) (x : Str) (v : Value) (hk : kindOf x ≠ some .local) : ∀ (r : List (Str × Value)) (m : Str → Option Value), (r.map (·.1)).Nodup → (x, v) ∈ r → bindC kindOf r m x = some v
  | (n, u) :: r, m, hd, h => by
    obtain ⟨h1, h2⟩ := List.nodup_cons.mp hd
    unfold bindC
    rcases List.mem_cons.mp h with e | h
    · cases e
      rw [if_neg hk, bindC_skip kindOf _ r _ h1, if_pos rfl]
    · exact bindC_get kindOf x v hk r _ h2 h

theorem at_params {x : Str} {p : PV} : ∀ {P O : List Str} {ps : List PV}, P.length = ps.length → At (P ++ O) (ps.map some ++ O.map fun _ => none) x p → ∃ i : Nat, P[i]? = some x ∧ ps[i]? = some p
  | [], O, [], _, h => by
    exfalso
    have : ∀ (O : List Str), ¬ At O (O.map fun _ => none) x p := by
      intro O
      induction O with
      | nil => intro h; cases h
      | cons y O ih => intro h; cases h with | there h => exact ih h
    exact this O (by simpa using h)
  | y :: P, O, q :: ps, hl, h => by
    cases h with
    | here => exact ⟨0, rfl, rfl⟩
    | there h =>
      obtain ⟨i, h1, h2⟩ := at_params (by simpa using hl) h
      exact ⟨i + 1, by simpa using h1, by simpa using h2⟩
  | [], _, _ :: _, hl, _ => by simp at hl
  | _ :: _, _, [], hl, _ => by simp at hl

noncomputable def scopeOk (sc : Scope) (N gl : List Str) : Bool :=
  (decide (sc.kind = .function)) && (N.all fun x => (sc.names.lookup x == some .local || sc.names.lookup x == some .cell) && !(x == ("__debug__" : Str))) &&
  (gl.all fun x => (sc.names.lookup x == some .globalImplicit) && !(x == ("__debug__" : Str))) && decide N.Nodup && !sc.isCoroutine && !sc.isGenerator

/-- what the world tells of a function of the text -/
structure HasDef (W : Wd) (name : Str) (params : Arguments) (body : List Stmt) (scope : Scope) : Prop where
  at' : ∃ f, W.mg name = some (.ref f) ∧ ∀ h, W.g h → ∃ o pm cd doc, h.get? f = some o ∧ o.data = .func (docDef name params body scope pm cd doc) ∧ h.CodeRec cd name

theorem fun_intro {W : Wd} {name : Str} {params : Arguments} {body : List Stmt} {scope : Scope} {k : Nat} {ps : List PV} {r : PV} (O gl N : List Str) (ρ : List (Option PV)) (hd : HasDef W name params body scope)
    (hsc : scopeOk scope (params.args.map (·.arg) ++ O) gl = true) (hlen : (params.args.map (·.arg)).length = ps.length)
    (hbind : ∀ pm cd doc vals, vals.length = ps.length → bindArgs (docDef name params body scope pm cd doc) ⟨vals, []⟩ = pure ((params.args.map (·.arg)).zip vals))
    (hN' : params.args.map (·.arg) ++ O = N) (hρ' : ps.map some ++ (O.map fun _ => none) = ρ)
    (hb : ∀ c : Fc, c.Fr → c.k = k → c.N = N → c.gl = gl → c.env.scope = scope →
      Run W c ⟨[], [], ρ, false⟩ body (fun f s => ∃ v, f = .ret v ∧ Rep s.heap c.X₀ r v ∧ Kp c.s₀ s)) : Fun W name (k + 1) ps r := by
  subst hN' hρ'
  obtain ⟨f, hmg, hf⟩ := hd
  simp only [scopeOk, Bool.and_eq_true, decide_eq_true_eq, List.all_eq_true, Bool.or_eq_true, beq_iff_eq, Bool.not_eq_true'] at hsc
  obtain ⟨⟨⟨⟨⟨hk, hN⟩, hgl⟩, hnd⟩, hco⟩, hgen⟩ := hsc
  refine ⟨f, hmg, fun h hg => ?_, fun s A X vals hg hr hA hX hvals Q E hQ => ?_⟩
  · obtain ⟨o, pm, cd, doc, ho, hdt, _⟩ := hf h hg
    exact ⟨o, _, ho, hdt⟩
  obtain ⟨o, pm, cd, doc, ho, hdt, hcd⟩ := hf s.heap hg
  have hvl := hvals.length
  have hzip : ((params.args.map (·.arg)).zip vals).map (·.1) = params.args.map (·.arg) := by
    rw [List.map_fst_zip]; omega
  have hkind : ∀ x ∈ params.args.map (·.arg) ++ O, scope.names.lookup x = some .local ∨ (scope.names.lookup x = some .cell ∧ ((cellsFrom (s.heap.objs.size + 1) scope.names []).lookup x).isSome = true) := fun x hx => by
    rcases (hN x hx).1 with h | h
    · exact .inl h
    · exact .inr ⟨h, cellsFrom_some x _ _ _ (.inr (mem_of_lookup h))⟩
  refine wpAny_call (codeAny_call_cells (fd := docDef name params body scope pm cd doc) (body := body) (binds := (params.args.map (·.arg)).zip vals) (by have := hr.1; omega) ho hdt (W.nl _ hg) hcd rfl (hbind pm cd doc vals hvl.symm) rfl
    (fun x hx => hkind x.1 (List.mem_append_left _ (by rw [← hzip]; exact List.mem_map.mpr ⟨x, hx, rfl⟩))) (fun s₁ ic => ?_) hco hgen hk)
  let env := callEnvC (docDef name params body scope pm cd doc) s.heap.objs.size f
  let c : Fc := { env := env, A := A.deeper env, s₀ := s, X₀ := X, N := params.args.map (·.arg) ++ O, gl := gl, fr := true, k := k }
  let X' : Addr → Prop := fun b => X b ∨ b = env.locals ∨ ∃ n, env.cells.lookup n = some b
  have hfr : c.Fr := ⟨rfl, ic.apart, ic.above, ic.toInCall.fresh⟩
  have hok : c.Ok W := by
    refine ⟨hk, hkind, fun x hx => (hgl x hx).1, hnd, ⟨fun x hx => (hN x hx).2, fun x hx => (hgl x hx).2⟩, rfl, rfl, hA, hg, hX, ?_⟩
    exact ⟨by show A.depth + 1 + k < _; have := hr.1; omega, by show A.units + 3 + 10 * k < _; have := hr.2; omega⟩
  have hst : St W c X' { σ := [], K := [], ρ := ps.map some ++ O.map fun _ => none } s₁ := by
    refine ⟨hok, ic.toInCall.same, ic.toInCall.keep, ⟨_, _, ic.toInCall.ns, ic.cell, fun x p hx => ?_⟩, .inr (.inl rfl), fun n d e => .inr (.inr ⟨n, e⟩), fun b z => .inl z, fun q hq => (nomatch hq), List.nodup_nil, fun q hq => (nomatch hq), fun b z => ?_⟩
    · obtain ⟨i, h1, h2⟩ := at_params hlen hx
      obtain ⟨v, hv, rv⟩ := hvals.get h2
      have hm : (x, v) ∈ (params.args.map (·.arg)).zip vals := List.mem_iff_getElem?.mpr ⟨i, by rw [List.getElem?_zip_eq_some]; exact ⟨h1, hv⟩⟩
      have hnd' : (((params.args.map (·.arg)).zip vals).map (·.1)).Nodup := by rw [hzip]; exact (List.nodup_append.mp hnd).1
      refine ⟨v, fun hl => bindL_get _ x v hl _ _ hnd' hm, fun hl => bindC_get _ x v (fun e => by rw [hl] at e; cases e) _ _ hnd' hm, rv.mono (fun b o _ e => ic.toInCall.keep b o e) fun b z hz => ?_⟩
      have hlt : b < s.heap.objs.size := by obtain ⟨o', e'⟩ := Option.isSome_iff_exists.mp hz; exact Heap.lt_size e'
      rcases z with z | z | ⟨n, z⟩
      · exact z
      · have := ic.toInCall.fresh; exact absurd (z ▸ hlt) (Nat.not_lt.mpr this)
      · exact absurd (Nat.lt_of_lt_of_le hlt ic.toInCall.fresh) (Nat.not_lt.mpr (Nat.le_of_lt (ic.above n b (mem_of_lookup z))))
    · rcases z with z | z | ⟨n, z⟩
      · obtain ⟨o', e'⟩ := Option.isSome_iff_exists.mp (hX b z)
        rw [ic.toInCall.keep _ _ e']; rfl
      · obtain ⟨o', _, _, e', _⟩ := ic.toInCall.ns
        rw [z]; show (s₁.heap.get? env.locals).isSome = true; rw [e']; rfl
      · obtain ⟨o', e', _⟩ := ic.cell n b z
        rw [e']; rfl
  refine wpAny_mono ((hb c hfr rfl rfl rfl rfl).go X' s₁ hst _) (fun fl s' hp => ?_) fun _ _ e => e
  obtain ⟨v, rfl, hr', hk'⟩ := hp
  exact hQ v s' hk' hr'
end Mine
end partW6

section partW7
open PySem PySem.W PyProof.Rows
set_option maxRecDepth 100000
set_option linter.unusedVariables false
namespace Mine
theorem RepL.one {h : Heap} {X : Addr → Prop} {p : PV} {vals : List Value} (x : RepL h X [p] vals) : ∃ v, vals = [v] ∧ Rep h X p v := by
  cases vals with
  | nil => simp [RepL] at x
  | cons v vs =>
    cases vs with
    | nil => simp only [RepL, and_true] at x; exact ⟨v, rfl, x⟩
    | cons _ _ => simp [RepL] at x
theorem RepL.two {h : Heap} {X : Addr → Prop} {p q : PV} {vals : List Value} (x : RepL h X [p, q] vals) : ∃ v u, vals = [v, u] ∧ Rep h X p v ∧ Rep h X q u := by
  cases vals with
  | nil => simp [RepL] at x
  | cons v vs =>
    rw [RepL] at x
    obtain ⟨u, rfl, hu⟩ := RepL.one x.2
    exact ⟨v, u, rfl, x.1, hu⟩
section
variable {W : Wd} {c : Fc} {a : AS}
theorem ev_nm {N : List Str} {x : Str} {pos p} (hN : c.N = N) (hx : At N a.ρ x p) : Ev W c a (.Name x pos) p := ev_name (hN ▸ hx)
theorem ev_ow {N : List Str} {x : Str} {pos b l} (hN : c.N = N) (hx : At N a.ρ x (.raw (.ref b))) (hl : (b, l) ∈ a.σ) (hlo : a.lo = true) : Ev W c a (.Name x pos) (.lst l) := ev_own (hN ▸ hx) hl hlo

theorem rn_assign {x : Str} {pos' pos : Pos} {value : Expr} {rest : List Stmt} {post : Post} {p : PV} {N : List Str} {σ K ρ ρ'} (hs : swapsWith value (some (.Name x pos')) pos.line c.env = pure false) (hf : c.Fr) (hN : c.N = N) (he : Ev W c ⟨σ, K, ρ, false⟩ value p) (hx : Put N ρ x p ρ')
    (h : Run W c ⟨σ, K, ρ', false⟩ rest post) :
    Run W c ⟨σ, K, ρ, false⟩ (.Assign [.Name x pos'] value pos :: rest) post := run_assign (hs := hs) hf rfl he (hN ▸ hx) h

theorem rn_aug {x : Str} {pos' pos : Pos} {op : Operator} {value : Expr} {rest : List Stmt} {post : Post} {p q r : PV} {N : List Str} {σ K ρ ρ'} (hf : c.Fr) (hN : c.N = N) (hx : At N ρ x p) (he : Ev W c ⟨σ, K, ρ, false⟩ value q) (ho : InpR W op p q r) (hp : Put N ρ x r ρ')
    (h : Run W c ⟨σ, K, ρ', false⟩ rest post) : Run W c ⟨σ, K, ρ, false⟩ (.AugAssign (.Name x pos') op value pos :: rest) post := run_aug hf rfl (hN ▸ hx) he ho (hN ▸ hp) h

theorem rn_ret {e : Expr} {pos : Pos} {rest : List Stmt} {p : PV} (hf : c.Fr) (he : Ev W c a e p) :
    Run W c a (.Return (some e) pos :: rest) (fun f s => ∃ v, f = .ret v ∧ Rep s.heap c.X₀ p v ∧ Kp c.s₀ s) := run_ret hf he fun v s h1 h2 => ⟨v, rfl, h1, h2⟩

theorem ev_cl {x : Str} {pos pos' : Pos} {e : Expr} {es : List Expr} {ps : List PV} {r : PV} {k : Nat} {gl : List Str} 
    (he : eval (.Call (.Name x pos') (e :: es) [] pos) c.env = (do callWith pos (← eval (.Name x pos') c.env) [] (backTo pos (starEach (e :: es) c.env)) (backToKw pos (keywordEach [] c.env))))
    (hst : starEach (e :: es) c.env = (false, eval e c.env) :: starEach es c.env) (hgl : c.gl = gl) (hx : x ∈ gl) (ha : EvL W c a pos (e :: es) ps) (hf : Fun W x k ps r) (hr : k ≤ c.k) :
    Ev W c a (.Call (.Name x pos') (e :: es) [] pos) r := ev_call (he := he) (hst := hst) (hgl ▸ hx) ha hf hr

/-- a built-in's name, not shadowed -/
noncomputable def BN (W : Wd) (x : Str) (id : String) : Prop := W.mg x = none ∧ W.mb x = some (.builtin id)
theorem ev_clB {x : Str} {id : String} {pos pos' : Pos} {e : Expr} {es : List Expr} {ps : List PV} {r : PV} {k : Nat} {gl : List Str} 
    (he : eval (.Call (.Name x pos') (e :: es) [] pos) c.env = (do callWith pos (← eval (.Name x pos') c.env) [] (backTo pos (starEach (e :: es) c.env)) (backToKw pos (keywordEach [] c.env))))
    (hst : starEach (e :: es) c.env = (false, eval e c.env) :: starEach es c.env)
    (hpl : (backTo pos (starEach es c.env)).any (·.1) = false) (hgl : c.gl = gl) (hx : x ∈ gl) (hg : BN W x id) (ha : EvL W c a pos (e :: es) ps) (hf : BFun W id k ps r) (hr : k ≤ c.k) :
    Ev W c a (.Call (.Name x pos') (e :: es) [] pos) r := ev_callB (he := he) (hst := hst) (hpl := hpl) (hgl ▸ hx) hg.1 hg.2 ha hf hr

theorem b_chr {i : Int} (h0 : 0 ≤ i) (h1 : i ≤ 1114111) : BFun W "chr" 0 [.int i] (.str [i.toNat]) := .mk fun s A X vals g rm hd hX r Q E h => by
  obtain ⟨v, rfl, r1⟩ := RepL.one r
  simp only [Rep] at r1
  obtain ⟨t, rfl⟩ := r1
  exact chr_of_range h0 h1 (h _ _ (Kp.tok _ _) (by simp only [Rep]; exact ⟨_, rfl⟩))
theorem b_ord {n : Nat} : BFun W "ord" 0 [.str [n]] (.int n) := .mk fun s A X vals g rm hd hX r Q E h => by
  obtain ⟨v, rfl, r1⟩ := RepL.one r
  simp only [Rep] at r1
  obtain ⟨t, rfl⟩ := r1
  exact P.ord_of_char (h _ _ (Kp.tok _ _) (by simp only [Rep]; exact ⟨_, rfl⟩))
theorem b_lens {l : List Nat} (hl : l.length ≤ sizeLine) : BFun W "len" 0 [.str l] (.int l.length) := .mk fun s A X vals g rm hd hX r Q E h => by
  obtain ⟨v, rfl, r1⟩ := RepL.one r
  simp only [Rep] at r1
  obtain ⟨t, rfl⟩ := r1
  have hz : sizeLine = 16777216 := rfl
  refine P.len_str (by rw [strOf_len]; omega) ?_
  rw [strOf_len]
  exact h _ _ (Kp.tok s _) (by simp only [Rep]; exact ⟨_, rfl⟩)
theorem b_lenl {l : List PV} (hl : l.length ≤ sizeLine) : BFun W "len" 0 [.lst l] (.int l.length) := .mk fun s A X vals g rm hd hX r Q E h => by
  obtain ⟨v, rfl, r1⟩ := RepL.one r
  simp only [Rep] at r1
  obtain ⟨b, xs, rfl, _, hx, rl⟩ := r1
  have e : xs.size = l.length := by rw [rl.length, Array.length_toList]
  have hz : sizeLine = 16777216 := rfl
  refine len_list hx.isList (by omega) ?_
  rw [e]
  exact h _ _ (Kp.tok s _) (by simp only [Rep]; exact ⟨_, rfl⟩)
end

section
variable {W : Wd} {c : Fc} {a : AS}
theorem evL_cons' {pos e es p ps} (hst : starEach (e :: es) c.env = (false, eval e c.env) :: starEach es c.env) (he : Ev W c a e p) (hs : EvL W c a pos es ps) : EvL W c a pos (e :: es) (p :: ps) := evL_cons he hs hst
theorem ev_list' {es : List Expr} {ps : List PV} {pos : Pos} (he : EvL W c a pos es ps) (hl : ps.length ≤ sizeLine) : Ev W c a (.List es pos) (.lst ps) := ev_list he hl
theorem ev_tuple' {es : List Expr} {ps : List PV} {k : Nat} {pos : Pos} (he : EvL W c a pos es ps) (hl : ps.length ≤ sizeLine) : Ev W c a (.Tuple es k pos) (.tup ps) := ev_tuple he hl
theorem ev_add {l r pos x y} (hl : Ev W c a l (.int x)) (hr : Ev W c a r (.int y)) : Ev W c a (.BinOp l .Add r pos) (.int (x + y)) := ev_bin hl hr bin_add
theorem ev_sb {l r pos x y} (hl : Ev W c a l (.int x)) (hr : Ev W c a r (.int y)) : Ev W c a (.BinOp l .Sub r pos) (.int (x - y)) := ev_bin hl hr bin_sub
end

section
variable {W : Wd} {c : Fc} {a : AS}
theorem evB_c {l op r pos p q b} (hm : behindInMarks op r = false) (hl : Ev W c a l p) (hr : Ev W c a r q) (ho : CmpR W op p q b) : EvB W c a (.Compare l [op] [r] pos) b := evB_cmp hl hr ho hm
theorem ev_c {l op r pos p q b} (hm : behindInMarks op r = false) (hl : Ev W c a l p) (hr : Ev W c a r q) (ho : CmpR W op p q b) : Ev W c a (.Compare l [op] [r] pos) (.bool b) := ev_cmp hl hr ho hm
theorem evB_p {e : Expr} {p : PV} {b : Bool} (hi : ∀ whole : Sem Value, isTrue e c.env whole = (do let v ← whole; standAt e.pos; holding [v] (truthy v))) (he : Ev W c a e p) (hb : p.truth = some b) : EvB W c a e b := evB_plain he hb hi
theorem rn_if {test : Expr} {body orelse rest : List Stmt} {pos : Pos} {post : Post} {b : Bool} (ht : EvB W c a test b) (h1 : b = true → Run W c a body (Then W c rest post)) (h2 : b = false → Run W c a orelse (Then W c rest post)) :
    Run W c a (.If test body orelse pos :: rest) post := run_if ht h1 h2
end

end Mine
end partW7

section partR1
open PySem PySem.W PyProof.Rows
set_option maxRecDepth 100000
set_option linter.unusedVariables false
namespace Mine

/-- an iterator over flat values, made in between -/
structure Its (W : Wd) (A : Around) (s s₂ : Shared) (X : Addr → Prop) (I : Addr) (n : Nat) (item : Nat → PV) (one : Bool) : Prop where
  ex : ∃ (fp : List Addr) (P : Nat → Value → Prop) (S : Nat → Heap → Prop), Walks W.prog W.w A I fp [I] n P S ∧ S 0 s₂.heap ∧ (∀ i h, S i h → (h.get? I).isSome = true) ∧
    (∀ b ∈ fp, b = I ∨ (one = false ∧ ¬ X b ∧ (s₂.heap.get? b).isSome = true)) ∧ (∀ i v, i < n → P i v → ∀ h Y, Rep h Y (item i) v)
  new : s.heap.get? I = none
  old : ∃ o, s₂.heap.get? I = some o
  sz : n ≤ sizeLine

section
variable {W : Wd} {c : Fc} {a : AS}

/-- what an iterable gives, item by item -/
structure EvI (W : Wd) (c : Fc) (a : AS) (e : Expr) (n : Nat) (item : Nat → PV) (one : Bool) : Prop where
  go : ∀ X s, St W c X a s → ∀ (Q : Value → Shared → Prop) (E : Value → Shared → Prop), (∀ I s₂, Kp s s₂ → Its W c.A s s₂ (a.Y X) I n item one → Q (.ref I) s₂) →
    wpAny W.M c.A (eval e c.env) (fun x s₁ => wpAny W.M c.A (pyIter x) Q E s₁) E s

theorem new_at (s : Shared) : s.heap.get? s.heap.objs.size = none := by
  cases e : s.heap.get? s.heap.objs.size with
  | none => rfl
  | some o => exact absurd (Heap.lt_size e) (Nat.lt_irrefl _)
theorem kp_new {s s' : Shared} (k : Kp s s') {b : Addr} (h : s'.heap.get? b = none) : s.heap.get? b = none := by
  cases e : s.heap.get? b with
  | none => rfl
  | some o => rw [k.get e] at h; cases h

theorem evI_lst {e : Expr} {ps : List PV} (he : Ev W c a e (.lst ps)) (hf : ∀ p ∈ ps, p.flat = true) (hsz : ps.length ≤ sizeLine) : EvI W c a e ps.length (fun i => ps.getD i .none) false := .mk fun X s x Q E h => by
  refine he.go X s x _ _ fun v s₁ k₁ r₁ => ?_
  simp only [Rep] at r₁
  obtain ⟨l, xs, rfl, hl, hp, hr⟩ := r₁
  have hlen : ps.length = xs.size := by rw [hr.length, Array.length_toList]
  refine wpAny_pyIter_list hp.isList (h _ _ (k₁.tr kp_heap) ⟨⟨[s₁.heap.objs.size, l], _, _, hlen ▸ Walks.list x.ok.hd s₁.heap.objs.size l (Nat.ne_of_lt hp.lt) xs, ⟨⟨_, Heap.get?_push_size _ rfl, rfl, rfl⟩, hp.isList.push _⟩, ?_, ?_, ?_⟩, kp_new k₁ (new_at s₁), ⟨_, Heap.get?_push_size _ rfl⟩, hsz⟩)
  · rintro i h' ⟨⟨o, ho, _⟩, _⟩
    rw [ho]; rfl
  · intro b hb
    rcases List.mem_cons.mp hb with rfl | hb
    · exact .inl rfl
    · obtain rfl := List.mem_singleton.mp hb
      obtain ⟨o, _, ho, _⟩ := hp
      refine .inr ⟨rfl, hl, ?_⟩
      show ((s₁.heap.push _).get? b).isSome = true
      rw [Heap.get?_push_of_some _ ho]; rfl
  · intro i v hi hv h' Y
    obtain ⟨p, hp1, hp2⟩ := hr.get' (i := i) (v := v) (by simpa using hv)
    have e : ps.getD i .none = p := by simp [List.getD, hp1]
    rw [e]
    exact hp2.flat (hf p (List.mem_of_getElem? hp1))

theorem evI_str {one : Bool} {e : Expr} {l : List Nat} (he : Ev W c a e (.str l)) (hsz : l.length ≤ sizeLine) : EvI W c a e l.length (fun i => .str [l.getD i 0]) one := .mk fun X s x Q E h => by
  refine he.go X s x _ _ fun v s₁ k₁ r₁ => ?_
  simp only [Rep] at r₁
  obtain ⟨t, rfl⟩ := r₁
  have hlen : (strOf l).cps.size = l.length := by simp [strOf]
  have hit : ∀ (i : Nat) (v : Value), i < l.length → SignAt (strOf l) i v → ∀ (h' : Heap) (Y : Addr → Prop), Rep h' Y (.str [l.getD i 0]) v := fun i v hi hv h' Y => by
    obtain ⟨n, u, h1, rfl⟩ := hv
    have e : l.getD i 0 = n := by
      have : l[i]? = some n := by simpa [strOf] using h1
      simp [List.getD, this]
    simp only [Rep]
    exact ⟨u, by rw [e]; rfl⟩
  cases ha : (strOf l).cps.all (· < 128)
  · refine wpAny_pyIter_wide ha (h _ _ (k₁.tr kp_heap) ⟨⟨_, _, _, hlen ▸ Walks.strWide x.ok.hd _ (strOf l) t, ⟨_, Heap.get?_push_size _ rfl, rfl, rfl⟩, ?_, fun b hb => .inl (List.mem_singleton.mp hb), hit⟩, kp_new k₁ (new_at s₁), ⟨_, Heap.get?_push_size _ rfl⟩, hsz⟩)
    rintro i h' ⟨o, ho, _⟩
    rw [ho]; rfl
  · refine wpAny_pyIter_ascii ha (h _ _ (k₁.tr kp_heap) ⟨⟨_, _, _, hlen ▸ Walks.strAscii x.ok.hd _ (strOf l) t, ⟨_, Heap.get?_push_size _ rfl, rfl, rfl⟩, ?_, fun b hb => .inl (List.mem_singleton.mp hb), hit⟩, kp_new k₁ (new_at s₁), ⟨_, Heap.get?_push_size _ rfl⟩, hsz⟩)
    rintro i h' ⟨o, ho, _⟩
    rw [ho]; rfl

theorem evI_range {one : Bool} {x : Str} {pos pos' : Pos} {e : Expr} {n : Int} {gl : List Str} 
    (he' : eval (.Call (.Name x pos') [e] [] pos) c.env = (do callWith pos (← eval (.Name x pos') c.env) [] (backTo pos (starEach [e] c.env)) (backToKw pos (keywordEach [] c.env))))
    (hst : starEach [e] c.env = [(false, eval e c.env)])
    (hgl : c.gl = gl) (hx : x ∈ gl) (hg : W.mg x = none ∧ W.mb x = some (.type "range")) (he : Ev W c a e (.int n)) (h0 : 0 ≤ n) (h1 : n ≤ sizeLine) :
    EvI W c a (.Call (.Name x pos') [e] [] pos) n.toNat (fun i => .int i) one := .mk fun X s x₁ Q E h => by
  have hz : sizeLine = 16777216 := rfl
  refine Call_ (he := he') (Calls.Name_function_global x₁.ok.fn (x₁.ok.gm x (hgl ▸ hx)) (Calls.loadGlobal_builtin (env := c.env) (mg := W.mg) (mb := W.mb) (by rw [x₁.ok.gg]; exact W.ns _ x₁.g) hg.1 (by rw [x₁.ok.gb]; exact W.bns _ x₁.g) hg.2 ?_) (x₁.ok.db.2 x (hgl ▸ hx)))
  rw [hst]
  refine PySem.callWith_type rfl ?_
  refine Calls.evalArgs_plain ?_
  refine Calls.spliced_cons ?_
  refine he.go X s x₁ _ _ fun v s₁ k₁ r₁ => ?_
  refine Calls.spliced_nil ?_
  simp only [Rep] at r₁
  obtain ⟨t, rfl⟩ := r₁
  refine call_range_1 ?_
  refine wpAny_pyIter_range (IsRange.new ..) (small_one (by decide) (by decide) (by omega) (by omega)) ?_
  have hsz' : n.toNat ≤ sizeLine := by rw [hz] at h1 ⊢; omega
  have hs : Builtin.Range.rangeSize 0 n 1 = (n.toNat : Int) := by rw [rangeSize_one]; split <;> omega
  have hIter : IsRangeIter ((s₁.heap.push { cls := .type "range", data := .fields #[.int 0 s₁.toks, .int n t, .int 1 (s₁.toks + 1)] }).push { cls := .type "range_iterator", data := .fields #[rawInt 0, rawInt (Builtin.Range.rangeSize 0 n 1), rawInt 1] })
      (s₁.heap.push { cls := .type "range", data := .fields #[.int 0 s₁.toks, .int n t, .int 1 (s₁.toks + 1)] }).objs.size (0 + ((0 : Nat) : Int) * 1) ((n.toNat : Int) - ((0 : Nat) : Int)) 1 := by
    have e1 : (0 + ((0 : Nat) : Int) * 1) = 0 := by simp
    have e2 : ((n.toNat : Int) - ((0 : Nat) : Int)) = Builtin.Range.rangeSize 0 n 1 := by rw [hs]; simp
    rw [e1, e2]
    exact Heap.get?_push_size _ rfl
  refine h _ _ (k₁.tr ⟨_, _, rfl, fun _ _ e => Heap.get?_push_of_some _ (Heap.get?_push_of_some _ e)⟩) ⟨⟨_, _, _, Walks.range x₁.ok.hd _ 0 1 n.toNat, hIter, fun i h' hh => ?_, fun b hb => .inl (List.mem_singleton.mp hb), fun i v hi hv h' Y => ?_⟩, ?_, ⟨_, Heap.get?_push_size _ rfl⟩, hsz'⟩
  · have hh : h'.get? _ = some _ := hh
    rw [hh]; rfl
  · obtain ⟨t', rfl⟩ := hv
    simp only [Rep]
    exact ⟨t', by simp⟩
  · refine kp_new k₁ ?_
    cases e' : s₁.heap.get? (s₁.heap.push { cls := .type "range", data := .fields #[.int 0 s₁.toks, .int n t, .int 1 (s₁.toks + 1)] }).objs.size with
    | none => rfl
    | some o => have h2 := Heap.lt_size e'; rw [Heap.size_push] at h2; exact absurd (Nat.lt_of_succ_lt h2) (Nat.lt_irrefl _)
end
end Mine
end partR1

section partR2
open PySem PySem.W PyProof.Rows
set_option maxRecDepth 100000
set_option linter.unusedVariables false
namespace Mine

theorem St.lessK {W : Wd} {c : Fc} {X : Addr → Prop} {a : AS} {s : Shared} (x : St W c X a s) (K : List (Addr × Obj)) (hK : ∀ q ∈ K, q ∈ a.K) : St W c X { a with K := K } s :=
  ⟨x.ok, x.same, x.keep, ⟨x.vars.ex⟩, x.xl, x.xc, x.x0, x.own, x.ownd, fun q hq => x.kk q (hK q hq), x.xd⟩

/-- an address of the frame's own joins the kept ones, changed -/
theorem St.swap {W : Wd} {c : Fc} {X : Addr → Prop} {a : AS} {s : Shared} {I : Addr} {h' : Heap} {tk : Nat} {o : Obj} (x : St W c X a s) (hI : Mine' c X I) (hσ : I ∉ a.σ.map (·.1)) (hs : Heap.ExtBut I s.heap h') (ho : h'.get? I = some o)
    (K : List (Addr × Obj)) (hK : ∀ q ∈ K, q ∈ a.K ∧ q.1 ≠ I) (hnew : c.s₀.heap.get? I = none) : St W c X { a with K := (I, o) :: K } { s with heap := h', toks := tk } := by
  obtain ⟨m, cm, hn, hc, hvs⟩ := x.vars.ex
  have y : St W c X { a with K := K } { s with heap := h', toks := tk } := by
    refine x.change (a' := { a with K := K }) hI.x hs (by rw [ho]; rfl) (fun o e => by rw [hnew] at e; cases e) ⟨m, cm, hn.extBut hs (Ne.symm hI.l), fun n d e => ?_, fun y q hy => ?_⟩ (fun q hq => ?_) x.ownd (fun q hq => ⟨(hK q hq).1, (hK q hq).2, (x.kk q (hK q hq).1).1.2⟩)
    · obtain ⟨oc, e1, e2⟩ := hc n d e
      exact ⟨oc, hs _ _ (Ne.symm (hI.cl n d e)) e1, e2⟩
    · obtain ⟨u, h1, h2, h3⟩ := hvs y q hy
      exact ⟨u, h1, h2, h3.but hI.x hs⟩
    · obtain ⟨k1, ys, k2, k3⟩ := x.own q hq
      exact ⟨k1, ys, plainL_but hs (fun e => hσ (List.mem_map.mpr ⟨q, hq, e⟩)) k2, k3.but hI.x hs⟩
  exact ⟨y.ok, y.same, y.keep, ⟨y.vars.ex⟩, y.xl, y.xc, y.x0, y.own, y.ownd, fun q hq => by
    rcases List.mem_cons.mp hq with rfl | h
    · exact ⟨⟨hI, hσ⟩, ho⟩
    · exact y.kk q h, y.xd⟩

/-- an address of the frame's own is let go -/
theorem St.leave {W : Wd} {c : Fc} {X : Addr → Prop} {a : AS} {s : Shared} {I : Addr} {h' : Heap} {tk : Nat} (x : St W c X a s) (hI : Mine' c X I) (hσ : I ∉ a.σ.map (·.1)) (hs : Heap.ExtBut I s.heap h')
    (K : List (Addr × Obj)) (hK : ∀ q ∈ K, q ∈ a.K ∧ q.1 ≠ I) (hnew : c.s₀.heap.get? I = none) : St W c (fun b => X b ∧ b ≠ I) { a with K := K } { s with heap := h', toks := tk } := by
  obtain ⟨m, cm, hn, hc, hvs⟩ := x.vars.ex
  obtain ⟨h, t, he⟩ := x.same
  have hmine : ∀ b, Mine' c X b → b ≠ I → Mine' c (fun b => X b ∧ b ≠ I) b := fun b hb hne => ⟨⟨hb.x, hne⟩, hb.l, hb.cl, hb.new⟩
  have hrep : ∀ {p v}, Rep s.heap X p v → Rep h' (fun b => X b ∧ b ≠ I) p v := fun r => (r.but hI.x hs).mono (fun _ _ _ e => e) (fun b z _ => z.1) |> fun r => r
  have hrepL : ∀ {p v}, RepL s.heap X p v → RepL h' (fun b => X b ∧ b ≠ I) p v := fun r => (r.but hI.x hs).mono (fun _ _ _ e => e) (fun b z _ => z.1) |> fun r => r
  refine ⟨x.ok, ⟨h', tk, by rw [he]⟩, fun b o e => hs b o (fun e' => by rw [e', hnew] at e; cases e) (x.keep b o e), ⟨m, cm, hn.extBut hs (Ne.symm hI.l), fun n d e => ?_, fun y q hy => ?_⟩,
    ⟨x.xl, Ne.symm hI.l⟩, fun n d e => ⟨x.xc n d e, Ne.symm (hI.cl n d e)⟩, fun b z => ⟨x.x0 b z, fun e => ?_⟩, fun q hq => ?_, x.ownd, fun q hq => ?_, fun b z => ?_⟩
  · obtain ⟨oc, e1, e2⟩ := hc n d e
    exact ⟨oc, hs _ _ (Ne.symm (hI.cl n d e)) e1, e2⟩
  · obtain ⟨u, h1, h2, h3⟩ := hvs y q hy
    exact ⟨u, h1, h2, hrep h3⟩
  · have := x.ok.x0 b z
    rw [e, hnew] at this; cases this
  · have hne : q.1 ≠ I := fun e => hσ (List.mem_map.mpr ⟨q, hq, e⟩)
    obtain ⟨k1, ys, k2, k3⟩ := x.own q hq
    exact ⟨hmine _ k1 hne, ys, plainL_but hs hne k2, hrepL k3⟩
  · obtain ⟨h1, h2⟩ := hK q hq
    obtain ⟨k1, k2⟩ := x.kk q h1
    exact ⟨⟨hmine _ k1.1 h2, k1.2⟩, hs _ _ h2 k2⟩
  · obtain ⟨o, e⟩ := Option.isSome_iff_exists.mp (x.xd b z.1)
    show (h'.get? b).isSome = true
    rw [hs b o z.2 e]; rfl

/-- an object made meanwhile joins what is the frame's own -/
theorem St.take {W : Wd} {c : Fc} {X : Addr → Prop} {a : AS} {s s' : Shared} {I : Addr} {o : Obj} (x : St W c X a s) (k : Kp s s') (hnew : s.heap.get? I = none) (ho : s'.heap.get? I = some o) :
    St W c (fun b => X b ∨ b = I) { a with K := (I, o) :: a.K } s' ∧ Mine' c (fun b => X b ∨ b = I) I ∧ I ∉ a.σ.map (·.1) ∧ I ∉ a.K.map (·.1) ∧ c.s₀.heap.get? I = none := by
  have y := x.keeps k
  have hnew0 : c.s₀.heap.get? I = none := by
    cases e : c.s₀.heap.get? I with
    | none => rfl
    | some o' => rw [x.keep _ _ e] at hnew; cases hnew
  obtain ⟨m, cm, hns, hc, hv⟩ := x.vars.ex
  have hσ : I ∉ a.σ.map (·.1) := fun hm => by
    obtain ⟨q, hq, e⟩ := List.mem_map.mp hm
    obtain ⟨_, _, ⟨o', _, e', _⟩, _⟩ := x.own q hq
    rw [e, hnew] at e'; cases e'
  have hKI : I ∉ a.K.map (·.1) := fun hm => by
    obtain ⟨q, hq, e⟩ := List.mem_map.mp hm
    have := (x.kk q hq).2
    rw [e, hnew] at this; cases this
  have hmine : Mine' c (fun b => X b ∨ b = I) I := ⟨.inr rfl, (fun e => by
      obtain ⟨o', _, _, e', _⟩ := hns
      rw [← e, hnew] at e'; cases e'), (fun n d e he => by
      obtain ⟨o', e', _⟩ := hc n d e
      rw [← he, hnew] at e'; cases e'), fun _ => hnew0⟩
  have hrep : ∀ {p v}, Rep s.heap X p v → Rep s'.heap (fun b => X b ∨ b = I) p v := fun r => by
    obtain ⟨h', tk, rfl, kk⟩ := k
    exact r.mono (fun b o _ e => kk b o e) fun b z hz => by
      rcases z with z | z
      · exact z
      · subst z; rw [hnew] at hz; cases hz
  have hrepL : ∀ {p v}, RepL s.heap X p v → RepL s'.heap (fun b => X b ∨ b = I) p v := fun r => by
    obtain ⟨h', tk, rfl, kk⟩ := k
    exact r.mono (fun b o _ e => kk b o e) fun b z hz => by
      rcases z with z | z
      · exact z
      · subst z; rw [hnew] at hz; cases hz
  refine ⟨⟨y.ok, y.same, y.keep, ⟨m, cm, hns.keeps (fun b o e => k.get e), fun n d e => (hc n d e).keeps (fun b o e => k.get e), fun z p hz => ?_⟩, .inl y.xl, fun n d e => .inl (y.xc n d e), fun b z => .inl (y.x0 b z), fun q hq => ?_, y.ownd, fun q hq => ?_, fun b z => ?_⟩, hmine, hσ, hKI, hnew0⟩
  · obtain ⟨v, h1, h2, h3⟩ := hv z p hz
    exact ⟨v, h1, h2, hrep h3⟩
  · obtain ⟨h1, xs, h2, h3⟩ := x.own q hq
    exact ⟨⟨.inl h1.x, h1.l, h1.cl, h1.new⟩, xs, h2.keeps (fun b o e => k.get e), hrepL h3⟩
  · rcases List.mem_cons.mp hq with rfl | hq
    · exact ⟨⟨hmine, hσ⟩, ho⟩
    · obtain ⟨h1, h2⟩ := x.kk q hq
      exact ⟨⟨⟨.inl h1.1.x, h1.1.l, h1.1.cl, h1.1.new⟩, h1.2⟩, k.get h2⟩
  · rcases z with z | z
    · exact y.xd b z
    · subst z; rw [ho]; rfl

section
variable {W : Wd} {c : Fc} {a : AS}

theorem rn_newlist {x : Str} {pos' lpos pos : Pos} {rest : List Stmt} {post : Post} {N : List Str} {σ K ρ} (hf : c.Fr) (hN : c.N = N)
    (h : ∀ b, b ∉ σ.map (·.1) → b ∉ K.map (·.1) → ∃ ρ', Put N ρ x (.raw (.ref b)) ρ' ∧ Run W c ⟨(b, []) :: σ, K, ρ', false⟩ rest post) :
    Run W c ⟨σ, K, ρ, false⟩ (.Assign [.Name x pos'] (.List [] lpos) pos :: rest) post := .mk fun X s st E => by
  refine cons_of (wpAny_Assign_Name ?_ rfl)
  rw [arm_eval_List]
  refine wpAny_bind (wpAny_standAt (wpAny_bind (args_nil (wpAny_newList ?_))))
  have g := st.grow { cls := .type "list", data := .seq #[] } ((s.heap.objs.size, []) :: σ) K s.toks (.inr ⟨rfl, rfl⟩) (.inl rfl) rfl (.inr rfl)
  obtain ⟨_, m1, m2, m3, _⟩ := st.take (kp_heap (o := { cls := .type "list", data := .seq #[] })) (new_at s) (Heap.get?_push_size _ rfl)
  obtain ⟨ρ', hp, hr⟩ := h s.heap.objs.size m2 m3
  exact store_name g (hf.sto _) (hN ▸ hp) (by simp only [Rep]) fun s' st' _ E' => hr.go _ s' st' E'

theorem rn_append {x : Str} {e : Expr} {pn apos pos pos' : Pos} {rest : List Stmt} {post : Post} {N : List Str} {σ σ' K ρ} {b : Addr} {l : List PV} {p : PV}
    (hst : starEach [e] c.env = [(false, eval e c.env)]) (hline : (apos.endLine == pos.line) = true) (hf : c.Fr) (hN : c.N = N) (hx : At N ρ x (.raw (.ref b))) (he : Ev W c ⟨σ, K, ρ, false⟩ e p)
    (hl : OPut σ b l (l ++ [p]) σ') (hsz : l.length ≤ sizeLine) (h : Run W c ⟨σ', K, ρ, false⟩ rest post) :
    Run W c ⟨σ, K, ρ, false⟩ (.Expr (.Call (.Attribute (.Name x pn) (Str.ofString "append") apos) [e] [] pos) pos' :: rest) post := .mk fun X s st E => by
  refine cons_of (wpAny_Expr ?_ (by unfold interactive; rw [st.ok.fn]; rfl) rfl)
  refine wpAny_Call_append rfl (by rw [hst]; rfl) hline (by rw [hst]; rfl) (wpAny_Name (load_name st (hN ▸ hx) fun v hv => ?_) (st.ok.db.1 x (hN ▸ hx).mem))
  simp only [Rep] at hv
  subst hv
  obtain ⟨hm, xs, hp, hr⟩ := st.own _ hl.mem
  refine ⟨b, xs, rfl, hp, he.go X s st _ _ fun y s₁ k₁ r₁ => ?_⟩
  exact append_own (st.keeps k₁) hl (r₁.mono (fun _ _ _ e => e) fun b z _ => ⟨z, fun hl => by cases hl⟩) hsz (fun s' st' _ => fun E' => h.go X s' st' E') (hm.new hf.fr)

theorem rn_for {x : Str} {px pos : Pos} {iter : Expr} {body rest : List Stmt} {post : Post} {N : List Str} {σ K ρ} {n : Nat} {item : Nat → PV} (hfs : ∀ v, foldedSetIterable iter c.env v = pure v) (hf : c.Fr) (hN : c.N = N)
    (hi : EvI W c ⟨σ, K, ρ, false⟩ iter n item true) (Inv : Nat → List (Addr × List PV) → List (Addr × Obj) → List (Option PV) → Prop) (h0 : Inv 0 σ K ρ)
    (turn : ∀ i σ K ρ F, i < n → Inv i σ K ρ → ∃ ρ', Put N ρ x (item i) ρ' ∧ Run W c ⟨σ, F ++ K, ρ', false⟩ body (fun f s => match f with
      | .next => ∃ σ₂ K₂ ρ₂ X, Inv (i + 1) σ₂ K₂ ρ₂ ∧ K₂.map (·.1) = K.map (·.1) ∧ St W c X ⟨σ₂, F ++ K₂, ρ₂, false⟩ s
      | _ => False))
    (fin : ∀ σ K ρ, Inv n σ K ρ → Run W c ⟨σ, K, ρ, false⟩ rest post) :
    Run W c ⟨σ, K, ρ, false⟩ (.For (.Name x px) iter body [] pos :: rest) post := .mk fun X s st E => by
  refine cons_of (wpAny_For (hi.go X s st _ _ fun I s₂ k₂ its => ?_) hfs)
  obtain ⟨⟨fp, P, S, hW, hS0, hSex, hfp, hP⟩, hnew, ⟨oI, hoI⟩, hsz⟩ := its
  obtain ⟨st₂, hmI, hIσ, hIK, hnew0⟩ := st.take k₂ hnew hoI
  refine codeAny_forLoop (fun k s' => ∃ i σ₁ K₁ ρ₁ o X₁, k = n + 1 - i ∧ i ≤ n ∧ Inv i σ₁ K₁ ρ₁ ∧ K₁.map (·.1) = K.map (·.1) ∧ St W c X₁ ⟨σ₁, (I, o) :: K₁, ρ₁, false⟩ s' ∧ S i s'.heap) ?_ (n + 1)
    ⟨0, σ, K, ρ, oI, _, rfl, Nat.zero_le _, h0, rfl, st₂, hS0⟩ (by intro _; rfl)
  rintro k s' ⟨i, σ₁, K₁, ρ₁, o, X₁, rfl, hi', hinv, hkeys, st', hS⟩
  obtain ⟨⟨hmI', hIσ'⟩, _⟩ := st'.kk _ List.mem_cons_self
  have hrest : ∀ q ∈ K₁, q ∈ ((I, o) :: K₁) ∧ q.1 ≠ I := fun q hq => ⟨List.mem_cons_of_mem _ hq, fun e => hIK (hkeys ▸ List.mem_map.mpr ⟨q, hq, e⟩)⟩
  by_cases hlt : i < n
  · refine hW.item i s' _ _ hlt hS fun v h' tk hPv hS' hk' => ?_
    obtain ⟨o', ho'⟩ := Option.isSome_iff_exists.mp (hSex _ _ hS')
    have st'' := st'.swap (h' := h') (tk := tk) hmI' hIσ' (fun b o hb e => hk' b o (fun hm => hb (List.mem_singleton.mp hm)) e) ho' K₁ hrest hnew0
    obtain ⟨ρ', hput, hrun⟩ := turn i σ₁ K₁ ρ₁ [(I, o')] hlt hinv
    refine wpAny_assign_Name (store_name st'' (hf.sto x) (hN ▸ hput) (hP i v hlt hPv _ _) fun s₃ st₃ _ => ?_)
    refine wpAny_mono (hrun.go X₁ s₃ st₃ _) (fun f s₄ hpost => ?_) fun _ _ e => e
    cases f with
    | next =>
      obtain ⟨σ₂, K₂, ρ₂, X₂, h1, h2, h3⟩ := hpost
      refine ⟨n + 1 - (i + 1), by omega, i + 1, σ₂, K₂, ρ₂, o', X₂, rfl, hlt, h1, h2.trans hkeys, h3, ?_⟩
      refine hW.frame _ _ _ hS' fun b hb ob e => ?_
      rcases hfp b hb with rfl | ⟨e', _⟩
      · have e4 : s₄.heap.get? b = some o' := (h3.kk _ List.mem_cons_self).2
        have e5 : h'.get? b = some ob := e
        rw [ho'] at e5; cases e5; exact e4
      · cases e'
    | brk => exact hpost.elim
    | cont => exact hpost.elim
    | ret v => exact hpost.elim
  · have hin : i = n := by omega
    subst hin
    refine hW.done s' _ _ hS fun h' tk hk' => wpAny_execs_nil ?_
    have st'' := st'.leave (h' := h') (tk := tk) hmI' hIσ' (fun b o hb e => hk' b o (fun hm => hb (List.mem_singleton.mp hm)) e) K₁ hrest hnew0
    exact fun E' => (fin σ₁ K₁ ρ₁ hinv).go _ _ st'' E'
end
end Mine
end partR2

section partR3
open PySem PySem.W PyProof.Rows
set_option maxRecDepth 100000
set_option linter.unusedVariables false
namespace Mine

noncomputable def capF (cells : List (Str × Addr)) : List (Str × NameKind) → List (Str × Addr) → List (Str × Addr)
  | [], acc => acc
  | (n, k) :: r, acc => if k == .free then capF cells r ((n, (cells.lookup n).getD 0) :: acc) else capF cells r acc

theorem closure_run (scope : Scope) (env : Env) (h : ∀ n, (n, NameKind.free) ∈ scope.names → (env.cells.lookup n).isSome = true) : closureFor scope env = pure (capF env.cells scope.names []) := by
  have key : ∀ (names : List (Str × NameKind)) (acc : List (Str × Addr)), (∀ n, (n, NameKind.free) ∈ names → (env.cells.lookup n).isSome = true) →
      (forIn names acc fun x r => do
        let (name, kind) := x
        if kind == .free then do
          let y ← cellOf env name
          pure (ForInStep.yield ((name, y) :: r))
        else pure (ForInStep.yield r) : Sem (List (Str × Addr))) = pure (capF env.cells names acc) := by
    intro names
    induction names with
    | nil => intro acc _; rfl
    | cons y r ih =>
      intro acc hh
      obtain ⟨n, k⟩ := y
      rw [List.forIn_cons]
      unfold capF
      by_cases hk : (k == NameKind.free) = true
      · have hk' : k = .free := by simpa using hk
        subst hk'
        obtain ⟨d, hd⟩ := Option.isSome_iff_exists.mp (hh n List.mem_cons_self)
        have hc : cellOf env n = pure d := by unfold cellOf; rw [hd]
        simp only [beq_self_eq_true, if_true, hc, hd, Option.getD_some]
        exact ih _ fun m hm => hh m (List.mem_cons_of_mem _ hm)
      · simp only [hk, Bool.false_eq_true, if_false]
        exact ih _ fun m hm => hh m (List.mem_cons_of_mem _ hm)
  simp only [closureFor]
  have := key scope.names [] h
  refine (congrArg (fun t : Sem (List (Str × Addr)) => t >>= fun r => pure r) this).trans ?_
  rfl

theorem capF_sub (cells : List (Str × Addr)) : ∀ (names : List (Str × NameKind)) (acc : List (Str × Addr)), (∀ n, (n, NameKind.free) ∈ names → (cells.lookup n).isSome = true) →
    (∀ n d, acc.lookup n = some d → cells.lookup n = some d) → ∀ n d, (capF cells names acc).lookup n = some d → cells.lookup n = some d
  | [], acc, _, ha, n, d, e => ha n d e
  | (m, k) :: r, acc, hh, ha, n, d, e => by
    unfold capF at e
    split at e
    · rename_i hk
      have hk' : k = .free := by simpa using hk
      subst hk'
      refine capF_sub cells r _ (fun n' hn => hh n' (List.mem_cons_of_mem _ hn)) (fun n' d' e' => ?_) n d e
      rw [List.lookup_cons] at e'
      split at e'
      · rename_i hb
        have : n' = m := by simpa using hb
        subst this
        obtain ⟨d'', hd⟩ := Option.isSome_iff_exists.mp (hh n' List.mem_cons_self)
        rw [hd] at e'
        rw [hd]; exact e'
      · exact ha n' d' e'
    · exact capF_sub cells r acc (fun n' hn => hh n' (List.mem_cons_of_mem _ hn)) ha n d e

theorem capF_some (cells : List (Str × Addr)) (x : Str) : ∀ (names : List (Str × NameKind)) (acc : List (Str × Addr)), ((acc.lookup x).isSome = true ∨ (x, NameKind.free) ∈ names) → ((capF cells names acc).lookup x).isSome = true
  | [], acc, h => by
    rcases h with h | h
    · exact h
    · cases h
  | (n, k) :: r, acc, h => by
    unfold capF
    split
    · refine capF_some cells x r _ ?_
      rcases h with h | h
      · refine .inl ?_
        rw [List.lookup_cons]
        split <;> simp_all
      · rcases List.mem_cons.mp h with h | h
        · cases h; refine .inl ?_; simp [List.lookup_cons]
        · exact .inr h
    · rename_i hk
      refine capF_some cells x r _ ?_
      rcases h with h | h
      · exact .inl h
      · rcases List.mem_cons.mp h with h | h
        · cases h; exact absurd rfl hk
        · exact .inr h

theorem capF_names (cells : List (Str × Addr)) : ∀ (names : List (Str × NameKind)) (acc : List (Str × Addr)) (x : Str) (d : Addr), (x, d) ∈ capF cells names acc → (x, NameKind.free) ∈ names ∨ (x, d) ∈ acc
  | [], acc, x, d, h => .inr h
  | (m, k) :: r, acc, x, d, h => by
    unfold capF at h
    split at h
    · rename_i hk
      have hk' : k = .free := by simpa using hk
      subst hk'
      rcases capF_names cells r _ x d h with h | h
      · exact .inl (List.mem_cons_of_mem _ h)
      · rcases List.mem_cons.mp h with e | h
        · cases e; exact .inl List.mem_cons_self
        · exact .inr h
    · rcases capF_names cells r _ x d h with h | h
      · exact .inl (List.mem_cons_of_mem _ h)
      · exact .inr h

theorem cellsFrom_app : ∀ (names : List (Str × NameKind)) (n : Nat) (acc : List (Str × Addr)), cellsFrom n names acc = cellsFrom n names [] ++ acc
  | [], n, acc => rfl
  | (m, k) :: r, n, acc => by
    unfold cellsFrom
    split
    · rw [cellsFrom_app r (n + 1) ((m, n) :: acc), cellsFrom_app r (n + 1) [(m, n)]]; simp
    · exact cellsFrom_app r n acc

theorem cellsFrom_names : ∀ (names : List (Str × NameKind)) (n : Nat) (acc : List (Str × Addr)) (x : Str) (d : Addr), (x, d) ∈ cellsFrom n names acc → (x, NameKind.cell) ∈ names ∨ (x, d) ∈ acc
  | [], n, acc, x, d, h => .inr h
  | (m, k) :: r, n, acc, x, d, h => by
    unfold cellsFrom at h
    split at h
    · rename_i hk
      have hk' : k = .cell := by simpa using hk
      subst hk'
      rcases cellsFrom_names r _ _ x d h with h | h
      · exact .inl (List.mem_cons_of_mem _ h)
      · rcases List.mem_cons.mp h with e | h
        · cases e; exact .inl List.mem_cons_self
        · exact .inr h
    · rcases cellsFrom_names r _ _ x d h with h | h
      · exact .inl (List.mem_cons_of_mem _ h)
      · exact .inr h

inductive Caps (N : List Str) (ρ : List (Option PV)) : List Str → List (Option PV) → Prop
  | nil : Caps N ρ [] []
  | cons {n ns p ps} : At N ρ n p → Caps N ρ ns ps → Caps N ρ (n :: ns) (some p :: ps)
  | skip {n ns ps} : n ∈ N → Caps N ρ ns ps → Caps N ρ (n :: ns) (none :: ps)

theorem Caps.at {N ρ caps capρ} (h : Caps N ρ caps capρ) {n p} (a : At caps capρ n p) : At N ρ n p := by
  induction h with
  | nil => cases a
  | cons h1 _ ih => cases a with
    | here => exact h1
    | there a => exact ih a
  | skip _ _ ih => cases a with
    | there a => exact ih a
theorem Caps.mem {N ρ caps capρ} (h : Caps N ρ caps capρ) {n} (a : n ∈ caps) : n ∈ N := by
  induction h with
  | nil => cases a
  | cons h1 _ ih =>
    rcases List.mem_cons.mp a with rfl | a
    · exact h1.mem
    · exact ih a
  | skip h1 _ ih =>
    rcases List.mem_cons.mp a with rfl | a
    · exact h1
    · exact ih a

noncomputable def compOk (psc scope : Scope) (x : Str) (caps gl : List Str) : Bool :=
  (decide (scope.kind = .function)) && (decide (psc.kind = .function)) &&
  (scope.names.all fun y => (!(y.2 == .free) || caps.contains y.1) && (!(y.2 == .cell) || y.1 == x) && (!(y.2 == .local) || scope.names.lookup y.1 == some .local)) &&
  (scope.names.lookup x == some .local || scope.names.lookup x == some .cell) &&
  (caps.all fun n => scope.names.lookup n == some .free && psc.names.lookup n == some .cell && !(n == ("__debug__" : Str))) &&
  (gl.all fun n => scope.names.lookup n == some .globalImplicit && !(n == ("__debug__" : Str))) && decide ((x :: caps).Nodup) && !(x == ("__debug__" : Str))

theorem lookup_relab (env : Env) (n : Str) : ∀ (names : List (Str × NameKind)),
    (names.map fun (n, k) => if (k == NameKind.free && env.scope.kind == .function && env.kindOf n == some .cell) then (n, NameKind.cell) else (n, k)).lookup n =
      (names.lookup n).map fun k => if (k == NameKind.free && env.scope.kind == .function && env.kindOf n == some .cell) then .cell else k
  | [] => rfl
  | (m, k) :: r => by
    rw [List.map_cons, List.lookup_cons]
    cases hb : n == m with
    | true =>
      have : n = m := by simpa using hb
      subst this
      show List.lookup n ((if (k == NameKind.free && env.scope.kind == .function && env.kindOf n == some .cell) = true then (n, NameKind.cell) else (n, k)) :: _) = _
      by_cases hc : (k == NameKind.free && env.scope.kind == .function && env.kindOf n == some .cell) = true
      · rw [if_pos hc]; simp only [List.lookup_cons, beq_self_eq_true, Option.map_some]; rw [if_pos hc]
      · rw [if_neg hc]; simp only [List.lookup_cons, beq_self_eq_true, Option.map_some]; rw [if_neg hc]
    | false =>
      show List.lookup n ((if (k == NameKind.free && env.scope.kind == .function && env.kindOf m == some .cell) = true then (m, NameKind.cell) else (m, k)) :: _) = _
      by_cases hc : (k == NameKind.free && env.scope.kind == .function && env.kindOf m == some .cell) = true
      · rw [if_pos hc]; simp only [List.lookup_cons, hb]; exact lookup_relab env n r
      · rw [if_neg hc]; simp only [List.lookup_cons, hb]; exact lookup_relab env n r

section
variable {M : Model} {A : Around} {E : Value → Shared → Prop} {s : Shared}

theorem compEnv_new {scope : Scope} {env : Env} {cl : List (Str × Addr)} {Q : Env → Shared → Prop}
    (h : Q { scope := scope, locals := s.heap.objs.size, globals := env.globals, cells := cellsFrom (s.heap.objs.size + 1) scope.names cl, qual := env.qual, func := none, code := env.code, frame := env.frame, builtins := env.builtins }
      { s with heap := pushCells (s.heap.push { cls := .type "dict", data := .dict #[] }) scope.names }) :
    wpAny M A (newFunctionEnv scope env.globals cl [] env.qual none .none (some env)) Q E s := by
  simp only [newFunctionEnv, Option.isSome_some, if_true]
  refine wpAny_bind (wpAny_alloc ?_)
  refine wpAny_bind (wpAny_layCells _ (fun name kind cells => by cases hkc : kind == NameKind.cell <;> simp [hkc]) _ _ _ _ ?_)
  rw [show ({ s with heap := s.heap.push { cls := .type "dict", data := .dict #[] } } : Shared).heap.objs.size = s.heap.objs.size + 1 from Heap.size_push ..]
  refine wpAny_bind ?_
  rw [List.forIn_nil]
  exact wpAny_pure (wpAny_pure h)
end
end Mine
end partR3

section partR4
open PySem PySem.W PyProof.Rows
set_option maxRecDepth 100000
set_option linter.unusedVariables false
namespace Mine
section
variable {W : Wd} {c : Fc} {a : AS}

/-- a comprehension's tests -/
structure Tst (W : Wd) (c : Fc) (a : AS) (ifs : List Expr) (b : Bool) : Prop where
  go : ∀ X s, St W c X a s → ∀ (Q : Bool → Shared → Prop) (E : Value → Shared → Prop), (∀ s', Kp s s' → Q b s') →
    wpAny W.M c.A (forIn ifs true fun e r => if r = true then do let ok ← isTrue e c.env (eval e c.env); pure (ForInStep.yield ok) else pure (ForInStep.yield r)) Q E s
theorem tst_nil : Tst W c a [] true := .mk fun X s x Q E h => by rw [List.forIn_nil]; exact wpAny_pure (h s (Kp.rfl' s))
theorem tst_one {e b} (he : EvB W c a e b) : Tst W c a [e] b := .mk fun X s x Q E h => wpAny_tests_one (he.go X s x _ _ fun s' k => h s' k)

noncomputable def compRes (n : Nat) (tst : Nat → Bool) (el : Nat → PV) : List PV := ((List.range n).filter tst).map el
theorem compRes_succ (n : Nat) (tst : Nat → Bool) (el : Nat → PV) : compRes (n + 1) tst el = compRes n tst el ++ (if tst n then [el n] else []) := by
  unfold compRes
  rw [List.range_succ, List.filter_append, List.map_append]
  cases h : tst n <;> simp [h]
theorem compRes_len (n : Nat) (tst : Nat → Bool) (el : Nat → PV) : (compRes n tst el).length ≤ n := by
  unfold compRes
  rw [List.length_map]
  exact Nat.le_trans (List.length_filter_le _ _) (by simp)

theorem comp_core {X : Addr → Prop} {s : Shared} {elt iter : Expr} {x : Str} {px : Pos} {ifs : List Expr} {scope : Scope} {pos p' : Pos} {n : Nat} {item : Nat → PV} {one : Bool} {caps gl' : List Str} {capρ : List (Option PV)}
    {tst : Nat → Bool} {el : Nat → PV} {use : Option (Value → Sem Unit)} {Q : Value → Shared → Prop} {E : Value → Shared → Prop} (st : St W c X a s)
    (hfs : ∀ v, foldedSetIterable iter c.env v = pure v) (hi : EvI W c a iter n item one) (hok : compOk c.env.scope scope x caps gl' = true) (hcaps : Caps c.N a.ρ caps capρ)
    (htest : ∀ c' : Fc, c'.N = x :: caps → c'.gl = gl' → c'.k = c.k → c'.env.scope = relabel scope c.env → ∀ i σ K, i < n → (∀ q ∈ a.σ, q ∈ σ) → Tst W c' ⟨σ, K, some (item i) :: capρ, false⟩ ifs (tst i))
    (helt : ∀ c' : Fc, c'.N = x :: caps → c'.gl = gl' → c'.k = c.k → c'.env.scope = relabel scope c.env → ∀ i σ K, i < n → tst i = true → (∀ q ∈ a.σ, q ∈ σ) → Ev W c' ⟨σ, K, some (item i) :: capρ, false⟩ elt (el i))
    (hfin : ∀ D C s₅ oC m, Kp s s₅ → s.heap.get? C = none → s₅.heap.get? C = some oC → s₅.heap.Ns C m → Rep s₅.heap (fun b => a.Y X b ∨ b = C) (.lst (compRes n tst el)) (.ref D) → compPost W.M c.A E use Q (.ref D) C (.ok .next) s₅) :
    wpAny W.M c.A (comprehension (.ListComp elt [⟨.Name x px, iter, ifs, 0⟩] scope pos) scope c.env p' (newList []) false (eval iter c.env) use) Q E s := by
  simp only [compOk, Bool.and_eq_true, decide_eq_true_eq, List.all_eq_true, Bool.or_eq_true, Bool.not_eq_true', beq_iff_eq, beq_eq_false_iff_ne, List.contains_iff_mem] at hok
  obtain ⟨⟨⟨⟨⟨⟨⟨hk, hpk⟩, hnm⟩, hx⟩, hcp⟩, hgl⟩, hnd⟩, hxd⟩ := hok
  have hcapN : ∀ y ∈ caps, c.env.kindOf y = some .cell ∧ (c.env.cells.lookup y).isSome = true := fun y hy => by
    have h1 := (hcp y hy).1.2
    rcases st.ok.nm y (hcaps.mem hy) with h | h
    · have h2 : c.env.kindOf y = some .cell := h1
      rw [h2] at h; cases h
    · exact h
  have hfree : ∀ y, (y, NameKind.free) ∈ scope.names → (c.env.cells.lookup y).isSome = true := fun y hy => by
    have := (hnm _ hy).1.1
    rcases this with h | h
    · exact absurd rfl h
    · exact (hcapN y h).2
  have hnames : ∀ y ∈ scope.names, y.2 = .local → scope.names.lookup y.1 = some .local := fun y hy hl => by
    rcases (hnm y hy).2 with h | h
    · exact absurd hl h
    · exact h
  refine wpAny_comprehension_free rfl hfs (closure_run scope c.env hfree) hk hnames (hi.go X s st _ _ fun I s₂ k₂ its => ?_)
  obtain ⟨⟨fp, P, S, hW, hS0, hSex, hfp, hP⟩, hInew, ⟨oI, hoI⟩, hsz⟩ := its
  refine wpAny_newList (compEnv_new ?_)
  generalize hs3 : ({ s₂ with heap := s₂.heap.push { cls := .type "list", data := .seq ([] : List Value).toArray } } : Shared) = s₃
  have hD : s₃.heap.objs.size = s₂.heap.objs.size + 1 := by rw [← hs3]; exact Heap.size_push ..
  generalize hDe : s₂.heap.objs.size = D
  generalize hCe : s₃.heap.objs.size = C
  have hCD : C = D + 1 := by rw [← hCe, hD, hDe]
  generalize hs4 : ({ s₃ with heap := pushCells (s₃.heap.push { cls := .type "dict", data := .dict #[] }) scope.names } : Shared) = s₄
  let NC := cellsFrom (C + 1) scope.names []
  let cl := capF c.env.cells scope.names []
  have hcells : cellsFrom (C + 1) scope.names cl = NC ++ cl := cellsFrom_app ..
  rw [hcells]
  have k34 : ∀ b o, s₃.heap.get? b = some o → s₄.heap.get? b = some o := fun b o e => by
    rw [← hs4]; exact pushCells_keeps _ _ b o (Heap.get?_push_of_some _ e)
  have k23 : ∀ b o, s₂.heap.get? b = some o → s₃.heap.get? b = some o := fun b o e => by
    rw [← hs3]; exact Heap.get?_push_of_some _ e
  have k24 : ∀ b o, s₂.heap.get? b = some o → s₄.heap.get? b = some o := fun b o e => k34 b o (k23 b o e)
  have kp24 : Kp s₂ s₄ := by
    rw [← hs4, ← hs3]
    exact ⟨_, s₂.toks, rfl, fun b o e => pushCells_keeps _ _ b o (Heap.get?_push_of_some _ (Heap.get?_push_of_some _ e))⟩
  have ks4 : Kp s s₄ := k₂.tr kp24
  have lt2 : ∀ b o, s₂.heap.get? b = some o → b < D := fun b o e => by rw [← hDe]; exact Heap.lt_size e
  have lts : ∀ b o, s.heap.get? b = some o → b < D := fun b o e => lt2 b o (k₂.get e)
  have ok4 : CellsOk s₄.heap (C + 1) NC := by
    have := cellsFrom_ok scope.names (s₃.heap.push { cls := .type "dict", data := .dict #[] }) (C + 1) [] ⟨fun _ _ hm => (nomatch hm), List.Pairwise.nil⟩ (by rw [Heap.size_push, hCe]; exact Nat.le_refl _)
    rw [Heap.size_push, hCe] at this
    rw [← hs4]; exact this
  have hNCx : ∀ y d, NC.lookup y = some d → y = x ∧ C + 1 ≤ d := fun y d e => by
    have hm := mem_of_lookup e
    refine ⟨?_, (ok4.empty y d hm).2⟩
    rcases cellsFrom_names scope.names (C + 1) [] y d hm with h | h
    · rcases (hnm _ h).1.2 with h' | h'
      · exact absurd rfl h'
      · exact h'
    · cases h
  have hcl : ∀ y d, cl.lookup y = some d → c.env.cells.lookup y = some d := capF_sub c.env.cells scope.names [] hfree (fun _ _ e => by simp at e)
  obtain ⟨m, cm, hns, hc, hv⟩ := st.vars.ex
  have clt : ∀ y d, cl.lookup y = some d → d < D := fun y d e => by
    obtain ⟨o, e', _⟩ := hc y d (hcl y d e)
    exact lts d o e'
  have new : ∀ b, D ≤ b → s.heap.get? b = none := fun b hb => by
    cases e : s.heap.get? b with
    | none => rfl
    | some o => exact absurd (lts b o e) (Nat.not_lt.mpr hb)
  have hlk : ∀ y d, (NC ++ cl).lookup y = some d → (y = x ∧ NC.lookup y = some d ∧ C + 1 ≤ d) ∨ (cl.lookup y = some d) := fun y d e => by
    rw [List.lookup_append] at e
    cases e1 : NC.lookup y with
    | some d' => rw [e1] at e; exact .inl ⟨(hNCx y d' e1).1, by simpa using e, by have h9 : d' = d := (by simpa using e); exact h9 ▸ (hNCx y d' e1).2⟩
    | none => rw [e1] at e; exact .inr (by simpa using e)
  have hD4 : s₄.heap.get? D = some { cls := .type "list", data := .seq #[] } := k34 _ _ (by rw [← hs3, ← hDe]; exact Heap.get?_push_size _ rfl)
  have hC4 : s₄.heap.Ns C fun _ => none := by
    rw [← hs4, ← hCe]
    exact (Heap.Ns.new s₃.heap (.type "dict")).keeps (pushCells_keeps _ _)
  have hI4 : s₄.heap.get? I = some oI := k24 _ _ hoI
  have hID : I < D := lt2 _ _ hoI
  let env' : Env := { scope := relabel scope c.env, locals := C, globals := c.env.globals, cells := NC ++ cl, qual := c.env.qual, func := none, code := c.env.code, frame := c.env.frame, builtins := c.env.builtins }
  let c' : Fc := { env := env', A := c.A, s₀ := s, X₀ := fun _ => False, N := x :: caps, gl := gl', fr := false, k := c.k }
  let X' : Addr → Prop := fun b => X b ∨ b = I ∨ b = D ∨ b = C ∨ ∃ y, NC.lookup y = some b
  have hX' : ∀ b, X' b → (s.heap.get? b).isSome = true → X b := fun b z hz => by
    obtain ⟨o, e⟩ := Option.isSome_iff_exists.mp hz
    have hb := lts b o e
    rcases z with z | z | z | z | ⟨y, z⟩
    · exact z
    · rw [z, hInew] at e; cases e
    · exact absurd (z ▸ hb) (Nat.lt_irrefl _)
    · rw [z, hCD] at hb; exact absurd hb (Nat.not_lt.mpr (Nat.le_succ _))
    · have := (hNCx y b z).2
      rw [hCD] at this
      exact absurd (Nat.lt_of_lt_of_le (Nat.lt_of_lt_of_le hb (Nat.le_succ_of_le (Nat.le_succ D))) this) (Nat.lt_irrefl _)
  have hrel : ∀ y, env'.kindOf y = (scope.names.lookup y).map fun k => if (k == NameKind.free && c.env.scope.kind == .function && c.env.kindOf y == some .cell) then .cell else k := fun y => lookup_relab c.env y scope.names
  have hkcap : ∀ y ∈ caps, env'.kindOf y = some .cell := fun y hy => by
    rw [hrel, (hcp y hy).1.1, Option.map_some, (hcapN y hy).1, hpk]; rfl
  have hxcap : x ∉ caps := (List.nodup_cons.mp hnd).1
  have hok' : c'.Ok W := by
    refine ⟨hk, fun y hy => ?_, fun y hy => ?_, hnd, ⟨fun y hy => ?_, fun y hy => ?_⟩, st.ok.gg, st.ok.gb, st.ok.hd, st.g, fun b z => z.elim, st.ok.rm⟩
    · rcases List.mem_cons.mp hy with rfl | hy
      · rcases hx with h | h
        · refine .inl ?_
          show env'.kindOf y = _
          rw [hrel, h]; rfl
        · refine .inr ⟨?_, ?_⟩
          · show env'.kindOf y = _
            rw [hrel, h]; rfl
          · show ((NC ++ cl).lookup y).isSome = true
            rw [List.lookup_append]
            obtain ⟨d, hd⟩ := Option.isSome_iff_exists.mp (cellsFrom_some y scope.names (C + 1) [] (.inr (mem_of_lookup h)))
            have hd' : NC.lookup y = some d := hd
            rw [hd']; rfl
      · refine .inr ⟨hkcap y hy, ?_⟩
        show ((NC ++ cl).lookup y).isSome = true
        obtain ⟨d, hd⟩ := Option.isSome_iff_exists.mp (capF_some c.env.cells y scope.names [] (.inr (mem_of_lookup (hcp y hy).1.1)))
        have hd' : cl.lookup y = some d := hd
        rw [List.lookup_append]
        cases NC.lookup y <;> simp [hd']
    · show env'.kindOf y = _
      rw [hrel, (hgl y hy).1]; rfl
    · rcases List.mem_cons.mp hy with rfl | hy
      · simpa using hxd
      · simpa using (hcp y hy).2
    · simpa using (hgl y hy).2
  have hrep : ∀ {p v}, Rep s.heap X p v → Rep s₄.heap X' p v := fun r => r.mono (fun b o _ e => ks4.get e) hX'
  have hrepL : ∀ {p v}, RepL s.heap X p v → RepL s₄.heap X' p v := fun r => r.mono (fun b o _ e => ks4.get e) hX'
  have hmine : ∀ b, Mine' c X b → (s.heap.get? b).isSome = true → Mine' c' X' b := fun b hb hs => by
    obtain ⟨o, e⟩ := Option.isSome_iff_exists.mp hs
    have hlt := lts b o e
    refine ⟨.inl hb.x, fun e' => ?_, fun y d e' e'' => ?_, fun hf => by cases hf⟩
    · have e3 : b = C := e'
      rw [e3, hCD] at hlt; exact absurd hlt (Nat.not_lt.mpr (Nat.le_succ _))
    · rcases hlk y d e' with ⟨_, _, h⟩ | h
      · rw [e''] at hlt
        rw [hCD] at h
        exact absurd (Nat.lt_of_lt_of_le (Nat.lt_of_lt_of_le hlt (Nat.le_succ_of_le (Nat.le_succ D))) h) (Nat.lt_irrefl _)
      · exact hb.cl y d (hcl y d h) e''
  have hst : St W c' X' ⟨(D, []) :: a.σ, [(I, oI)], none :: capρ, false⟩ s₄ := by
    have σold : ∀ q ∈ a.σ, q.1 < D ∧ (s.heap.get? q.1).isSome = true := fun q hq => by
      obtain ⟨_, _, ⟨o, _, e, _⟩, _⟩ := st.own q hq
      exact ⟨lts _ _ e, by rw [e]; rfl⟩
    refine ⟨hok', ?_, fun b o e => ks4.get e, ⟨fun _ => none, fun y => if y = x then none else cm y, hC4, fun y d e => ?_, fun y p hy => ?_⟩, .inr (.inr (.inr (.inl rfl))), fun y d e => ?_, fun b z => z.elim, fun q hq => ?_, ?_, fun q hq => ?_, fun b z => ?_⟩
    · obtain ⟨h', tk, e, _⟩ := ks4
      exact ⟨h', tk, e⟩
    · rcases hlk y d e with ⟨rfl, h, _⟩ | h
      · show s₄.heap.IsCell d (if y = y then none else cm y)
        rw [if_pos rfl]; exact (ok4.empty y d (mem_of_lookup h)).1
      · have hyx : ¬ y = x := fun e => hxcap (by
          rcases capF_names c.env.cells scope.names [] y d (mem_of_lookup h) with h' | h'
          · rcases (hnm _ h').1.1 with h'' | h''
            · exact absurd rfl h''
            · exact e ▸ h''
          · cases h')
        show s₄.heap.IsCell d (if y = x then none else cm y)
        rw [if_neg hyx]
        exact (hc y d (hcl y d h)).keeps fun b o e => ks4.get e
    · cases hy with
      | there hy =>
        have hyc : y ∈ caps := hy.mem
        obtain ⟨v, h1, h2, h3⟩ := hv y p (hcaps.at hy)
        refine ⟨v, fun hl => ?_, fun _ => ?_, hrep h3⟩
        · have := hkcap y hyc
          have hl' : env'.kindOf y = some .local := hl
          rw [this] at hl'; cases hl'
        · show (if y = x then none else cm y) = some v
          rw [if_neg (fun e : y = x => hxcap (e ▸ hyc))]
          exact h2 (hcapN y hyc).1
    · rcases hlk y d e with ⟨_, h, _⟩ | h
      · exact .inr (.inr (.inr (.inr ⟨y, h⟩)))
      · exact .inl (st.xc y d (hcl y d h))
    · rcases List.mem_cons.mp hq with rfl | hq
      · refine ⟨⟨.inr (.inr (.inl rfl)), fun e => ?_, fun y d e e' => ?_, fun hf => by cases hf⟩, #[], ⟨_, _, hD4, rfl, rfl, rfl⟩, by simp [RepL]⟩
        · have e3 : D = C := e
          rw [hCD] at e3; exact absurd e3 (Nat.ne_of_lt (Nat.lt_succ_self D))
        · have e3 : D = d := e'
          rcases hlk y d e with ⟨_, _, h⟩ | h
          · rw [← e3, hCD] at h
            exact absurd h (Nat.not_le.mpr (Nat.lt_succ_of_le (Nat.le_succ D)))
          · exact absurd (e3 ▸ clt y d h) (Nat.lt_irrefl _)
      · obtain ⟨h1, xs, h2, h3⟩ := st.own q hq
        exact ⟨hmine _ h1 (σold q hq).2, xs, h2.keeps fun b o e => ks4.get e, hrepL h3⟩
    · refine List.nodup_cons.mpr ⟨fun hm => ?_, st.ownd⟩
      obtain ⟨q, hq, e⟩ := List.mem_map.mp hm
      exact absurd (e ▸ (σold q hq).1) (Nat.lt_irrefl _)
    · obtain rfl := List.mem_singleton.mp hq
      refine ⟨⟨⟨.inr (.inl rfl), fun e => ?_, fun y d e e' => ?_, fun hf => by cases hf⟩, fun hm => ?_⟩, hI4⟩
      · have e3 : I = C := e
        rw [e3, hCD] at hID; exact absurd hID (Nat.not_lt.mpr (Nat.le_succ D))
      · have e3 : I = d := e'
        rcases hlk y d e with ⟨_, _, h⟩ | h
        · rw [e3] at hID
          rw [hCD] at h
          exact absurd (Nat.lt_of_lt_of_le (Nat.lt_of_lt_of_le hID (Nat.le_succ_of_le (Nat.le_succ D))) h) (Nat.lt_irrefl _)
        · obtain ⟨o, e4, _⟩ := hc y d (hcl y d h)
          rw [← e3, hInew] at e4; cases e4
      · have hm : I ∈ D :: a.σ.map (·.1) := hm
        rcases List.mem_cons.mp hm with e | hm
        · exact absurd (e ▸ hID) (Nat.lt_irrefl _)
        · obtain ⟨q, hq, e⟩ := List.mem_map.mp hm
          have := (σold q hq).2
          rw [e, hInew] at this; cases this
    · rcases z with z | z | z | z | ⟨y, z⟩
      · obtain ⟨o, e⟩ := Option.isSome_iff_exists.mp (st.xd b z)
        rw [ks4.get e]; rfl
      · rw [z, hI4]; rfl
      · rw [z, hD4]; rfl
      · obtain ⟨o, _, _, e, _⟩ := hC4
        rw [z, e]; rfl
      · obtain ⟨o, e, _⟩ := (ok4.empty y b (mem_of_lookup z)).1
        rw [e]; rfl
  have hxcl : ∀ d, cl.lookup x = some d → False := fun d h => by
    rcases capF_names c.env.cells scope.names [] x d (mem_of_lookup h) with h' | h'
    · rcases (hnm _ h').1.1 with h'' | h''
      · exact h'' rfl
      · exact hxcap h''
    · cases h'
  have hDC : D < C := by rw [hCD]; exact Nat.lt_succ_self D
  have hsto : c'.Sto x := by
    refine ⟨new C (Nat.le_of_lt hDC), fun y d e => ?_, fun y d d' e e' hne => ?_, fun d _ e => ?_⟩
    · rcases hlk y d e with ⟨_, _, h⟩ | h
      · exact Nat.ne_of_gt h
      · exact Nat.ne_of_lt (Nat.lt_trans (clt y d h) hDC)
    · rcases hlk x d e with ⟨_, _, h⟩ | h
      · rcases hlk y d' e' with ⟨h1, _, _⟩ | h'
        · exact absurd h1 hne
        · exact Nat.ne_of_lt (Nat.lt_trans (Nat.lt_trans (clt y d' h') hDC) h)
      · exact (hxcl d h).elim
    · rcases hlk x d e with ⟨_, _, h⟩ | h
      · exact new d (Nat.le_of_lt (Nat.lt_trans hDC h))
      · exact (hxcl d h).elim
  have ne2 : ∀ b o, s₂.heap.get? b = some o → b ≠ D ∧ b ≠ C ∧ ∀ d, env'.cells.lookup x = some d → b ≠ d := fun b o e => by
    have hb := lt2 b o e
    refine ⟨Nat.ne_of_lt hb, Nat.ne_of_lt (Nat.lt_trans hb hDC), fun d e' => ?_⟩
    rcases hlk x d e' with ⟨_, _, h⟩ | h
    · exact Nat.ne_of_lt (Nat.lt_trans (Nat.lt_trans hb hDC) h)
    · exact (hxcl d h).elim
  have loop : codeAny W.M c.A (.compLoop (.ListComp elt [⟨.Name x px, iter, ifs, 0⟩] scope pos) 0 (.ref I) (.ref D) env') (compPost W.M c.A E use Q (.ref D) C) s₄ := by
    refine codeAny_compLoop_tests (fun k s' => ∃ i o slot, k = n + 1 - i ∧ i ≤ n ∧ St W c' X' ⟨(D, compRes i tst el) :: a.σ, [(I, o)], slot :: capρ, false⟩ s' ∧ S i s'.heap ∧ ∀ b o, b ≠ I → s₂.heap.get? b = some o → s'.heap.get? b = some o) ?_ (n + 1)
      ⟨0, oI, none, rfl, Nat.zero_le _, hst, hW.frame _ _ _ hS0 (fun b _ o e => k24 b o e), fun b o _ e => k24 b o e⟩ (by intro _; rfl)
    rintro k s' ⟨i, o, slot, rfl, hi', st', hS, hH⟩
    obtain ⟨⟨hmI', hIσ'⟩, _⟩ := st'.kk _ List.mem_cons_self
    by_cases hlt : i < n
    · refine hW.item i s' _ _ hlt hS fun v h' tk hPv hS' hk' => ?_
      obtain ⟨o', ho'⟩ := Option.isSome_iff_exists.mp (hSex _ _ hS')
      have hEB : Heap.ExtBut I s'.heap h' := fun b o hb e => hk' b o (fun hm => hb (List.mem_singleton.mp hm)) e
      have st'' := st'.swap (h' := h') (tk := tk) hmI' hIσ' hEB ho' [] (fun q hq => by cases hq) hInew
      refine wpAny_assign_Name (store_name st'' hsto Put.here (hP i v hlt hPv _ _) fun s₅ st₅ hk₅ => ?_)
      refine (htest c' rfl rfl rfl rfl i ((D, compRes i tst el) :: a.σ) [(I, o')] hlt (fun q hq => List.mem_cons_of_mem _ hq)).go X' s₅ st₅ _ _ fun s₆ k₆ => ?_
      have st₆ := st₅.keeps k₆
      have up6 : ∀ b ob, b ≠ I → (s₂.heap.get? b).isSome = true → s'.heap.get? b = some ob → s₆.heap.get? b = some ob := fun b ob hb hs e => by
        obtain ⟨o2, e2⟩ := Option.isSome_iff_exists.mp hs
        obtain ⟨n1, n2, n3⟩ := ne2 b o2 e2
        exact k₆.get (hk₅ b ob n2 (fun d _ hd => n3 d hd) (hEB b ob hb e))
      have S6 : S (i + 1) s₆.heap := by
        refine hW.frame _ _ _ hS' fun b hb ob e => ?_
        by_cases hbI : b = I
        · subst hbI
          have e4 : s₆.heap.get? b = some o' := (st₆.kk _ List.mem_cons_self).2
          rw [ho'] at e; cases e; exact e4
        · rcases hfp b hb with h | ⟨_, _, h⟩
          · exact absurd h hbI
          · obtain ⟨o2, e2⟩ := Option.isSome_iff_exists.mp h
            obtain ⟨n1, n2, n3⟩ := ne2 b o2 e2
            exact k₆.get (hk₅ b ob n2 (fun d _ hd => n3 d hd) e)
      have H6 : ∀ b o, b ≠ I → s₂.heap.get? b = some o → s₆.heap.get? b = some o := fun b ob hb e => up6 b ob hb (by rw [e]; rfl) (hH b ob hb e)
      cases ht : tst i with
      | false =>
        simp only [Bool.false_eq_true, if_false]
        have e1 : compRes (i + 1) tst el = compRes i tst el := by rw [compRes_succ, ht]; simp
        exact ⟨n + 1 - (i + 1), by omega, i + 1, o', _, rfl, hlt, e1 ▸ st₆, S6, H6⟩
      | true =>
        simp only [if_true]
        refine (helt c' rfl rfl rfl rfl i ((D, compRes i tst el) :: a.σ) [(I, o')] hlt ht (fun q hq => List.mem_cons_of_mem _ hq)).go X' s₆ st₆ _ _ fun y s₇ k₇ r₇ => ?_
        have st₇ := st₆.keeps k₇
        refine append_own (σ' := (D, compRes i tst el ++ [el i]) :: a.σ) st₇ OPut.here (r₇.mono (fun _ _ _ e => e) fun b z _ => ⟨z, fun hl => by cases hl⟩) (Nat.le_trans (compRes_len i tst el) (Nat.le_trans hi' hsz)) (fun s₈ st₈ hk₈ => ?_) (new D (Nat.le_refl D))
        have e1 : compRes (i + 1) tst el = compRes i tst el ++ [el i] := by rw [compRes_succ, ht]; simp
        refine ⟨n + 1 - (i + 1), by omega, i + 1, o', _, rfl, hlt, e1 ▸ st₈, ?_, fun b ob hb e => ?_⟩
        · refine hW.frame _ _ _ S6 fun b hb ob e => hk₈.2 b ob (fun e' => ?_) (k₇.get e)
          rcases hfp b hb with h | ⟨_, _, h⟩
          · rw [h] at e'; exact absurd (e' ▸ hID) (Nat.lt_irrefl _)
          · obtain ⟨o2, e2⟩ := Option.isSome_iff_exists.mp h
            exact (ne2 b o2 e2).1 e'
        · exact hk₈.2 b ob (ne2 b ob e).1 (k₇.get (H6 b ob hb e))
    · have hin : i = n := by omega
      subst hin
      refine hW.done s' _ _ hS fun h' tk hk' => ?_
      have hEB : Heap.ExtBut I s'.heap h' := fun b o hb e => hk' b o (fun hm => hb (List.mem_singleton.mp hm)) e
      obtain ⟨m', cm', hns', _, _⟩ := st'.vars.ex
      obtain ⟨_, xs, hp, hr⟩ := st'.own (D, compRes i tst el) List.mem_cons_self
      have hIC : I ≠ C := Nat.ne_of_lt (Nat.lt_trans hID hDC)
      have hns'' : h'.Ns C m' := Heap.Ns.extBut hns' hEB (Ne.symm hIC)
      obtain ⟨oC, es, ep, eC, rC⟩ := id hns''
      refine hfin D C { s' with heap := h', toks := tk } oC m' ?_ (new C (Nat.le_of_lt hDC)) eC hns'' ?_
      · obtain ⟨hh, tt, he⟩ := st'.same
        refine ⟨h', tk, by rw [he], fun b ob e => hEB b ob (fun e' => ?_) (st'.keep b ob e)⟩
        rw [e', hInew] at e; cases e
      · simp only [Rep]
        refine ⟨D, xs, rfl, fun z => ?_, plainL_but hEB (fun e => absurd (e ▸ hID) (Nat.lt_irrefl _)) hp, ?_⟩
        · rcases z with z | z
          · obtain ⟨oz, ez⟩ := Option.isSome_iff_exists.mp (st.xd _ z.1)
            rw [new D (Nat.le_refl D)] at ez; cases ez
          · exact absurd (z ▸ hDC) (Nat.lt_irrefl _)
        · refine (hr.but hmI'.x hEB).mono (fun _ _ _ e => e) fun b z _ => ?_
          rcases z with z | z
          · exact .inl z.1
          · exact .inr (.inr (.inr (.inl z)))
  exact codeAny_compStart_list loop (hW.self 0 s₄ _ _ (hW.frame _ _ _ hS0 (fun b _ o e => k24 b o e)) loop)
end
end Mine
end partR4

section partR5
open PySem PySem.W PyProof.Rows
set_option maxRecDepth 100000
set_option linter.unusedVariables false
namespace Mine
theorem Kp.tr' {s s' s'' : Shared} (k : Kp s s') (e : ∃ h tk, s'' = { s' with heap := h, toks := tk }) (h : ∀ b o, s.heap.get? b = some o → s''.heap.get? b = some o) : Kp s s'' := by
  obtain ⟨h', tk, rfl, _⟩ := k
  obtain ⟨h'', tk', rfl⟩ := e
  exact ⟨h'', tk', rfl, h⟩
section
variable {W : Wd} {c : Fc} {a : AS}

theorem ev_comp {elt iter : Expr} {x : Str} {px : Pos} {ifs : List Expr} {scope : Scope} {pos : Pos} {n : Nat} {item : Nat → PV} {one : Bool} {caps gl' : List Str} {capρ : List (Option PV)}
    {tst : Nat → Bool} {el : Nat → PV} {sc : Scope} {N : List Str} (hfs : ∀ v, foldedSetIterable iter c.env v = pure v) (hN : c.N = N) (hsc : c.env.scope = sc) (hok : compOk sc scope x caps gl' = true) (hi : EvI W c a iter n item one) (hcaps : Caps N a.ρ caps capρ)
    (htest : ∀ c' : Fc, c'.N = x :: caps → c'.gl = gl' → c'.k = c.k → c'.env.scope = relabel scope c.env → ∀ i σ K, i < n → (∀ q ∈ a.σ, q ∈ σ) → Tst W c' ⟨σ, K, some (item i) :: capρ, false⟩ ifs (tst i))
    (helt : ∀ c' : Fc, c'.N = x :: caps → c'.gl = gl' → c'.k = c.k → c'.env.scope = relabel scope c.env → ∀ i σ K, i < n → tst i = true → (∀ q ∈ a.σ, q ∈ σ) → Ev W c' ⟨σ, K, some (item i) :: capρ, false⟩ elt (el i)) :
    Ev W c a (.ListComp elt [⟨.Name x px, iter, ifs, 0⟩] scope pos) (.lst (compRes n tst el)) := .mk fun X s st Q E h => by
  rw [eval_ListComp]
  refine comp_core (use := none) st hfs hi (hsc ▸ hok) (hN ▸ hcaps) htest helt fun D C s₅ oC m k hC hC5 hns r => ?_
  refine ⟨m, hns, fun h' hs => h _ _ (k.tr' ⟨h', s₅.toks, rfl⟩ ?_) ?_⟩
  · intro b o e
    exact hs.extBut b o (fun e' => by rw [e', hC] at e; cases e) (k.get e)
  · exact (r.but (.inr rfl) hs.extBut).mono (fun _ _ _ e => e) fun b z _ => .inl z

theorem rn_comp {y : Str} {py spos : Pos} {rest : List Stmt} {post : Post} {σ K ρ ρ'} {elt iter : Expr} {x : Str} {px : Pos} {ifs : List Expr} {scope : Scope} {pos : Pos} {n : Nat} {item : Nat → PV} {one : Bool} {caps gl' : List Str} {capρ : List (Option PV)}
    {tst : Nat → Bool} {el : Nat → PV} {sc : Scope} {N : List Str} (hfs : ∀ v, foldedSetIterable iter c.env v = pure v) (hf : c.Fr) (hN : c.N = N) (hsc : c.env.scope = sc) (hok : compOk sc scope x caps gl' = true)
    (hy : (sc.names.lookup y == some .local && py.line == pos.line && !(scope.names.any fun z => z.1 == y && (z.2 == .local || z.2 == .cell))) = true)
    (hi : EvI W c ⟨σ, K, ρ, false⟩ iter n item one) (hcaps : Caps N ρ caps capρ)
    (htest : ∀ c' : Fc, c'.N = x :: caps → c'.gl = gl' → c'.k = c.k → c'.env.scope = relabel scope c.env → ∀ i σ' K, i < n → (∀ q ∈ σ, q ∈ σ') → Tst W c' ⟨σ', K, some (item i) :: capρ, false⟩ ifs (tst i))
    (helt : ∀ c' : Fc, c'.N = x :: caps → c'.gl = gl' → c'.k = c.k → c'.env.scope = relabel scope c.env → ∀ i σ' K, i < n → tst i = true → (∀ q ∈ σ, q ∈ σ') → Ev W c' ⟨σ', K, some (item i) :: capρ, false⟩ elt (el i))
    (hx : Put N ρ y (.lst (compRes n tst el)) ρ') (h : Run W c ⟨σ, K, ρ', false⟩ rest post) :
    Run W c ⟨σ, K, ρ, false⟩ (.Assign [.Name y py] (.ListComp elt [⟨.Name x px, iter, ifs, 0⟩] scope pos) spos :: rest) post := .mk fun X s st E => by
  refine cons_of ?_
  have hsw : swapsWith (.ListComp elt [⟨.Name x px, iter, ifs, 0⟩] scope pos) (some (.Name y py)) spos.line c.env = pure true := by
    have e : swapsWith (.ListComp elt [⟨.Name x px, iter, ifs, 0⟩] scope pos) (some (.Name y py)) spos.line c.env =
      pure (c.env.blockKind == .function && c.env.kindOf y == some .local && py.line == pos.line && !(scope.names.any fun z => z.1 == y && (z.2 == .local || z.2 == .cell))) := rfl
    rw [e]
    have hb : c.env.blockKind = .function := by unfold Env.blockKind; rw [st.ok.fn]; rfl
    have hk : c.env.kindOf y = sc.names.lookup y := by unfold Env.kindOf; rw [hsc]
    rw [hb, hk]
    simp only [Bool.and_eq_true] at hy
    rw [hy.1.1, hy.1.2, hy.2]
    rfl
  rw [exec_Assign_Name_used _ _ _ _ hsw]
  refine wpAny_bind (wpAny_standAt (wpAny_bind ?_))
  show wpAny _ _ (do let _ ← comprehension (.ListComp elt [⟨.Name x px, iter, ifs, 0⟩] scope pos) scope c.env _ (newList []) false (eval iter c.env) (some (assign (.Name y py) c.env))) _ _ s
  refine wpAny_bind (wpAny_mono (comp_core (use := some (assign (.Name y py) c.env)) (Q := fun _ s' => Then W c rest post .next s') (E := E) st hfs hi (hsc ▸ hok) (hN ▸ hcaps) htest helt fun D C s₅ oC m k hC hC5 hns r => ?_) (fun _ s' h' => wpAny_pure (wpAny_pure h')) fun _ _ e => e)
  obtain ⟨st₅, hmC, hCσ, hCK, hC0⟩ := st.take k hC hC5
  show wpAny _ _ (assign (.Name y py) c.env (.ref D)) _ _ s₅
  refine wpAny_assign_Name (store_name st₅ (hf.sto y) (hN ▸ hx) (r.mono (fun _ _ _ e => e) fun b z _ => ?_) fun s₆ st₆ _ => ?_)
  · rcases z with z | z
    · exact .inl ⟨z, fun hl => by cases hl⟩
    · exact .inr z
  · have hC6 := (st₆.kk _ List.mem_cons_self).2
    refine ⟨m, ?_, fun h' hs => ?_⟩
    · obtain ⟨o, es, ep, e, r'⟩ := hns
      rw [hC5] at e; cases e
      exact ⟨_, es, ep, hC6, r'⟩
    · have st₇ := st₆.leave (tk := s₆.toks) hmC hCσ hs.extBut K (fun q hq => ⟨List.mem_cons_of_mem _ hq, fun e => hCK (List.mem_map.mpr ⟨q, hq, e⟩)⟩) hC0
      exact fun E' => h.go _ _ st₇ E'

theorem sw_false {elt : Expr} {gens : List Comprehension} {scope : Scope} {pos py : Pos} {y : Str} {l : Nat} {sc : Scope} (hsc : c.env.scope = sc) (hy : (sc.names.lookup y == some .local && py.line == pos.line) = false) :
    swapsWith (.ListComp elt gens scope pos) (some (.Name y py)) l c.env = pure false := by
  have e : swapsWith (.ListComp elt gens scope pos) (some (.Name y py)) l c.env =
      pure (c.env.blockKind == .function && c.env.kindOf y == some .local && py.line == pos.line && !(scope.names.any fun z => z.1 == y && (z.2 == .local || z.2 == .cell))) := rfl
  rw [e]
  have hk : c.env.kindOf y = sc.names.lookup y := by unfold Env.kindOf; rw [hsc]
  rw [hk, Bool.and_assoc (c.env.blockKind == .function), hy]
  simp
end
end Mine
end partR5

section partR6
open PySem PySem.W PyProof.Rows
open PySem.MeetsSeq PySem.SeqRoads2 PySem.SeqAt
set_option maxRecDepth 100000
set_option linter.unusedVariables false
namespace Mine
section
variable {W : Wd} {c : Fc} {a : AS}

theorem strs_of {h : Heap} {X : Addr → Prop} : ∀ {l : List (List Nat)} {vs : List Value}, RepL h X (l.map .str) vs → ∃ l' : List (Str × Tok), vs = strValues l' ∧ l'.map (·.1) = l.map strOf
  | [], [], _ => ⟨[], rfl, rfl⟩
  | x :: l, v :: vs, r => by
    simp only [List.map_cons, RepL] at r
    obtain ⟨l', h1, h2⟩ := strs_of r.2
    have r1 := r.1
    simp only [Rep] at r1
    obtain ⟨t, rfl⟩ := r1
    exact ⟨(strOf x, t) :: l', by rw [h1]; rfl, by simp [h2]⟩
  | [], _ :: _, r => by simp [RepL] at r
  | _ :: _, [], r => by simp [RepL] at r

theorem join_nil : ∀ l : List (List Nat), Str.join (strOf []) (l.map strOf) = strOf l.flatten
  | [] => rfl
  | [x] => by simp [Str.join]
  | x :: y :: r => by
    show strOf x ++ strOf [] ++ Str.join (strOf []) ((y :: r).map strOf) = _
    rw [join_nil (y :: r), strOf_app, strOf_app]; simp

theorem sum_len : ∀ l : List (List Nat), ((l.map strOf).map (·.length)).sum = l.flatten.length
  | [] => rfl
  | x :: r => by simp only [List.map_cons, List.sum_cons, List.flatten_cons, List.length_append, sum_len r, strOf_len]

theorem ev_join {o e : Expr} {apos pos : Pos} {l : List (List Nat)} (hbase : attributeBase o (Str.ofString "join") c.env (eval o c.env) = eval o c.env) (hst : starEach [e] c.env = [(false, eval e c.env)]) (hline : (apos.endLine == pos.line) = true)
    (ho : Ev W c a o (.str [])) (he : Ev W c a e (.lst (l.map .str))) (hsz : l.flatten.length ≤ sizeLine) :
    Ev W c a (.Call (.Attribute o (Str.ofString "join") apos) [e] [] pos) (.str l.flatten) := .mk fun X s x Q E h => by
  refine Call_method1 hbase hst hline (ho.go X s x _ _ fun v s₁ k₁ r₁ => ?_)
  simp only [Rep] at r₁
  obtain ⟨t, rfl⟩ := r₁
  refine SB.join (he.go X s₁ (x.keeps k₁) _ _ fun v s₂ k₂ r₂ => ?_)
  simp only [Rep] at r₂
  obtain ⟨D, xs, rfl, hx, hp, hr⟩ := r₂
  obtain ⟨l', h1, h2⟩ := strs_of hr
  refine ⟨D, l', rfl, ?_, l.map strOf, h2, ?_, fun t' k => ?_⟩
  · rw [← h1]; exact hp.isList
  · unfold JoinOk
    rw [StrLaws.joinTotal, sum_len]
    simp [strOf_len, Builtin.Str.tooLong]
    simpa using hsz
  · have e1 : Txt.join (strOf []) (l.map strOf) = strOf l.flatten := by
      show Builtin.Str.glued (strOf []) (l.map strOf) = _
      rw [StrLaws.glued_eq_join, join_nil]
    rw [e1]
    exact h _ _ ((k₁.tr k₂).tr (Kp.tok _ _)) (by simp only [Rep]; exact ⟨_, rfl⟩)

theorem ev_lower {o : Expr} {apos pos : Pos} {n m : Nat} (hbase : attributeBase o (Str.ofString "lower") c.env (eval o c.env) = eval o c.env) (hline : (apos.endLine == pos.line) = true)
    (ho : Ev W c a o (.str [n])) (hl : Txt.lower (strOf [n]) = strOf [m]) :
    Ev W c a (.Call (.Attribute o (Str.ofString "lower") apos) [] [] pos) (.str [m]) := .mk fun X s x Q E h => by
  refine Call_method0 hbase hline (ho.go X s x _ _ fun v s₁ k₁ r₁ => ?_)
  simp only [Rep] at r₁
  obtain ⟨t, rfl⟩ := r₁
  refine SB.lower ?_ ?_
  · rw [hl, strOf_len]; rfl
  · rw [hl]
    exact h _ _ (k₁.tr (Kp.tok _ _)) (by simp only [Rep]; exact ⟨_, rfl⟩)

theorem ev_index {o e : Expr} {apos pos : Pos} {l : List Int} {k : Int} (hbase : attributeBase o (Str.ofString "index") c.env (eval o c.env) = eval o c.env) (hst : starEach [e] c.env = [(false, eval e c.env)]) (hline : (apos.endLine == pos.line) = true)
    (ho : Ev W c a o (.lst (l.map .int))) (he : Ev W c a e (.int k)) (hk : k ∈ l) (hsz : l.length ≤ sizeLine) :
    Ev W c a (.Call (.Attribute o (Str.ofString "index") apos) [e] [] pos) (.int (l.idxOf k)) := .mk fun X s x Q E h => by
  refine Call_method1 hbase hst hline (ho.go X s x _ _ fun v s₁ k₁ r₁ => ?_)
  have r₁' := r₁
  simp only [Rep] at r₁
  obtain ⟨D, xs, rfl, hx, ⟨⟨cls, dd, data, sl'⟩, n, ho', hc, hd, hd'⟩, hr⟩ := r₁
  simp only at hc hd hd'
  subst hc hd hd'
  refine ⟨"list", "list.index", F.plainAttrs_list, F.slot_list_index, F.type_list_index, ⟨_, ho', rfl⟩, fun b hb => ⟨_, (by cases hb; exact ho'), rfl⟩, ?_⟩
  refine Calls.callWith_builtin rfl (Calls.evalArgs_plain (Calls.spliced_cons (he.go X s₁ (x.keeps k₁) _ _ fun y s₂ k₂ r₂ => Calls.spliced_nil ?_)))
  simp only [Rep] at r₂
  obtain ⟨t, rfl⟩ := r₂
  have hj : l.idxOf k < l.length := List.idxOf_lt_length_iff.mpr hk
  have hlen : xs.size = l.length := by have := hr.length; simpa using this.symm
  have key : ∀ (j : Nat) (hj : j < xs.size), ∃ u, xs[j] = .int (l[j]'(by omega)) u := fun j hj => by
    obtain ⟨p, h1, h2⟩ := hr.get' (i := j) (v := xs[j]) (by simp [hj])
    have e1 : p = .int (l[j]'(by omega)) := by
      rw [List.getElem?_map, List.getElem?_eq_getElem (by omega : j < l.length)] at h1
      simpa using h1.symm
    subst e1
    simpa only [Rep] using h2
  have hz : sizeLine = 16777216 := rfl
  refine call_meets PySem.F.slot_list_index ⟨_, k₂.get ho', rfl⟩ PySem.F.entry_list_index (PySem.F.args_list_index_2 _ _)
    (list_indexAt D xs n none sl' (.int k t) (isInt k) (l.idxOf k) (by omega) (by omega) ?_ ?_) ⟨k₂.get ho', fun y hy => ?_, ?_⟩
  · obtain ⟨u, e1⟩ := key (l.idxOf k) (by omega)
    rw [e1]
    show (_ == k) = true
    simp [List.getElem_idxOf hj]
  · intro j hjs hlt
    obtain ⟨u, e1⟩ := key j hjs
    rw [e1]
    show (_ == k) = false
    have := ne_of_lt_idxOf hlt (by omega)
    simpa using this
  · obtain ⟨j, hj', rfl⟩ := Array.mem_iff_getElem.mp hy
    obtain ⟨u, e1⟩ := key j hj'
    rw [e1]
    exact (EqGives.int _ k u t).at _ _
  · exact h _ _ ((k₁.tr k₂).tr (Kp.tok _ _)) (by simp only [Rep]; exact ⟨_, rfl⟩)
end
end Mine
end partR6

section partR7
open PySem PySem.W PyProof.Rows
set_option maxRecDepth 100000
set_option linter.unusedVariables false
namespace Mine
section
variable {W : Wd} {c : Fc} {a : AS}

theorem rn_unpack2 {x y : Str} {px py tpos pos : Pos} {k : Nat} {value : Expr} {rest : List Stmt} {post : Post} {p q : PV} {N : List Str} {σ K ρ ρ' ρ''} (hsw : swapsWithSole [.Tuple [.Name x px, .Name y py] k tpos] value pos.line c.env = pure false)
    (hw : swappedStores [.Tuple [.Name x px, .Name y py] k tpos] value c.env = pure none) (hf : c.Fr) (hN : c.N = N) (he : Ev W c ⟨σ, K, ρ, false⟩ value (.tup [p, q])) (hx : Put N ρ x p ρ') (hy : Put N ρ' y q ρ'')
    (h : Run W c ⟨σ, K, ρ'', false⟩ rest post) : Run W c ⟨σ, K, ρ, false⟩ (.Assign [.Tuple [.Name x px, .Name y py] k tpos] value pos :: rest) post := .mk fun X s st E => by
  refine cons_of (PyProof.Rows.Assign_Tuple (hs := hsw) (hw := hw) (he.go X s st _ _ fun v s₁ k₁ r₁ => ?_))
  simp only [Rep] at r₁
  obtain ⟨t, xs, rfl, hx', ht, hr⟩ := r₁
  obtain ⟨v1, v2, hv, r1, r2⟩ := RepL.two hr
  have e : xs.size = 2 := by rw [← Array.length_toList, hv]; rfl
  refine wpAny_assign_Tuple st.ok.hd ht (by rw [e]; rfl) rfl fun h' hh' => ?_
  have k₂ : Kp s₁ { s₁ with heap := h' } := ⟨h', s₁.toks, rfl, fun b o e => hh' b o (Nat.ne_of_lt (Heap.lt_size e)) e⟩
  rw [hv]
  show wpAny _ _ (holding [v2] (assign (.Name x px) c.env v1) >>= fun _ => holding [] (assign (.Name y py) c.env v2) >>= fun _ => pure ()) _ _ _
  have st₂ := (st.keeps k₁).keeps k₂
  have up : ∀ {p v}, Rep s₁.heap ((⟨σ, K, ρ, false⟩ : AS).Y X) p v → Rep h' X p v := fun r => (r.keeps k₂).mono (fun _ _ _ e => e) fun b z _ => ⟨z, fun hl => by cases hl⟩
  refine wpAny_bind (wpAny_holding (wpAny_assign_Name (store_name st₂ (hf.sto x) (hN ▸ hx) (up r1) fun s₃ st₃ hk₃ => ?_)))
  refine wpAny_bind (wpAny_holding (wpAny_assign_Name (store_name st₃ (hf.sto y) (hN ▸ hy) ?_ fun s₄ st₄ _ => wpAny_pure ?_)))
  · exact (up r2).mono (fun b o hb e => hk₃ b o (fun e' => hb (e' ▸ st₂.xl)) (fun d _ hd e' => hb (e' ▸ st₂.xc _ d hd)) e) fun b z _ => z
  · exact fun E' => h.go X s₄ st₄ E'

theorem b_min {i j : Int} : BFun W "min" 0 [.int i, .int j] (.int (if j < i then j else i)) := .mk fun s A X vals g rm hd hX r Q E h => by
  obtain ⟨v, u, rfl, r1, r2⟩ := RepL.two r
  simp only [Rep] at r1 r2
  obtain ⟨t, rfl⟩ := r1
  obtain ⟨t', rfl⟩ := r2
  refine min_two_ints hd fun h' tk hk => ?_
  have k : Kp s { s with heap := h', toks := tk } := ⟨h', tk, rfl, hk⟩
  by_cases hc : j < i
  · rw [if_pos hc]
    refine h _ _ k ?_
    rw [if_pos hc]
    simp only [Rep]; exact ⟨_, rfl⟩
  · rw [if_neg hc]
    refine h _ _ k ?_
    rw [if_neg hc]
    simp only [Rep]; exact ⟨_, rfl⟩

theorem ints_of {h : Heap} {X : Addr → Prop} : ∀ {l : List Int} {vs : List Value}, RepL h X (l.map .int) vs → IntsAre vs l
  | [], [], _ => .nil
  | x :: l, v :: vs, r => by
    simp only [List.map_cons, RepL] at r
    have r1 := r.1
    simp only [Rep] at r1
    obtain ⟨t, rfl⟩ := r1
    exact .cons x t (ints_of r.2)
  | [], _ :: _, r => by simp [RepL] at r
  | _ :: _, [], r => by simp [RepL] at r
theorem of_ints {h : Heap} {X : Addr → Prop} : ∀ {l : List Int} {vs : List Value}, IntsAre vs l → RepL h X (l.map .int) vs
  | _, _, .nil => by simp [RepL]
  | _, _, .cons n t r => by simp only [List.map_cons, RepL]; exact ⟨by simp only [Rep]; exact ⟨t, rfl⟩, of_ints r⟩

theorem b_sum {l : List Int} (hfit : ∀ j, j < l.length → InLong (l.getD j 0) ∧ InLong ((l.take (j + 1)).sum)) : BFun W "sum" 0 [.lst (l.map .int)] (.int l.sum) := .mk fun s A X vals g rm hd hX r Q E h => by
  obtain ⟨v, rfl, r1⟩ := RepL.one r
  simp only [Rep] at r1
  obtain ⟨D, xs, rfl, hx, hp, hr⟩ := r1
  have hi := ints_of hr
  obtain ⟨ys, hys⟩ := hi.allInts.items
  have hn : numsOf xs.toList = l := hi.numsOf
  have hys' : xs = intItems ys := by simpa using hys
  subst hys'
  rw [nums_intItems] at hn
  refine sum_intList hd hp.isList (fun j hj => ?_) fun h' tk t' hk => ?_
  · rw [numAt_eq, preSum_eq, hn]
    exact hfit j (by rw [← hn]; simpa using hj)
  · rw [preSum_eq, List.take_of_length_le (by simp), hn]
    exact h _ _ ⟨h', tk, rfl, hk⟩ (by simp only [Rep]; exact ⟨_, rfl⟩)

theorem b_sorted {l : List Int} (h64 : l.length < 64) {m : List Int} (hm : m.Perm l) (hs : m.Pairwise (· ≤ ·)) : BFun W "sorted" 0 [.lst (l.map .int)] (.lst (m.map .int)) := .mk fun s A X vals g rm hd hX r Q E h => by
  obtain ⟨v, rfl, r1⟩ := RepL.one r
  simp only [Rep] at r1
  obtain ⟨D, xs, rfl, hx, hp, hr⟩ := r1
  have hi := ints_of hr
  refine sorted_ints (vs := xs.toList) (by simpa using hp.isList) hi (by rw [← hr.length, List.length_map]; exact h64) fun out ns' a1 a2 a3 => ?_
  have e : ns' = m := List.Perm.eq_of_pairwise (fun _ _ _ _ h1 h2 => Int.le_antisymm h1 h2) a3 hs (a2.trans hm.symm)
  subst e
  obtain ⟨ep, he⟩ := sortedAll_at s.heap xs.toList out
  have k : Kp s { s with heap := sortedAll s.heap xs.toList out } := ⟨_, s.toks, rfl, fun b o e => sortedAll_old e⟩
  refine h _ _ k ?_
  simp only [Rep]
  refine ⟨_, out, rfl, fun z => ?_, ⟨_, ep, he, rfl, rfl, rfl⟩, of_ints a1⟩
  obtain ⟨o, ho⟩ := Option.isSome_iff_exists.mp (hX _ z)
  exact absurd (Nat.lt_of_succ_lt (Heap.lt_size ho)) (Nat.lt_irrefl _)
end
end Mine
end partR7

section partR8
open PySem PySem.W PyProof.Rows
open PySem.Spec (lookup)
open PyProof.V
set_option maxRecDepth 100000
set_option linter.unusedVariables false
namespace Mine
section
variable {W : Wd} {c : Fc} {a : AS}

theorem ev_strl {x : Str} {l : List Nat} {k pos} (h : x.cps.toList = l) : Ev W c a (.Constant (.str x) k pos) (.str l) := h ▸ ev_str

theorem ev_glob {x : Str} {pos : Pos} {v : Value} {gl : List Str} (hgl : c.gl = gl) (hx : x ∈ gl) (hg : W.mg x = some v) : Ev W c a (.Name x pos) (.raw v) := .mk fun X s x₁ Q E h =>
  Calls.Name_function_global x₁.ok.fn (x₁.ok.gm x (hgl ▸ hx)) (Calls.loadGlobal_global (env := c.env) (mg := W.mg) (by rw [x₁.ok.gg]; exact W.ns _ x₁.g) hg (h _ _ (Kp.rfl' _) (by simp only [Rep]))) (x₁.ok.db.2 x (hgl ▸ hx))

theorem cmp_in_set {b : Addr} {S : Int → Bool} {n : Nat} {k : Int} (hS : ∀ h, W.g h → h.SetOf (intKind W.prog W.w) b S n) : CmpR W .In (.int k) (.raw (.ref b)) (S k) := .mk fun A s X u v hd rm g x y Q E h => by
  simp only [Rep] at x y
  obtain ⟨t, rfl⟩ := x
  subst y
  exact wpAny_inSet_of (intKind_is W.prog W.w k t) rfl (hS _ g) (h _ (Kp.tok s _))

theorem cmp_isnot_none : CmpR W .IsNot .none .none false := .mk fun A s X u v hd rm g x y Q E h => by
  simp only [Rep] at x y; subst x; subst y
  exact wpAny_isNot_self rfl (h s (Kp.rfl' _))
theorem cmp_isnot_str {l : List Nat} : CmpR W .IsNot (.str l) .none true := .mk fun A s X u v hd rm g x y Q E h => by
  simp only [Rep] at x y; obtain ⟨t, rfl⟩ := x; subst y
  exact isnot_str_none (h s (Kp.rfl' _))

theorem ev_dget {o e : Expr} {apos pos : Pos} {d : Addr} {i : Int} {D : List (PyData × PyData)} {p : PV} (hbase : attributeBase o (Str.ofString "get") c.env (eval o c.env) = eval o c.env) (hst : starEach [e] c.env = [(false, eval e c.env)]) (hline : (apos.endLine == pos.line) = true)
    (hT : ∀ h, W.g h → IntTab W.prog W.w h d D) (ho : Ev W c a o (.raw (.ref d))) (he : Ev W c a e (.int i)) (hp : ∀ v, Flat v ((lookup (.int i) D).getD .none) → ∀ h X, Rep h X p v) :
    Ev W c a (.Call (.Attribute o (Str.ofString "get") apos) [e] [] pos) p := .mk fun X s x Q E h => by
  refine Call_method1 hbase hst hline (ho.go X s x _ _ fun v s₁ k₁ r₁ => ?_)
  simp only [Rep] at r₁
  subst r₁
  have g₁ := (x.keeps k₁).g
  obtain ⟨_, kvs, hd, _⟩ := hT _ g₁
  obtain ⟨ob, es, ep, hob, hex, _⟩ := hd
  refine ⟨"dict", "dict.get", F.plainAttrs_dict, F.slot_dict_get, F.type_dict_get, ⟨ob, hob, hex.1⟩, fun b hb => ⟨ob, (by cases hb; exact hob), hex.2.1⟩, ?_⟩
  refine Calls.callWith_builtin rfl (Calls.evalArgs_plain (Calls.spliced_cons (he.go X s₁ (x.keeps k₁) _ _ fun y s₂ k₂ r₂ => Calls.spliced_nil ?_)))
  simp only [Rep] at r₂
  obtain ⟨t, rfl⟩ := r₂
  exact call_get1_intTab (hT _ ((x.keeps k₁).keeps k₂).g) fun v hv => h v _ ((k₁.tr k₂).tr (Kp.tok _ _)) (hp v hv _ _)
end
end Mine
end partR8

section partR9
open PySem PySem.W PyProof.Rows
set_option maxRecDepth 100000
set_option linter.unusedVariables false
namespace Mine
theorem sl_nat {α : Type} (l : List α) (i j : Nat) : sl l (some (i : Int)) (some (j : Int)) = (l.drop i).take (j - i) := by
  unfold sl
  have e1 : ∀ (k d : Nat), clip l.length (some (k : Int)) d = min k l.length := fun k d => by simp only [clip]; omega
  rw [e1, e1]
  by_cases h : i ≤ l.length
  · rw [Nat.min_eq_left h]
    by_cases h2 : j ≤ l.length
    · rw [Nat.min_eq_left h2]
    · rw [Nat.min_eq_right (by omega), List.take_of_length_le (by simp), List.take_of_length_le (by simp; omega)]
  · rw [Nat.min_eq_right (by omega : l.length ≤ i), List.drop_of_length_le (Nat.le_refl _), List.drop_of_length_le (by omega)]
    simp
section
variable {W : Wd} {c : Fc} {a : AS}
theorem rn_loose {sts : List Stmt} {post : Post} {σ K ρ} (h : Run W c ⟨σ, K, ρ, true⟩ sts post) : Run W c ⟨σ, K, ρ, false⟩ sts post := .mk fun X s st E => h.go X s st.toLoose E
theorem ev_lo {e p σ K ρ} (h : Ev W c ⟨σ, K, ρ, true⟩ e p) (hp : p.flat = true) : Ev W c ⟨σ, K, ρ, false⟩ e p := ev_flat (a := ⟨σ, K, ρ, false⟩) h hp
theorem evB_lo {e b σ K ρ} (h : EvB W c ⟨σ, K, ρ, true⟩ e b) : EvB W c ⟨σ, K, ρ, false⟩ e b := evB_loose (a := ⟨σ, K, ρ, false⟩) h
theorem ev_intc {i j : Int} {k pos} (h : i = j) : Ev W c a (.Constant (.int i) k pos) (.int j) := h ▸ ev_int
theorem run_loose {sts : List Stmt} {post : Post} (h : Run W c a.loose sts post) : Run W c a sts post := .mk fun X s st E => h.go X s st.toLoose E
theorem ev_pow {l r pos} {x n : Int} (hl : Ev W c a l (.int x)) (hr : Ev W c a r (.int n)) (hn : 0 ≤ n) (hsz : (Builtin.Int.intBits x : Int) * n ≤ 2 ^ 27) : Ev W c a (.BinOp l .Pow r pos) (.int (x ^ n.toNat)) := ev_bin hl hr (bin_pow hn hsz)
theorem ev_mod {l r pos} {x n : Int} (hl : Ev W c a l (.int x)) (hr : Ev W c a r (.int n)) (hn : n ≠ 0) : Ev W c a (.BinOp l .Mod r pos) (.int (x.fmod n)) := ev_bin hl hr (bin_mod hn)
theorem ev_div {l r pos} {x n : Int} (hl : Ev W c a l (.int x)) (hr : Ev W c a r (.int n)) (hn : n ≠ 0) (hs : n.natAbs.log2 < 9000) : Ev W c a (.BinOp l .FloorDiv r pos) (.int (x.fdiv n)) := ev_bin hl hr (bin_div hn hs)
/-- a value under another name -/
theorem ev_as {e : Expr} {p q : PV} (h : Ev W c a e p) (hpq : p = q) : Ev W c a e q := hpq ▸ h
theorem evB_as {e : Expr} {p q : Bool} (h : EvB W c a e p) (hpq : p = q) : EvB W c a e q := hpq ▸ h
theorem fmod_nat (x n : Nat) : (x : Int).fmod n = ((x % n : Nat) : Int) := by rw [Int.fmod_eq_emod_of_nonneg _ (Int.natCast_nonneg n)]; rfl
theorem fdiv_nat (x n : Nat) : (x : Int).fdiv n = ((x / n : Nat) : Int) := by rw [Int.fdiv_eq_ediv_of_nonneg _ (Int.natCast_nonneg n)]; rfl
theorem ev_modN {l r pos} {x n : Nat} (hl : Ev W c a l (.int x)) (hr : Ev W c a r (.int n)) (hn : n ≠ 0) : Ev W c a (.BinOp l .Mod r pos) (.int ((x % n : Nat) : Int)) := ev_as (ev_mod hl hr (by omega)) (by rw [fmod_nat])
theorem ev_divN {l r pos} {x n : Nat} (hl : Ev W c a l (.int x)) (hr : Ev W c a r (.int n)) (hn : n ≠ 0) (hs : n.log2 < 9000) : Ev W c a (.BinOp l .FloorDiv r pos) (.int ((x / n : Nat) : Int)) := ev_as (ev_div hl hr (by omega) (by simpa using hs)) (by rw [fdiv_nat])
theorem ev_powN {l r pos} {x n : Nat} (hl : Ev W c a l (.int x)) (hr : Ev W c a r (.int n)) (hsz : (Builtin.Int.intBits x : Int) * n ≤ 2 ^ 27) : Ev W c a (.BinOp l .Pow r pos) (.int ((x ^ n : Nat) : Int)) :=
  ev_as (ev_pow hl hr (by omega) hsz) (by simp)
end
end Mine
end partR9

section partR10
open PySem PySem.W PyProof.Rows
set_option maxRecDepth 100000
set_option linter.unusedVariables false
namespace Mine
section
variable {W : Wd} {c : Fc} {a : AS}

theorem evI_range3 {one : Bool} {x : Str} {pos pos' : Pos} {e1 e2 e3 : Expr} {b st : Int} {n : Nat} {gl : List Str}
    (he' : eval (.Call (.Name x pos') [e1, e2, e3] [] pos) c.env = (do callWith pos (← eval (.Name x pos') c.env) [] (backTo pos (starEach [e1, e2, e3] c.env)) (backToKw pos (keywordEach [] c.env))))
    (hst : starEach [e1, e2, e3] c.env = [(false, eval e1 c.env), (false, eval e2 c.env), (false, eval e3 c.env)])
    (hgl : c.gl = gl) (hx : x ∈ gl) (hg : W.mg x = none ∧ W.mb x = some (.type "range")) (he1 : Ev W c a e1 (.int 0)) (he2 : Ev W c a e2 (.int b)) (he3 : Ev W c a e3 (.int st))
    (hst0 : st ≠ 0) (hp : Builtin.divisionGoesByPylong (b - 0) st = false) (hsm : Builtin.Range.small 0 b st = true) (hn : Builtin.Range.rangeSize 0 b st = (n : Int)) (h1 : n ≤ sizeLine) :
    EvI W c a (.Call (.Name x pos') [e1, e2, e3] [] pos) n (fun i => .int (i * st)) one := .mk fun X s x₁ Q E h => by
  refine Call_ (he := he') (Calls.Name_function_global x₁.ok.fn (x₁.ok.gm x (hgl ▸ hx)) (Calls.loadGlobal_builtin (env := c.env) (mg := W.mg) (mb := W.mb) (by rw [x₁.ok.gg]; exact W.ns _ x₁.g) hg.1 (by rw [x₁.ok.gb]; exact W.bns _ x₁.g) hg.2 ?_) (x₁.ok.db.2 x (hgl ▸ hx)))
  rw [hst]
  refine PySem.callWith_type rfl ?_
  refine Calls.evalArgs_plain ?_
  refine Calls.spliced_cons (he1.go X s x₁ _ _ fun v0 s₀ k₀ r₀ => ?_)
  have x₀ := x₁.keeps k₀
  refine Calls.spliced_cons (he2.go X s₀ x₀ _ _ fun v1 s₁ k₁ r₁ => ?_)
  refine Calls.spliced_cons (he3.go X s₁ (x₀.keeps k₁) _ _ fun v2 s₂ k₂ r₂ => ?_)
  refine Calls.spliced_nil ?_
  simp only [Rep] at r₀ r₁ r₂
  obtain ⟨t0, rfl⟩ := r₀
  obtain ⟨t1, rfl⟩ := r₁
  obtain ⟨t2, rfl⟩ := r₂
  refine call_range_3 hst0 ?_ (.inl hp)
  refine wpAny_pyIter_range (IsRange.new ..) hsm ?_
  have hIter : IsRangeIter ((s₂.heap.push { cls := .type "range", data := .fields #[.int 0 t0, .int b t1, .int st t2] }).push { cls := .type "range_iterator", data := .fields #[rawInt 0, rawInt (Builtin.Range.rangeSize 0 b st), rawInt st] })
      (s₂.heap.push { cls := .type "range", data := .fields #[.int 0 t0, .int b t1, .int st t2] }).objs.size (0 + ((0 : Nat) : Int) * st) ((n : Int) - ((0 : Nat) : Int)) st := by
    have e1 : (0 + ((0 : Nat) : Int) * st) = 0 := by simp
    have e2 : ((n : Int) - ((0 : Nat) : Int)) = Builtin.Range.rangeSize 0 b st := by rw [hn]; simp
    rw [e1, e2]
    exact Heap.get?_push_size _ rfl
  have kk := (k₀.tr k₁).tr k₂
  refine h _ _ (kk.tr ⟨_, _, rfl, fun _ _ e => Heap.get?_push_of_some _ (Heap.get?_push_of_some _ e)⟩) ⟨⟨_, _, _, Walks.range x₁.ok.hd _ 0 st n, hIter, fun i h' hh => ?_, fun b hb => .inl (List.mem_singleton.mp hb), fun i v hi hv h' Y => ?_⟩, ?_, ⟨_, Heap.get?_push_size _ rfl⟩, h1⟩
  · have hh : h'.get? _ = some _ := hh
    rw [hh]; rfl
  · obtain ⟨t', rfl⟩ := hv
    simp only [Rep]
    exact ⟨t', by simp⟩
  · refine kp_new kk ?_
    cases e' : s₂.heap.get? (s₂.heap.push { cls := .type "range", data := .fields #[.int 0 t0, .int b t1, .int st t2] }).objs.size with
    | none => rfl
    | some o => have h2 := Heap.lt_size e'; rw [Heap.size_push] at h2; exact absurd (Nat.lt_of_succ_lt h2) (Nat.lt_irrefl _)
end
end Mine
end partR10

section partR11
open PySem PySem.W PyProof.Rows PySem.SeqAt
set_option maxRecDepth 100000
set_option linter.unusedVariables false
namespace Mine
section
variable {W : Wd}
theorem cmp_nel {ps qs : List PV} (hs : ∀ p ∈ ps, ∀ q ∈ qs, p.same q = true) : CmpR W .NotEq (.lst ps) (.lst qs) (!eqbL ps qs) := .mk fun A s X u v hd rm g x y Q E h => by
  simp only [Rep] at x y
  obtain ⟨l, xs, rfl, hxl, hl, rl⟩ := x
  obtain ⟨b', ys, rfl, hxb, hb, rb⟩ := y
  have hu : A.units < cLine := by have := rm.2; omega
  have e1 : xs.size = ps.length := by rw [rl.length, Array.length_toList]
  have e2 : ys.size = qs.length := by rw [rb.length, Array.length_toList]
  obtain ⟨⟨cls, dd, data, sl⟩, ho, hc, n, hd1⟩ := hl.isList
  obtain ⟨⟨cls2, dd2, data2, sl2⟩, ho2, hc2, n2, hd2⟩ := hb.isList
  simp only at hc hd1 hc2 hd2
  subst hc hd1 hc2 hd2
  by_cases hlen : ps.length = qs.length
  · refine richCompare_meets_room (op := .NotEq) ⟨_, ho, rfl⟩ ⟨_, ho2, rfl⟩ PySem.F.slot_list_ne PySem.F.entry_list_ne (PySem.F.args_list_ne_2 _ _) (list_neAt l b' xs ys n n2 dd dd2 sl sl2 (by omega) (fun j => (ps.getD j .none).eqb (qs.getD j .none)))
      ⟨ho, ho2, fun j h1 h2 => ?_, ⟨(fun x => nomatch x), ?_⟩⟩ hu
    · obtain ⟨p, hp, rp⟩ := rl.get' (i := j) (v := xs[j]) (by simp [h1])
      obtain ⟨q, hq, rq⟩ := rb.get' (i := j) (v := ys[j]) (by simp [h2])
      have e3 : ps.getD j .none = p := by simp [List.getD, hp]
      have e4 : qs.getD j .none = q := by simp [List.getD, hq]
      show EqAt _ _ _ _ ((ps.getD j .none).eqb (qs.getD j .none))
      rw [e3, e4]
      exact eqAt_of (hs p (List.mem_of_getElem? hp) q (List.mem_of_getElem? hq)) rp rq
    · rw [e1, eqbL_range ps qs hlen]
      exact h s (Kp.rfl' _)
  · refine richCompare_meets_room (op := .NotEq) ⟨_, ho, rfl⟩ ⟨_, ho2, rfl⟩ PySem.F.slot_list_ne PySem.F.entry_list_ne (PySem.F.args_list_ne_2 _ _) (list_ne_lengthsAt l b' xs ys n n2 dd dd2 sl sl2 (by simp; omega))
      ⟨ho, ho2, ⟨(fun x => nomatch x), ?_⟩⟩ hu
    have := h s (Kp.rfl' _)
    rwa [eqbL_ne ps qs hlen] at this

theorem cmp_neli {l m : List Int} : CmpR W .NotEq (.lst (l.map .int)) (.lst (m.map .int)) (decide (l ≠ m)) := by
  have := cmp_nel (W := W) (ps := l.map .int) (qs := m.map .int) (fun p hp q hq => by
    obtain ⟨i, _, rfl⟩ := List.mem_map.mp hp
    obtain ⟨j, _, rfl⟩ := List.mem_map.mp hq
    rfl)
  rw [eqbL_int] at this
  rw [decide_not]
  exact this
end
end Mine
end partR11

open Mine
local macro_rules | `(tactic| walk_at "at_") => `(tactic| (repeat (first | with_reducible exact At.here | with_reducible apply At.there)))
local macro_rules | `(tactic| walk_at "put_") => `(tactic| (repeat (first | with_reducible exact Put.here | with_reducible apply Put.there)))
local macro_rules | `(tactic| walk_at "mem_") => `(tactic| ((repeat (first | with_reducible exact List.mem_cons_self | with_reducible apply List.mem_cons_of_mem)); done))
local macro_rules | `(tactic| walk_at "nm_") => `(tactic| ((with_reducible apply ev_nm); (focus assumption); walk_at "at_"; done))
local macro_rules | `(tactic| walk_at "ev_") => `(tactic| first
  | with_reducible exact ev_int
  | with_reducible exact ev_str
  | walk_at "nm_"
  | ((with_reducible apply ev_add); (focus walk_at "ev_"); (focus walk_at "ev_"))
  | ((with_reducible apply ev_sb); (focus walk_at "ev_"); (focus walk_at "ev_"))
  | ((with_reducible apply ev_list'); (focus walk_at "evl_"); decide)
  | ((with_reducible apply ev_tuple'); (focus walk_at "evl_"); decide)
  | with_reducible exact ev_none
  | with_reducible exact ev_bool
  | with_reducible exact ev_neg)
local macro_rules | `(tactic| walk_at "evl_") => `(tactic| (repeat (first | with_reducible exact evL_nil | ((with_reducible apply evL_cons'); (focus rfl); (focus walk_at "ev_")))))

local macro_rules | `(tactic| walk_at "asg_") => `(tactic| ((with_reducible apply rn_assign); (focus rfl); (focus assumption); (focus assumption); (focus walk_at "ev_"); (focus walk_at "put_")))
local macro_rules | `(tactic| walk_at "asg0_") => `(tactic| ((with_reducible apply rn_assign); (focus rfl); (focus assumption); (focus assumption)))
local macro_rules | `(tactic| walk_at "call_") => `(tactic| ((with_reducible apply ev_cl); (focus rfl); (focus rfl); (focus assumption); (focus walk_at "mem_")))
local macro_rules | `(tactic| walk_at "callB_") => `(tactic| ((with_reducible apply ev_clB); (focus rfl); (focus rfl); (focus rfl); (focus assumption); (focus walk_at "mem_"); (focus assumption)))
local macro_rules | `(tactic| walk_at "cmpB_") => `(tactic| ((with_reducible apply evB_c); (focus with_unfolding_all rfl); (focus walk_at "ev_"); (focus walk_at "ev_")))
local macro_rules | `(tactic| walk_at "app_") => `(tactic| ((with_reducible apply rn_append); (focus rfl); (focus rfl); (focus assumption); (focus assumption); (focus walk_at "at_")))
local macro_rules | `(tactic| walk_at "aug_") => `(tactic| ((with_reducible apply rn_aug); (focus assumption); (focus assumption); (focus walk_at "at_"); (focus walk_at "ev_"); (focus exact inp_add); (focus walk_at "put_")))

section partS1
open PySem PySem.W PyProof.Rows
set_option maxRecDepth 100000
set_option linter.unusedVariables false
namespace Mine
open PySem.Sre (M)

theorem runFor_done (m : M) (h : m.outcome.isSome = true) : ∀ n, M.runFor n m = m
  | 0 => rfl
  | n + 1 => by simp [M.runFor, h]
theorem runFor_add (a b : Nat) : ∀ m : M, M.runFor (a + b) m = M.runFor b (M.runFor a m) := by
  induction a with
  | zero => intro m; rw [Nat.zero_add]; rfl
  | succ a ih =>
    intro m
    rw [Nat.succ_add]
    by_cases h : m.outcome.isSome = true
    · rw [runFor_done m h, runFor_done m h, runFor_done m h]
    · show (if m.outcome.isSome = true then m else M.runFor (a + b) m.step) = M.runFor b (if m.outcome.isSome = true then m else M.runFor a m.step)
      rw [if_neg h, if_neg h]
      exact ih _
theorem runFor_le {m : M} {N : Nat} (h : (M.runFor N m).outcome.isSome = true) {K : Nat} (hk : N ≤ K) : M.runFor K m = M.runFor N m := by
  obtain ⟨d, rfl⟩ := Nat.exists_eq_add_of_le hk
  rw [runFor_add, runFor_done _ h]

theorem drive_run {Md : Model} {A : Around} {E : Value → Shared → Prop} {s : Shared} {Q : M → Shared → Prop} : ∀ (turns : Nat) (m : M) (N : Nat), (M.runFor N m).outcome.isSome = true → N ≤ 4 * turns → 0 < turns → Q (M.runFor N m) s → wpAny Md A (Builtin.Re.reDrive turns m) Q E s
  | 0, m, N, h, hN, h0, hQ => absurd h0 (Nat.lt_irrefl _)
  | t + 1, m, N, h, hN, h0, hQ => by
    unfold Builtin.Re.reDrive
    have hT : Builtin.Re.reTurnSteps = 4 := rfl
    rw [hT]
    by_cases h4 : (M.runFor 4 m).outcome.isSome = true
    · have e : M.runFor 4 m = M.runFor N m := by
        rcases Nat.le_total N 4 with hl | hl
        · exact runFor_le h hl
        · exact (runFor_le h4 hl).symm
      show wpAny Md A (if (M.runFor 4 m).outcome.isSome = true then pure (M.runFor 4 m) else _) Q E s
      rw [if_pos h4, e]
      exact wpAny_pure hQ
    · have hN4 : 4 < N := by
        apply Nat.lt_of_not_le
        intro hl
        rw [runFor_le h hl] at h4
        exact h4 h
      show wpAny Md A (if (M.runFor 4 m).outcome.isSome = true then _ else (do rule "sre.turn"; Builtin.Re.reDrive t (M.runFor 4 m))) Q E s
      rw [if_neg h4]
      refine wpAny_bind (wpAny_rule ?_)
      obtain ⟨d, rfl⟩ := Nat.exists_eq_add_of_le (Nat.le_of_lt hN4)
      rw [runFor_add] at h hQ
      exact drive_run t _ d h (by omega) (by omega) hQ

theorem drive_end {Md : Model} {A : Around} {E : Value → Shared → Prop} {s : Shared} {Q : Option M → Shared → Prop} {m : M} {N : Nat} {o : Option M} (hN : N ≤ 2 ^ 60) 
    (ho : ((M.runFor N m).outcome = some .matched ∧ o = some (M.runFor N m)) ∨ ((M.runFor N m).outcome = some .failed ∧ o = none)) (h : Q o s) : wpAny Md A (Builtin.Re.reRunToEnd m) Q E s := by
  unfold Builtin.Re.reRunToEnd
  refine wpAny_bind (drive_run (2 ^ 64) m N (by rcases ho with h | h <;> rw [h.1] <;> rfl) (Nat.le_trans hN (by decide)) (by decide) ?_)
  refine wpAny_bind ?_
  have key : ∀ l : List Nat, ∀ u : PUnit, ∀ Q' : PUnit → Shared → Prop, (Q' u s) → wpAny Md A (forIn l u fun i r => (if (M.runFor N m).seen.has i = true then do rule (Sre.names.getD i ""); pure (ForInStep.yield r) else pure (ForInStep.yield r) : Sem (ForInStep PUnit))) Q' E s := by
    intro l
    induction l with
    | nil => intro u Q' h; rw [List.forIn_nil]; exact wpAny_pure h
    | cons x l ih =>
      intro u Q' h
      rw [List.forIn_cons]
      refine wpAny_bind ?_
      split
      · exact wpAny_bind (wpAny_rule (wpAny_pure (ih u Q' h)))
      · exact wpAny_pure (ih u Q' h)
  refine key _ _ _ ?_
  rcases ho with ⟨h1, rfl⟩ | ⟨h1, rfl⟩ <;> rw [h1] <;> exact wpAny_pure h
end Mine
end partS1

section partS2
open PySem PySem.W PyProof.Rows
set_option maxRecDepth 100000
set_option linter.unusedVariables false
namespace Mine
open PySem.Sre (M)

noncomputable def code1 : Array Nat := #[14, 4, 0, 1, 1, 6, 1, 16, 46, 1]
noncomputable def at1 (text : Array Nat) (s : Nat) (first : Bool) (sn : Sre.Seen) : M :=
  { code := code1, text, lim := text.size, start := s, lastStart := text.size, pc := 5, pos := s, handed := s, outermost := first, marks := #[],
    frames := [{ wait := .nextStart, pc := 5, pos := s, outermost := first }], weight := 1, seen := sn }

/-- a dot at a line's head -/
noncomputable def Hit1 (text : Array Nat) (s : Nat) : Prop := s < text.size ∧ (s = 0 ∨ text[s - 1]?.getD 0 = 10) ∧ text[s]?.getD 0 = 46

theorem step_on {m : M} (h : m.outcome = none) (n : Nat) : M.runFor (n + 1) m = M.runFor n m.step := by simp [M.runFor, h]

/-- a run that ends in a match -/
structure Ends (s n N : Nat) (m : M) : Prop where
  go : (M.runFor N m).outcome = some .matched ∧ (M.runFor N m).start = s ∧ (M.runFor N m).handed = n
theorem Ends.st {s n N : Nat} {m : M} (h : m.outcome = none) (e : Ends s n N m.step) : Ends s n (N + 1) m := by
  have e' := e.go
  rw [← step_on h] at e'
  exact ⟨e'⟩
theorem Ends.nil {m : M} (h : m.outcome = some .matched) : Ends m.start m.handed 0 m := ⟨h, rfl, rfl⟩
noncomputable def litOn (m : M) : M := { m with seen := m.seen.add (m.word 0), pc := m.pc + 2, pos := m.pos + 1 }
noncomputable def litNo (m : M) : M := { m with seen := m.seen.add (m.word 0), answer := some false }
noncomputable def sucM (m : M) : M := { m with seen := m.seen.add (m.word 0), handed := m.pos, answer := some true }
noncomputable def looks (m : M) := (m.outcome, m.answer, decide (m.pc < m.code.size), Sre.ops[m.word 0]?, m.word 1, m.pos, m.text, m.lim)
theorem step_exec {m : M} (h1 : m.outcome = none) (h2 : m.answer = none) (h3 : decide (m.pc < m.code.size) = true) : m.step = m.exec := by
  unfold M.step
  rw [h1, h2, if_neg (by simp), if_pos (of_decide_eq_true h3)]
theorem lit_no {m : M} {c p : Nat} {text : Array Nat} (h : looks m = (none, none, true, some .LITERAL, c, p, text, text.size)) (hc : text.size ≤ p ∨ ¬ text[p]?.getD 0 = c) : m.step = litNo m := by
  simp only [looks, Prod.mk.injEq] at h
  obtain ⟨h1, h2, h3, h4, h5, h6, h7, h8⟩ := h
  rw [step_exec h1 h2 h3]
  unfold M.exec
  rw [h4]
  dsimp only
  rw [h6, h7, h8]
  by_cases hl : p ≥ text.size
  · rw [if_pos hl, ← h8, ← h7, ← h6]; rfl
  · rw [if_neg hl]
    unfold Sre.accepts
    rw [show m.code.getD m.pc 0 = m.word 0 from rfl, h4, show m.code.getD (m.pc + 1) 0 = m.word 1 from rfl, h5]
    have hg : (text.getD p 0 == c) = false := by
      rcases hc with hc | hc
      · exact absurd hc hl
      · rw [Array.getD_eq_getD_getElem?]; simpa using hc
    dsimp only
    rw [hg]
    subst h6 h7
    rw [← h8]
    rfl
theorem lit_on {m : M} {c p : Nat} {text : Array Nat} (h : looks m = (none, none, true, some .LITERAL, c, p, text, text.size)) (hl : p < text.size) (hc : text[p]?.getD 0 = c) : m.step = litOn m := by
  simp only [looks, Prod.mk.injEq] at h
  obtain ⟨h1, h2, h3, h4, h5, h6, h7, h8⟩ := h
  rw [step_exec h1 h2 h3]
  unfold M.exec
  rw [h4]
  dsimp only
  rw [h6, h7, h8, if_neg (Nat.not_le.mpr hl)]
  unfold Sre.accepts Sre.itemWidth
  rw [show m.code.getD m.pc 0 = m.word 0 from rfl, h4, show m.code.getD (m.pc + 1) 0 = m.word 1 from rfl, h5]
  have hg : (text.getD p 0 == c) = true := by
    rw [Array.getD_eq_getD_getElem?]; simpa using hc
  dsimp only
  rw [hg]
  subst h6 h7
  rw [← h8]
  rfl
theorem suc_on {m : M} (h : (m.outcome, m.answer, decide (m.pc < m.code.size), Sre.ops[m.word 0]?, m.wholeText, m.mustAdvance) = (none, none, true, some .SUCCESS, false, false)) : m.step = sucM m := by
  simp only [Prod.mk.injEq] at h
  obtain ⟨h1, h2, h3, h4, h5, h6⟩ := h
  rw [step_exec h1 h2 h3]
  unfold M.exec
  rw [h4]
  dsimp only
  rw [if_neg (by rw [h5, h6]; simp)]
  rfl
theorem Ends.no {s n N c p : Nat} {m : M} {text : Array Nat} (h : looks m = (none, none, true, some .LITERAL, c, p, text, text.size)) (hc : text.size ≤ p ∨ ¬ text[p]?.getD 0 = c) (e : Ends s n N (litNo m)) : Ends s n (N + 1) m :=
  Ends.st (congrArg Prod.fst h) (by rw [lit_no h hc]; exact e)
theorem Ends.on {s n N c p : Nat} {m : M} {text : Array Nat} (h : looks m = (none, none, true, some .LITERAL, c, p, text, text.size)) (hl : p < text.size) (hc : text[p]?.getD 0 = c) (e : Ends s n N (litOn m)) : Ends s n (N + 1) m :=
  Ends.st (congrArg Prod.fst h) (by rw [lit_on h hl hc]; exact e)
theorem Ends.suc {s n N : Nat} {m : M} (h : (m.outcome, m.answer, decide (m.pc < m.code.size), Sre.ops[m.word 0]?, m.wholeText, m.mustAdvance) = (none, none, true, some .SUCCESS, false, false)) (e : Ends s n N (sucM m)) : Ends s n (N + 1) m :=
  Ends.st (congrArg Prod.fst h) (by rw [suc_on h]; exact e)
theorem Ends.fin {s n : Nat} {m : M} (h : (m.outcome, m.start, m.handed) = (some .matched, s, n)) : Ends s n 0 m := by
  simp only [Prod.mk.injEq] at h
  exact ⟨h⟩

noncomputable def atM (m : M) (yes : Bool) : M := if yes then { m with seen := (m.seen.add (m.word 0)).add (43 + m.word 1), pc := m.pc + 2 } else { m with seen := (m.seen.add (m.word 0)).add (43 + m.word 1), answer := some false }
theorem at_on {m : M} {p : Nat} {text : Array Nat} {b : Bool} (h : looks m = (none, none, true, some .AT, 1, p, text, text.size)) (hb : (p == 0 || text[p - 1]?.getD 0 == 10) = b) : m.step = atM m b := by
  simp only [looks, Prod.mk.injEq] at h
  obtain ⟨h1, h2, h3, h4, h5, h6, h7, h8⟩ := h
  rw [step_exec h1 h2 h3]
  unfold M.exec
  rw [h4]
  dsimp only
  have e : M.isAt { m with seen := m.seen.add (m.word 0) } (M.word { m with seen := m.seen.add (m.word 0) } 1) = .ok b := by
    rw [show M.word { m with seen := m.seen.add (m.word 0) } 1 = 1 from h5]
    show Except.ok (m.pos == 0 || m.text.getD (m.pos - 1) 0 == 10) = _
    rw [h6, h7, Array.getD_eq_getD_getElem?, hb]
  rw [e]
  cases b <;> rfl
theorem hit1_b {text : Array Nat} {s : Nat} (h : s = 0 ∨ text[s - 1]?.getD 0 = 10) : (s == 0 || text[s - 1]?.getD 0 == 10) = true := by
  rw [Bool.or_eq_true, beq_iff_eq, beq_iff_eq]; exact h
theorem hit1_n {text : Array Nat} {s : Nat} (h : ¬ (s = 0 ∨ text[s - 1]?.getD 0 = 10)) : (s == 0 || text[s - 1]?.getD 0 == 10) = false := by
  rw [← Bool.not_eq_true, Bool.or_eq_true, beq_iff_eq, beq_iff_eq]; exact h
theorem at1_hit (text : Array Nat) (s : Nat) (first : Bool) (sn : Sre.Seen) (h : Hit1 text s) : (M.runFor 5 (at1 text s first sn)).outcome = some .matched ∧ (M.runFor 5 (at1 text s first sn)).start = s ∧ (M.runFor 5 (at1 text s first sn)).handed = s + 1 := by
  obtain ⟨h1, h2, h3⟩ := h
  have e1 := at_on (m := at1 text s first sn) (p := s) (text := text) (by kernel_rfl!) (hit1_b h2)
  have e : Ends s (s + 1) 5 (at1 text s first sn) := Ends.st (by kernel_rfl!) (by
    rw [e1]
    exact Ends.on (c := 46) (p := s) (text := text) (by kernel_rfl!) h1 h3 (Ends.suc (by kernel_rfl!) (Ends.st (by kernel_rfl!) (Ends.st (by kernel_rfl!) (Ends.fin (by kernel_rfl!))))))
  exact e.go

noncomputable def end1 (text : Array Nat) (s : Nat) (first : Bool) (sn : Sre.Seen) : M := { at1 text s first sn with frames := [], weight := 0, answer := some false }

theorem at1_no (text : Array Nat) (s p : Nat) (first : Bool) (sn σ : Sre.Seen) :
    M.step { at1 text s first sn with pc := p, answer := some false, seen := σ } = if s < text.size then at1 text (s + 1) false σ else end1 text s first σ := by
  by_cases h : s < text.size
  · rw [if_pos h]
    simp [M.step, at1, M.resume, M.say, M.putBack, M.attemptFrom, M.hasFirstSet, M.attemptAt, M.attempt, code1, Sre.ops, h]
  · rw [if_neg h]
    simp [M.step, at1, end1, M.resume, M.say, M.putBack, M.attemptFrom, M.hasFirstSet, M.attemptAt, M.attempt, code1, Sre.ops, h]

theorem at1_miss (text : Array Nat) (s : Nat) (first : Bool) (sn : Sre.Seen) (h : ¬ Hit1 text s) (hs : s ≤ text.size) :
    ∃ k sn', k ≤ 3 ∧ M.runFor k (at1 text s first sn) = (if s < text.size then at1 text (s + 1) false sn' else end1 text s first sn') := by
  by_cases h2 : s = 0 ∨ text[s - 1]?.getD 0 = 10
  · have e1 := at_on (m := at1 text s first sn) (p := s) (text := text) (by kernel_rfl!) (hit1_b h2)
    have hm : text.size ≤ s ∨ ¬ text[s]?.getD 0 = 46 := (Nat.lt_or_ge s text.size).symm.imp id fun hl x => h ⟨hl, h2, x⟩
    have e2 := lit_no (m := atM (at1 text s first sn) true) (c := 46) (p := s) (text := text) (by kernel_rfl!) hm
    refine ⟨3, ((sn.add 6).add 44).add 16, Nat.le_refl _, ?_⟩
    rw [step_on rfl, e1, step_on (by kernel_rfl!), e2, step_on (by kernel_rfl!)]
    exact at1_no text s 7 first sn (((sn.add 6).add 44).add 16)
  · have e1 := at_on (m := at1 text s first sn) (p := s) (text := text) (by kernel_rfl!) (hit1_n h2)
    refine ⟨2, (sn.add 6).add 44, by decide, ?_⟩
    rw [step_on rfl, e1, step_on (by kernel_rfl!)]
    exact at1_no text s 5 first sn ((sn.add 6).add 44)
theorem end1_run (text : Array Nat) (s : Nat) (first : Bool) (sn : Sre.Seen) : (M.runFor 1 (end1 text s first sn)).outcome = some .failed := by
  simp [M.runFor, M.step, end1, at1]

/-- the search from a place on: the first dot at a line's head, or none -/
theorem search1 (text : Array Nat) : ∀ (d s : Nat) (first : Bool) (sn : Sre.Seen), text.size - s = d → s ≤ text.size →
    (∃ i N, s ≤ i ∧ Hit1 text i ∧ (∀ j, s ≤ j → j < i → ¬ Hit1 text j) ∧ N ≤ 3 * (i - s) + 5 ∧ (M.runFor N (at1 text s first sn)).outcome = some .matched ∧ (M.runFor N (at1 text s first sn)).start = i ∧ (M.runFor N (at1 text s first sn)).handed = i + 1) ∨
    ((∀ j, s ≤ j → ¬ Hit1 text j) ∧ ∃ N, N ≤ 3 * d + 9 ∧ (M.runFor N (at1 text s first sn)).outcome = some .failed) := by
  intro d
  induction d with
  | zero =>
    intro s first sn hd hs
    have hno : ¬ Hit1 text s := fun h => by have := h.1; omega
    obtain ⟨k, sn', hk, e⟩ := at1_miss text s first sn hno hs
    refine .inr ⟨fun j hj h => by have := h.1; omega, k + 1, by omega, ?_⟩
    rw [runFor_add, e, if_neg (by omega)]
    exact end1_run text s first sn'
  | succ d ih =>
    intro s first sn hd hs
    by_cases h : Hit1 text s
    · obtain ⟨a, b, c⟩ := at1_hit text s first sn h
      exact .inl ⟨s, 5, Nat.le_refl _, h, fun j h1 h2 => by omega, by omega, a, b, c⟩
    · obtain ⟨k, sn', hk, e⟩ := at1_miss text s first sn h hs
      rw [if_pos (by omega)] at e
      rcases ih (s + 1) false sn' (by omega) (by omega) with ⟨i, N, h1, h2, h3, h4, h5, h6, h7⟩ | ⟨h1, N, h2, h3⟩
      · refine .inl ⟨i, k + N, by omega, h2, fun j hj1 hj2 => ?_, by omega, ?_, ?_, ?_⟩
        · by_cases hjs : j = s
          · subst hjs; exact h
          · exact h3 j (by omega) hj2
        · rw [runFor_add, e]; exact h5
        · rw [runFor_add, e]; exact h6
        · rw [runFor_add, e]; exact h7
      · refine .inr ⟨fun j hj => ?_, k + N, by omega, ?_⟩
        · by_cases hjs : j = s
          · subst hjs; exact h
          · exact h1 j (by omega)
        · rw [runFor_add, e]; exact h3

theorem forSearch1 (text : Array Nat) (s : Nat) (hs : s < text.size) : Sre.forSearch code1 text 0 s text.size false = at1 text s true (({} : Sre.Seen).add 14) := by
  unfold Sre.forSearch
  show (if (decide (s > text.size) || decide (text.size - s < 1)) = true then _ else _) = _
  rw [if_neg (by simp; omega)]
  rfl
end Mine
end partS2

section partS3
open PySem PySem.W PyProof.Rows
set_option maxRecDepth 100000
set_option linter.unusedVariables false
namespace Mine
open PySem.Sre (M)

noncomputable def code2 : Array Nat := #[14, 9, 4, 1, 2, 16, 10, 16, 13, 0, 7, 7, 16, 13, 16, 10, 15, 18, 5, 16, 10, 15, 13, 11, 16, 13, 5, 5, 0, 16, 10, 1, 15, 2, 0, 1]
noncomputable def at2 (text : Array Nat) (s : Nat) (first : Bool) (sn : Sre.Seen) : M :=
  { code := code2, text, lim := text.size, start := s, lastStart := text.size, pc := 10, pos := s, handed := s, outermost := first, marks := #[],
    frames := [{ wait := .nextStart, pc := 10, pos := s, outermost := first }], weight := 1, seen := sn }

/-- a \n -/
theorem at2_n (text : Array Nat) (s : Nat) (first : Bool) (sn : Sre.Seen) (h1 : s < text.size) (h2 : text[s]?.getD 0 = 10) : Ends s (s + 1) 9 (at2 text s first sn) := by
  refine Ends.st (by kernel_rfl!) (Ends.no (c := 13) (p := s) (text := text) (by kernel_rfl!) (.inr (by rw [h2]; decide)) (Ends.st (by kernel_rfl!) (Ends.on (c := 10) (p := s) (text := text) (by kernel_rfl!) h1 h2 (Ends.st (by kernel_rfl!) (Ends.suc (by kernel_rfl!) (Ends.st (by kernel_rfl!) (Ends.st (by kernel_rfl!) (Ends.st (by kernel_rfl!) (Ends.fin (by kernel_rfl!))))))))))
/-- a \r\n -/
theorem at2_rn (text : Array Nat) (s : Nat) (first : Bool) (sn : Sre.Seen) (h1 : s + 1 < text.size) (h2 : text[s]?.getD 0 = 13) (h3 : text[s + 1]?.getD 0 = 10) : Ends s (s + 2) 8 (at2 text s first sn) := by
  refine Ends.st (by kernel_rfl!) (Ends.on (c := 13) (p := s) (text := text) (by kernel_rfl!) (Nat.lt_of_succ_lt h1) h2 (Ends.on (c := 10) (p := s + 1) (text := text) (by kernel_rfl!) h1 h3 (Ends.st (by kernel_rfl!) (Ends.suc (by kernel_rfl!) (Ends.st (by kernel_rfl!) (Ends.st (by kernel_rfl!) (Ends.st (by kernel_rfl!) (Ends.fin (by kernel_rfl!)))))))))
/-- a \r with no \n behind it -/
theorem at2_r (text : Array Nat) (s : Nat) (first : Bool) (sn : Sre.Seen) (h1 : s < text.size) (h2 : text[s]?.getD 0 = 13) (h3 : text.size ≤ s + 1 ∨ ¬ text[s + 1]?.getD 0 = 10) : Ends s (s + 1) 15 (at2 text s first sn) := by
  refine Ends.st (by kernel_rfl!) (Ends.on (c := 13) (p := s) (text := text) (by kernel_rfl!) h1 h2 (Ends.no (c := 10) (p := s + 1) (text := text) (by kernel_rfl!) h3 (Ends.st (by kernel_rfl!) (Ends.no (c := 10) (p := s) (text := text) (by kernel_rfl!) (.inr (by rw [h2]; decide)) (Ends.st (by kernel_rfl!) (Ends.on (c := 13) (p := s) (text := text) (by kernel_rfl!) h1 h2 (Ends.st (by kernel_rfl!) (Ends.no (c := 10) (p := s + 1) (text := text) (by kernel_rfl!) h3 (Ends.st (by kernel_rfl!) (Ends.st (by kernel_rfl!) (Ends.suc (by kernel_rfl!) (Ends.st (by kernel_rfl!) (Ends.st (by kernel_rfl!) (Ends.st (by kernel_rfl!) (Ends.fin (by kernel_rfl!))))))))))))))))
theorem inSet2 (c : Nat) (sn : Sre.Seen) : ∃ sn', Sre.inSet code2 c 36 5 true sn = .ok (decide (c = 10 ∨ c = 13), sn') := by
  have e : Sre.inSet code2 c 36 5 true sn = if (c == 10) = true then .ok (true, sn.add 16) else if (c == 13) = true then .ok (true, (sn.add 16).add 16) else .ok (false, ((sn.add 16).add 16).add 0) := by kernel_rfl!
  rw [e]
  by_cases h1 : c = 10
  · rw [if_pos (beq_iff_eq.mpr h1), decide_eq_true (Or.inl h1)]; exact ⟨_, rfl⟩
  · rw [if_neg fun x => h1 (beq_iff_eq.mp x)]
    by_cases h2 : c = 13
    · rw [if_pos (beq_iff_eq.mpr h2), decide_eq_true (Or.inr h2)]; exact ⟨_, rfl⟩
    · rw [if_neg fun x => h2 (beq_iff_eq.mp x), decide_eq_false fun x => x.elim h1 h2]; exact ⟨_, rfl⟩

/-- an end of line begins here -/
noncomputable def Hit2 (text : Array Nat) (s : Nat) : Prop := s < text.size ∧ (text[s]?.getD 0 = 10 ∨ text[s]?.getD 0 = 13)

theorem adm2 (m : M) (text : Array Nat) (hc : m.code = code2) (ht : m.text = text) (hl : m.lim = text.size) : ∀ (fuel s : Nat) (sn : Sre.Seen), text.size + 1 - s ≤ fuel →
    (∃ i sn', s ≤ i ∧ Hit2 text i ∧ (∀ j, s ≤ j → j < i → ¬ Hit2 text j) ∧ M.admitted m fuel s sn = .ok (some i, sn')) ∨ ((∀ j, s ≤ j → ¬ Hit2 text j) ∧ ∃ sn', M.admitted m fuel s sn = .ok (none, sn')) := by
  intro fuel
  induction fuel with
  | zero => intro s sn h; exact .inr ⟨fun j hj h' => by have := h'.1; omega, sn, rfl⟩
  | succ fuel ih =>
    intro s sn h
    unfold M.admitted
    rw [hl, ht, hc]
    by_cases hs : s ≥ text.size
    · rw [if_pos hs]
      exact .inr ⟨fun j hj h' => by have := h'.1; omega, sn, rfl⟩
    · rw [if_neg hs]
      obtain ⟨sn', e⟩ := inSet2 (text.getD s 0) sn
      have hsz : code2.size = 36 := rfl
      rw [hsz, e]
      have hg : text.getD s 0 = text[s]?.getD 0 := by simp
      rw [hg]
      by_cases hh : text[s]?.getD 0 = 10 ∨ text[s]?.getD 0 = 13
      · rw [decide_eq_true hh]
        exact .inl ⟨s, sn', Nat.le_refl _, ⟨by omega, hh⟩, fun j h1 h2 => by omega, rfl⟩
      · rw [decide_eq_false hh]
        rcases ih (s + 1) sn' (by omega) with ⟨i, sn2, h1, h2, h3, h4⟩ | ⟨h1, sn2, h2⟩
        · refine .inl ⟨i, sn2, by omega, h2, fun j hj1 hj2 => ?_, h4⟩
          by_cases hjs : j = s
          · subst hjs; exact fun x => hh x.2
          · exact h3 j (by omega) hj2
        · refine .inr ⟨fun j hj => ?_, sn2, h2⟩
          by_cases hjs : j = s
          · subst hjs; exact fun x => hh x.2
          · exact h1 j (by omega)
noncomputable def len2 (text : Array Nat) (i : Nat) : Nat := if text[i]?.getD 0 = 13 ∧ i + 1 < text.size ∧ text[i + 1]?.getD 0 = 10 then 2 else 1

theorem at2_run (text : Array Nat) (i : Nat) (first : Bool) (sn : Sre.Seen) (h : Hit2 text i) :
    ∃ N, N ≤ 40 ∧ (M.runFor N (at2 text i first sn)).outcome = some .matched ∧ (M.runFor N (at2 text i first sn)).start = i ∧ (M.runFor N (at2 text i first sn)).handed = i + len2 text i := by
  obtain ⟨h1, h2⟩ := h
  rcases h2 with h2 | h2
  · have e : len2 text i = 1 := by unfold len2; rw [if_neg fun x => absurd (h2.symm.trans x.1) (by decide)]
    rw [e]; exact ⟨9, by decide, (at2_n text i first sn h1 h2).go⟩
  · by_cases h3 : i + 1 < text.size ∧ text[i + 1]?.getD 0 = 10
    · have e : len2 text i = 2 := by unfold len2; rw [if_pos ⟨h2, h3⟩]
      rw [e]; exact ⟨8, by decide, (at2_rn text i first sn h3.1 h2 h3.2).go⟩
    · have e : len2 text i = 1 := by unfold len2; rw [if_neg fun x => h3 x.2]
      rw [e]; exact ⟨15, by decide, (at2_r text i first sn h1 h2 ((Nat.lt_or_ge (i + 1) text.size).symm.imp id fun hl x => h3 ⟨hl, x⟩)).go⟩

noncomputable def fresh2 (text : Array Nat) (s : Nat) : M :=
  { code := code2, text, lim := text.size, start := s, lastStart := text.size, pc := 10, pos := s, handed := s, marks := #[], seen := ({} : Sre.Seen).add 14 }

theorem forSearch2 (text : Array Nat) (s : Nat) (hs : s < text.size) : Sre.forSearch code2 text 0 s text.size false = M.attemptFrom (fresh2 text s) s true := by
  unfold Sre.forSearch
  show (if (decide (s > text.size) || decide (text.size - s < 1)) = true then _ else _) = _
  rw [if_neg (by simp; omega)]
  rfl

theorem search2 (text : Array Nat) (s : Nat) (hs : s < text.size) :
    (∃ i N, s ≤ i ∧ Hit2 text i ∧ (∀ j, s ≤ j → j < i → ¬ Hit2 text j) ∧ N ≤ 40 ∧ (M.runFor N (Sre.forSearch code2 text 0 s text.size false)).outcome = some .matched ∧ (M.runFor N (Sre.forSearch code2 text 0 s text.size false)).start = i ∧
      (M.runFor N (Sre.forSearch code2 text 0 s text.size false)).handed = i + len2 text i) ∨
    ((∀ j, s ≤ j → ¬ Hit2 text j) ∧ ∃ N, N ≤ 40 ∧ (M.runFor N (Sre.forSearch code2 text 0 s text.size false)).outcome = some .failed) := by
  rw [forSearch2 text s hs]
  have hf : M.hasFirstSet (fresh2 text s) = true := rfl
  rcases adm2 (fresh2 text s) text rfl rfl rfl (text.size + 1 - s) s (({} : Sre.Seen).add 14) (Nat.le_refl _) with ⟨i, sn', h1, h2, h3, h4⟩ | ⟨h1, sn', h2⟩
  · have e : M.attemptFrom (fresh2 text s) s true = at2 text i true sn' := by
      unfold M.attemptFrom
      rw [hf]
      have h4' : M.admitted (fresh2 text s) ((fresh2 text s).lim + 1 - s) s (fresh2 text s).seen = .ok (some i, sn') := h4
      rw [h4']
      rfl
    rw [e]
    obtain ⟨N, a, b⟩ := at2_run text i true sn' h2
    exact .inl ⟨i, N, h1, h2, h3, a, b⟩
  · refine .inr ⟨h1, 1, by decide, ?_⟩
    have e : M.attemptFrom (fresh2 text s) s true = { fresh2 text s with seen := sn', answer := some false } := by
      unfold M.attemptFrom
      rw [hf]
      have h2' : M.admitted (fresh2 text s) ((fresh2 text s).lim + 1 - s) s (fresh2 text s).seen = .ok (none, sn') := h2
      rw [h2']
      rfl
    rw [e]
    simp [M.runFor, M.step, fresh2]
end Mine
end partS3

section partS4
open PySem PySem.W PyProof.Rows
set_option maxRecDepth 100000
set_option linter.unusedVariables false
namespace Mine
open PySem.Builtin.Re

/-- a compiled pattern over texts, without groups -/
noncomputable def Pat (h : Heap) (a : Addr) (code : Array Nat) : Prop :=
  ∃ o fs b ob xs n, h.get? a = some o ∧ o.data = .fields fs ∧ reRawNat (fs.getD 6 .none) = 0 ∧ reRawNat (fs.getD 2 .none) = 0 ∧ fs.getD 5 .none = .ref b ∧ h.get? b = some ob ∧ ob.data = .seq xs n ∧ (xs.map reRawOf).map (·.toNat) = code
theorem Pat.keeps {h h' : Heap} {a code} (p : Pat h a code) (k : ∀ b o, h.get? b = some o → h'.get? b = some o) : Pat h' a code := by
  obtain ⟨o, fs, b, ob, xs, n, h1, h2, h3, h4, h5, h6, r⟩ := p
  exact ⟨o, fs, b, ob, xs, n, k _ _ h1, h2, h3, h4, h5, k _ _ h6, r⟩

theorem whole_run {Md : Model} {A : Around} {E : Value → Shared → Prop} {s : Shared} {a : Addr} {code : Array Nat} {x : Str} {t : Tok} {Q : ReTarget → Shared → Prop} (p : Pat s.heap a code)
    (h : Q { pattern := .ref a, string := .str x t, code := code, text := x.cps, kind := 0, groups := 0, pos := 0, lim := x.cps.size } s) : wpAny Md A (reWholeTarget (.ref a) (.str x t)) Q E s := by
  obtain ⟨o, fs, b, ob, xs, n, h1, h2, h3, h4, h5, h6, h7, h8⟩ := p
  unfold reWholeTarget
  refine wpAny_bind (wpAny_fieldsOf h1 h2 ?_)
  unfold reTextOf
  refine wpAny_bind ?_
  show wpAny _ _ (pure (x.cps, 0)) _ _ _
  refine wpAny_pure ?_
  dsimp only
  rw [h3, h4, h5]
  rw [if_neg (by decide)]
  refine wpAny_bind (wpAny_pure ?_)
  unfold reRawItems
  refine wpAny_bind (wpAny_bind (m := seqItems? (.ref b)) ?_)
  unfold seqItems?
  refine wpAny_bind (wpAny_load h6 ?_)
  rw [h7]
  refine wpAny_pure (wpAny_pure (wpAny_pure ?_))
  subst h8
  exact h
/-- what a code's search gives, place by place -/
noncomputable def Srch (code text : Array Nat) (f : Nat → Option (Nat × Nat)) : Prop :=
  ∀ s, s ≤ text.size → ∃ N, N ≤ 2 ^ 60 ∧ match f s with
    | none => (Sre.M.runFor N (Sre.forSearch code text 0 s text.size false)).outcome = some .failed
    | some (i, j) => (Sre.M.runFor N (Sre.forSearch code text 0 s text.size false)).outcome = some .matched ∧ (Sre.M.runFor N (Sre.forSearch code text 0 s text.size false)).start = i ∧ (Sre.M.runFor N (Sre.forSearch code text 0 s text.size false)).handed = j

theorem Srch.run {code text : Array Nat} {f : Nat → Option (Nat × Nat)} (hf : Srch code text f) {Md : Model} {A : Around} {E : Value → Shared → Prop} {s : Shared} {Q : Option Sre.M → Shared → Prop} {p : Nat} (hp : p ≤ text.size)
    (hn : f p = none → Q none s) (hs : ∀ i j m, f p = some (i, j) → m.start = i → m.handed = j → Q (some m) s) :
    wpAny Md A (reRunToEnd (Sre.forSearch code text 0 p text.size false)) Q E s := by
  obtain ⟨N, hN, h⟩ := hf p hp
  cases e : f p with
  | none =>
    rw [e] at h
    exact drive_end hN (.inr ⟨h, rfl⟩) (hn e)
  | some ij =>
    obtain ⟨i, j⟩ := ij
    rw [e] at h
    exact drive_end hN (.inl ⟨h.1, rfl⟩) (hs i j _ e h.2.1 h.2.2)
end Mine
end partS4

section partS5
open PySem PySem.W PyProof.Rows
set_option maxRecDepth 100000
set_option linter.unusedVariables false
namespace Mine
open PySem.Builtin.Re

theorem entry_subloop : entryFor table "re.Pattern.sub.loop" = some Builtin.«re.Pattern.sub.loop» := entryFor_of_fast (by kernel_rfl)
theorem entry_sub : entryFor table "re.Pattern.sub" = some Builtin.«re.Pattern.sub» := entryFor_of_fast (by kernel_rfl)
theorem plain_subloop : plainId "re.Pattern.sub.loop" = true := by decide +kernel
theorem plain_sub : plainId "re.Pattern.sub" = true := by decide +kernel

/-- the pieces that a substitution lays, from a place on -/
noncomputable def subP (f : Nat → Option (Nat × Nat)) (text r : List Nat) : Nat → Nat → List (List Nat)
  | 0, _ => []
  | k + 1, p => match f p with
    | none => if p < text.length then [text.drop p] else []
    | some (i, j) => (if p < i then [(text.drop p).take (i - p)] else []) ++ [r] ++ subP f text r k j

theorem slice_run {Md : Model} {A : Around} {E : Value → Shared → Prop} {s : Shared} {x : List Nat} {i j : Nat} {Q : Value → Shared → Prop} (hx : x.length ≤ sizeLine)
    (h : ∀ t' k, Q (.str (strOf ((x.drop i).take (j - i))) t') { s with toks := k }) : wpAny Md A (reSlice (strOf x).cps 0 i j) Q E s := by
  unfold reSlice
  show wpAny Md A (mkStr ⟨(strOf x).cps.extract i j⟩) Q E s
  have e : (⟨(strOf x).cps.extract i j⟩ : Str) = strOf ((x.drop i).take (j - i)) := by
    apply congrArg Str.mk
    apply Array.toList_inj.mp
    simp [strOf]
  rw [e]
  exact wpAny_mkStr (h _ _) (by rw [strOf_len]; simp; omega)
end Mine
end partS5

section partS6
open PySem PySem.W PyProof.Rows
set_option maxRecDepth 100000
set_option linter.unusedVariables false
namespace Mine
open PySem.Builtin.Re

noncomputable abbrev subArgs (a : Addr) (x : Value) (r : Value) (n : Int) (p : Nat) (D : Addr) : Args := ⟨[.ref a, x, r, rawInt 0, rawInt 0, rawInt n, rawInt p, rawInt p, .bool false, .ref D, .bool false], []⟩

structure Pcs (h₀ : Heap) (D : Addr) (acc : List (List Nat)) (h : Heap) : Prop where
  new : h₀.get? D = none
  keep : ∀ b o, h₀.get? b = some o → h.get? b = some o
  lst : ∃ vs n, h.get? D = some { cls := .type "list", data := .seq vs n } ∧ ∃ l' : List (Str × Tok), vs.toList = strValues l' ∧ l'.map (·.1) = acc.map strOf

theorem Pcs.push {W : Wd} {A : Around} {s : Shared} {h₀ : Heap} {D : Addr} {acc : List (List Nat)} {y : List Nat} {t : Tok} {Q : Unit → Shared → Prop} {E : Value → Shared → Prop} (x : Pcs h₀ D acc s.heap) (hz : acc.length < sizeLine)
    (h : ∀ h', Pcs h₀ D (acc ++ [y]) h' → Q () { s with heap := h' }) : wpAny W.M A (updateSeq D (·.push (.str (strOf y) t))) Q E s := by
  obtain ⟨hn, hk, vs, n, hl, l', h1, h2⟩ := x
  have e1 : vs.size = acc.length := by
    have : vs.toList.length = (l'.map (·.1)).length := by rw [h1]; simp [strValues]
    rw [h2] at this; simpa using this
  refine wpAny_updateSeq hl rfl ?_ (by omega) (by simp; omega)
  refine h _ ⟨hn, fun b o e => ?_, vs.push (.str (strOf y) t), (if (vs.push (.str (strOf y) t)).size == vs.size then n else n + 1), ?_, l' ++ [(strOf y, t)], ?_, ?_⟩
  · rw [Heap.get?_update_other _ _ (fun e' : D = b => by rw [← e', hn] at e; cases e)]
    exact hk b o e
  · rw [Heap.get?_update_self _ hl rfl]; rfl
  · simp [h1, strValues]
  · simp [h2]

theorem tail_run {W : Wd} {A : Around} {s : Shared} {h₀ : Heap} {D : Addr} {acc : List (List Nat)} {x : List Nat} {Q : Fin → Shared → Prop} {E : Value → Shared → Prop} {n : Int} (hP : Pcs h₀ D acc s.heap) (hx : x.length ≤ sizeLine)
    (hz1 : acc.flatten.length ≤ sizeLine) (hQ : ∀ t' k, Q (.done (.ret (.str (strOf acc.flatten) t'))) { s with toks := k }) :
    wpAny W.M A (do
        let joiner ← reSlice (strOf x).cps 0 0 0
        let __do_lift ← seqItems? (Value.ref D)
        if (__do_lift.getD #[]).isEmpty = true then do
            let text ← pure joiner
            if false = true then do
                let __do_lift ←
                  holding [text] do
                      let __do_lift ← mkInt n
                      newTuple [text, __do_lift]
                ret __do_lift
              else ret text
          else do
            let text ← call (Value.builtin (if ((0 : Nat) == 0) = true then "str.join" else "bytes.join")) [joiner, Value.ref D]
            if false = true then do
                let __do_lift ←
                  holding [text] do
                      let __do_lift ← mkInt n
                      newTuple [text, __do_lift]
                ret __do_lift
              else ret text) Q E s := by
  refine wpAny_bind (slice_run hx fun t1 k1 => ?_)
  obtain ⟨hn, hk, vs, m, hl, l', h1, h2⟩ := hP
  unfold seqItems?
  refine wpAny_bind (wpAny_bind (wpAny_load hl (wpAny_pure ?_)))
  show wpAny _ _ (if vs.isEmpty = true then _ else _) _ _ _
  have hz : (x.drop 0).take (0 - 0) = ([] : List Nat) := by simp
  by_cases he : vs.isEmpty = true
  · rw [if_pos he]
    have hv : vs = #[] := by simpa using he
    subst hv
    have ha : acc = [] := by
      cases l' with
      | nil => simpa using h2.symm
      | cons q l => simp [strValues] at h1
    subst ha
    refine wpAny_bind (wpAny_pure ?_)
    rw [if_neg (by simp), hz]
    exact wpAny_pure (hQ _ _)
  · rw [if_neg he]
    refine wpAny_bind ?_
    have hv : vs = (strValues l').toArray := by rw [← h1]
    subst hv
    rw [hz]
    refine SC.join (l := l') (texts := acc.map strOf) ⟨_, hl, rfl, ⟨_, rfl⟩⟩ h2 ?_ fun t' k => ?_
    · unfold JoinOk
      rw [StrLaws.joinTotal, sum_len]
      simp [strOf_len, Builtin.Str.tooLong]
      simpa using hz1
    · have e1 : Txt.join (strOf []) (acc.map strOf) = strOf acc.flatten := by
        show Builtin.Str.glued (strOf []) (acc.map strOf) = _
        rw [StrLaws.glued_eq_join, join_nil]
      rw [e1, if_neg (by simp)]
      exact wpAny_pure (hQ _ _)

theorem sub_loop {W : Wd} {A : Around} {a D : Addr} {code : Array Nat} {x r : List Nat} {t u : Tok} {f : Nat → Option (Nat × Nat)} {R : Result → Shared → Prop} {s₀ : Shared}
    (hp : Pat s₀.heap a code) (hf : Srch code (strOf x).cps f) (hx : x.length ≤ sizeLine) (hm : ∀ p i j, f p = some (i, j) → p ≤ i ∧ i < j ∧ j ≤ x.length) :
    ∀ (k : Nat) (n : Int) (p : Nat) (acc : List (List Nat)) (s : Shared), x.length - p < k → p ≤ x.length → Pcs s₀.heap D acc s.heap → (∃ h tk, s = { s₀ with heap := h, toks := tk }) →
      (acc ++ subP f x r k p).flatten.length ≤ sizeLine → (acc ++ subP f x r k p).length ≤ sizeLine →
      (∀ s' t', Kp s₀ s' → R (.ok (.ret (.str (strOf (acc ++ subP f x r k p).flatten) t'))) s') →
      codeAny W.M A (.builtin "re.Pattern.sub.loop" (subArgs a (.str (strOf x) t) (.str (strOf r) u) n p D)) R s := by
  intro k
  induction k with
  | zero => intro n p acc s h; omega
  | succ k ih =>
    intro n p acc s hk hpl hP hs hz1 hz2 hR
    obtain ⟨hh, tk, rfl⟩ := hs
    have hsz : (strOf x).cps.size = x.length := by simp [strOf]
    refine codeAny_builtin entry_subloop ?_
    rw [Around.under_plainId plain_subloop _]
    unfold Builtin.«re.Pattern.sub.loop»
    dsimp only
    refine wpAny_bind (whole_run (hp.keeps hP.keep) ?_)
    rw [if_pos (show ((0 : Int) == 0) = true from rfl)]
    refine wpAny_bind (wpAny_bind (wpAny_pure (wpAny_pure ?_)))
    dsimp only
    rw [if_neg (by simp)]
    unfold reNextFound
    refine wpAny_bind (hf.run (by simp [strOf]; omega) (fun h0 => ?_) (fun i j m h0 m1 m2 => ?_))
    · rw [show ((p : Int)).toNat = p from rfl] at h0 ⊢
      have hsub : subP f x r (k + 1) p = if p < x.length then [x.drop p] else [] := by simp [subP, h0]
      rw [hsub] at hz1 hz2 hR
      by_cases hlt : p < x.length
      · rw [if_pos hlt] at hz1 hz2 hR
        dsimp only
        rw [if_pos (by rw [hsz]; exact hlt)]
        refine wpAny_bind (slice_run hx fun t1 k1 => ?_)
        have e1 : (x.drop p).take ((strOf x).cps.size - p) = x.drop p := by rw [hsz]; exact List.take_of_length_le (by simp)
        rw [e1]
        refine wpAny_bind (Pcs.push hP (by simp at hz2; omega) fun h' hP' => ?_)
        exact tail_run hP' hx hz1 fun t' k' => hR _ _ ⟨h', k', rfl, hP'.keep⟩
      · rw [if_neg hlt] at hz1 hz2 hR
        dsimp only
        rw [if_neg (by rw [hsz]; exact hlt)]
        rw [List.append_nil] at hz1 hz2 hR
        exact tail_run hP hx hz1 fun t' k' => hR _ _ ⟨hh, k', rfl, hP.keep⟩
    · rw [show ((p : Int)).toNat = p from rfl] at h0 ⊢
      obtain ⟨q1, q2, q3⟩ := hm p i j h0
      have hsub : subP f x r (k + 1) p = (if p < i then [(x.drop p).take (i - p)] else []) ++ [r] ++ subP f x r k j := by simp [subP, h0]
      rw [hsub] at hz1 hz2 hR
      subst m1 m2
      have fin : ∀ (acc' : List (List Nat)) (h' : Heap) (k' : Nat), Pcs s₀.heap D acc' h' → (acc' ++ [r] ++ subP f x r k m.handed).flatten.length ≤ sizeLine → (acc' ++ [r] ++ subP f x r k m.handed).length ≤ sizeLine →
          (∀ s' t', Kp s₀ s' → R (.ok (.ret (.str (strOf (acc' ++ [r] ++ subP f x r k m.handed).flatten) t'))) s') →
          wpAny W.M A.in1 (if ((0 : Int) == 0) = true then do
            let item ← pure (Value.str (strOf r) u)
            if (item != Value.none) = true then do
                updateSeq D fun x => x.push item
                again (.builtin "re.Pattern.sub.loop" (subArgs a (.str (strOf x) t) (.str (strOf r) u) (n + 1) m.handed D))
              else again (.builtin "re.Pattern.sub.loop" (subArgs a (.str (strOf x) t) (.str (strOf r) u) (n + 1) m.handed D))
            else unsupported "")
            (fun fin s' => match fin with | .done f => R (.ok f) s' | .again c' => c'.quiet = true ∧ codeAny W.M A c' R s') (fun e s' => R (.error e) s') { s₀ with heap := h', toks := k' } := by
        intro acc' h' k' hP' z1 z2 hR'
        rw [if_pos (show ((0 : Int) == 0) = true from rfl)]
        refine wpAny_bind (wpAny_pure ?_)
        rw [if_pos (show (Value.str (strOf r) u != Value.none) = true from rfl)]
        refine wpAny_bind (Pcs.push (s := { s₀ with heap := h', toks := k' }) hP' (by simp at z2; omega) fun h'' hP'' => ?_)
        exact wpAny_pure ⟨plainId_quiet plain_subloop _, ih (n + 1) m.handed (acc' ++ [r]) _ (by omega) q3 hP'' ⟨h'', k', rfl⟩ z1 z2 hR'⟩
      have hb : (m.handed == m.start) = false := by simp; omega
      dsimp only
      rw [hb]
      by_cases hlt : p < m.start
      · rw [if_pos hlt] at hz1 hz2 hR
        rw [if_pos hlt]
        refine wpAny_bind (slice_run hx fun t1 k1 => ?_)
        refine wpAny_bind (Pcs.push hP (by simp at hz2; omega) fun h' hP' => ?_)
        refine fin (acc ++ [(x.drop p).take (m.start - p)]) h' k1 hP' ?_ ?_ ?_
        · simpa using hz1
        · simpa using hz2
        · simpa using hR
      · rw [if_neg hlt] at hz1 hz2 hR
        rw [if_neg hlt]
        refine fin acc hh tk hP ?_ ?_ ?_
        · simpa using hz1
        · simpa using hz2
        · simpa using hR
end Mine
end partS6

section partS7
open PySem PySem.W PyProof.Rows
set_option maxRecDepth 100000
set_option linter.unusedVariables false
namespace Mine
open PySem.Builtin.Re

theorem plainAttrs_pat : PlainAttrs "re.Pattern" :=
  ⟨⟨"object.__getattribute__", by rw [typeLookup_type, builtinLookup_eq_fast]; kernel_rfl, by decide +kernel⟩, by rw [typeLookup_type, builtinLookup_eq_fast]; kernel_rfl⟩
theorem slot_pat_sub : Slot "re.Pattern" "sub" "re.Pattern.sub" :=
  .of (owner := "re.Pattern") (n := "sub") (by rw [typeLookup_type, builtinLookup_eq_fast]; kernel_rfl) (by decide +kernel) (by decide +kernel) (by decide +kernel)
    (by first | exact .inl (by decide +kernel) | exact .inr (by decide +kernel)) (by rw [isSubtype_type]; kernel_rfl)
theorem type_pat_sub : typeOf (.builtin "re.Pattern.sub") = pure (.type "method_descriptor") := by show builtinType _ = _; rw [builtinType_eq_fast]; kernel_rfl
theorem owner_pat : Manifest.owners.lookup (String.ofList ['n', 'r', 'e', 't', 't', 'a', 'P', '.', 'e', 'r'].reverse) = some Manifest.sig_re_Pattern := by kernel_rfl
theorem args_pat_sub (a b c : Value) : argsOk "re.Pattern.sub" ⟨[a, b, c], []⟩ := by
  unfold argsOk; rw [signature?_of (id := "re.Pattern.sub") (n := ['b', 'u', 's']) (o := ['n', 'r', 'e', 't', 't', 'a', 'P', '.', 'e', 'r']) (by kernel_rfl) owner_pat]; kernel_rfl

theorem special_str_call (x : Str) (t : Tok) : specialOf (.str x t) "__call__" = pure none := by kernel_rfl!
theorem named_sub (a b : Value) : reNamed "re.Pattern.sub" "sub" ["repl", "string", "count"] 2 [a, b] [] = pure [some a, some b, none] := by rfl

/-- a substitution of a text in a text -/
theorem sub_run {W : Wd} {A : Around} {a : Addr} {code : Array Nat} {x r : List Nat} {t u : Tok} {f : Nat → Option (Nat × Nat)} {s : Shared} {Q : Value → Shared → Prop} {E : Value → Shared → Prop} {E' : Value → Shared → Prop}
    (hp : Pat s.heap a code) (hT : s.TypeIs (.ref a) "re.Pattern") (hf : Srch code (strOf x).cps f) (hx : x.length ≤ sizeLine) (hm : ∀ p i j, f p = some (i, j) → p ≤ i ∧ i < j ∧ j ≤ x.length) (hr : r.contains 92 = false)
    (hz1 : (subP f x r (x.length + 1) 0).flatten.length ≤ sizeLine) (hz2 : (subP f x r (x.length + 1) 0).length ≤ sizeLine)
    (h : ∀ s' t', Kp s s' → Q (.str (strOf (subP f x r (x.length + 1) 0).flatten) t') s') :
    wpAny W.M A (call (.builtin "re.Pattern.sub") [.ref a, .str (strOf r) u, .str (strOf x) t]) Q E s := by
  refine wpAny_call (codeAny_call_builtin slot_pat_sub.plain entry_sub (slot_pat_sub.check _ _ _ _ _ _ _ _ hT (args_pat_sub _ _ _) ?_))
  unfold Builtin.«re.Pattern.sub» reSubstitute
  dsimp only
  refine wpAny_bind (wpAny_of_eq (named_sub _ _) ?_)
  dsimp only
  refine wpAny_bind (wpAny_pure ?_)
  refine wpAny_bind (wpAny_of_eq (special_str_call _ _) ?_)
  rw [if_neg (by simp)]
  refine wpAny_bind (wpAny_pure ?_)
  dsimp only
  refine wpAny_bind (wpAny_pure ?_)
  rw [if_neg (by simp)]
  rw [if_pos (by rw [show (strOf r).cps = r.toArray from rfl]; simpa using hr)]
  refine wpAny_bind (wpAny_pure ?_)
  refine wpAny_bind (wpAny_holding (whole_run hp ?_))
  rw [if_neg (by show ¬((0 : Int) == 1) = true; decide)]
  refine wpAny_bind (wpAny_newList ?_ (by decide))
  refine wpAny_pure ⟨plainId_quiet plain_subloop _, ?_⟩
  refine sub_loop (s₀ := s) (D := s.heap.objs.size) hp hf hx hm (x.length + 1) 0 0 [] _ (by omega) (by omega) ⟨?_, fun b o e => Heap.get?_push_of_some _ e, #[], 0, Heap.get?_push_size _ rfl, [], rfl, rfl⟩ ⟨_, s.toks, rfl⟩ (by simpa using hz1) (by simpa using hz2) ?_
  · cases e : s.heap.get? s.heap.objs.size with
    | none => rfl
    | some o => exact absurd (Heap.lt_size e) (Nat.lt_irrefl _)
  · intro s' t' k
    exact h s' t' k
end Mine
end partS7

section partS8
open PySem PySem.W PyProof.Rows
set_option maxRecDepth 100000
set_option linter.unusedVariables false
namespace Mine
open PySem.Builtin.Re

noncomputable def firstFrom (P : Nat → Bool) : Nat → Nat → Option Nat
  | 0, _ => none
  | k + 1, p => if P p then some p else firstFrom P k (p + 1)

theorem firstFrom_some {P : Nat → Bool} : ∀ {k p i : Nat}, p ≤ i → i < p + k → P i = true → (∀ j, p ≤ j → j < i → P j = false) → firstFrom P k p = some i
  | 0, p, i, h1, h2, _, _ => by omega
  | k + 1, p, i, h1, h2, h3, h4 => by
    unfold firstFrom
    by_cases e : p = i
    · subst e; rw [if_pos h3]
    · rw [if_neg (by rw [h4 p (Nat.le_refl _) (by omega)]; simp)]
      exact firstFrom_some (by omega) (by omega) h3 fun j a b => h4 j (by omega) b
theorem firstFrom_none {P : Nat → Bool} : ∀ {k p : Nat}, (∀ j, p ≤ j → j < p + k → P j = false) → firstFrom P k p = none
  | 0, p, _ => rfl
  | k + 1, p, h => by
    unfold firstFrom
    rw [if_neg (by rw [h p (Nat.le_refl _) (by omega)]; simp)]
    exact firstFrom_none fun j a b => h j (by omega) (by omega)
theorem firstFrom_inv {P : Nat → Bool} : ∀ {k p i : Nat}, firstFrom P k p = some i → p ≤ i ∧ i < p + k ∧ P i = true
  | 0, p, i, h => by simp [firstFrom] at h
  | k + 1, p, i, h => by
    unfold firstFrom at h
    by_cases e : P p = true
    · rw [if_pos e] at h
      simp at h; subst h; exact ⟨Nat.le_refl _, by omega, e⟩
    · rw [if_neg e] at h
      obtain ⟨a, b, c⟩ := firstFrom_inv h
      exact ⟨by omega, by omega, c⟩

noncomputable def seek (P : Nat → Bool) (len : Nat → Nat) (n p : Nat) : Option (Nat × Nat) := (firstFrom P (n - p) p).map fun i => (i, i + len i)

section
variable {P : Nat → Bool} {len : Nat → Nat} {x r : List Nat}

theorem seek_miss {n p : Nat} (h : P p = false) : seek P len n p = seek P len n (p + 1) := by
  unfold seek
  by_cases e : p < n
  · rw [show n - p = (n - (p + 1)) + 1 by omega]
    conv => lhs; unfold firstFrom
    rw [if_neg (by rw [h]; simp)]
  · rw [show n - p = 0 by omega, show n - (p + 1) = 0 by omega]; rfl
theorem seek_hit {n p : Nat} (hp : p < n) (h : P p = true) : seek P len n p = some (p, p + len p) := by
  unfold seek
  rw [show n - p = (n - (p + 1)) + 1 by omega]
  conv => lhs; unfold firstFrom
  rw [if_pos h]; rfl
theorem seek_end {n p : Nat} (hp : n ≤ p) : seek P len n p = none := by
  unfold seek; rw [show n - p = 0 by omega]; rfl

theorem sub_hit {k p : Nat} (hp : p < x.length) (h : P p = true) : subP (seek P len x.length) x r (k + 1) p = r :: subP (seek P len x.length) x r k (p + len p) := by
  simp [subP, seek_hit hp h]
theorem sub_end {k p : Nat} (hp : x.length ≤ p) : subP (seek P len x.length) x r (k + 1) p = [] := by
  simp [subP, seek_end hp]; exact hp
theorem sub_miss {k p : Nat} (hp : p < x.length) (h : P p = false) : (subP (seek P len x.length) x r (k + 1) p).flatten = (x[p]?.getD 0) :: (subP (seek P len x.length) x r (k + 1) (p + 1)).flatten := by
  have hd : x.drop p = (x[p]?.getD 0) :: x.drop (p + 1) := by
    rw [List.getElem?_eq_getElem hp]; exact List.drop_eq_getElem_cons hp
  simp only [subP, seek_miss (len := len) (n := x.length) h]
  cases e : seek P len x.length (p + 1) with
  | none =>
    dsimp only
    by_cases e2 : p + 1 < x.length
    · rw [if_pos hp, if_pos e2, hd]; simp
    · rw [if_pos hp, if_neg e2, hd, List.drop_eq_nil_of_le (by omega)]; simp
  | some ij =>
    obtain ⟨i, j⟩ := ij
    dsimp only
    have hi : p + 1 ≤ i := by
      unfold seek at e
      rw [Option.map_eq_some_iff] at e
      obtain ⟨y, e1, e2⟩ := e
      have := firstFrom_inv e1
      simp only [Prod.mk.injEq] at e2
      omega
    rw [if_pos (by omega : p < i)]
    by_cases e2 : p + 1 < i
    · rw [if_pos e2, hd]
      rw [show i - p = (i - (p + 1)) + 1 by omega, List.take_succ_cons]; simp
    · rw [if_neg e2, hd]
      rw [show i - p = 0 + 1 by omega, List.take_succ_cons]; simp
theorem sub_run_over {k : Nat} : ∀ (y : List Nat) (pre suf : List Nat), x = pre ++ y ++ suf → (∀ d, d < y.length → P (pre.length + d) = false) →
    (subP (seek P len x.length) x r (k + 1) pre.length).flatten = y ++ (subP (seek P len x.length) x r (k + 1) (pre.length + y.length)).flatten
  | [], pre, suf, _, _ => by simp
  | c :: y, pre, suf, e, h => by
    have hl : pre.length < x.length := by rw [e]; simp
    have hc : x[pre.length]?.getD 0 = c := by rw [e]; simp
    rw [sub_miss hl (by simpa using h 0 (by simp)), hc]
    have := sub_run_over (k := k) y (pre ++ [c]) suf (by rw [e]; simp) fun d hd => by
      have := h (d + 1) (by simp; omega)
      simpa [Nat.add_assoc, Nat.add_comm 1 d] using this
    rw [List.length_append, List.length_singleton] at this
    rw [this]
    simp [Nat.add_assoc, Nat.add_comm 1]
theorem seek_ok {n p i j : Nat} (hl : ∀ i, P i = true → i < n → 0 < len i ∧ i + len i ≤ n) (h : seek P len n p = some (i, j)) : p ≤ i ∧ i < j ∧ j ≤ n := by
  unfold seek at h
  rw [Option.map_eq_some_iff] at h
  obtain ⟨y, e1, e2⟩ := h
  obtain ⟨a, b, c⟩ := firstFrom_inv e1
  simp only [Prod.mk.injEq] at e2
  obtain ⟨rfl, rfl⟩ := e2
  have := hl y c (by omega)
  exact ⟨a, by omega, by omega⟩
end

noncomputable def hit2 (x : List Nat) (i : Nat) : Bool := decide (x[i]?.getD 0 = 10 ∨ x[i]?.getD 0 = 13)
noncomputable def lng2 (x : List Nat) (i : Nat) : Nat := if x[i]?.getD 0 = 13 ∧ x[i + 1]?.getD 0 = 10 then 2 else 1
noncomputable def hit1 (x : List Nat) (i : Nat) : Bool := decide ((i = 0 ∨ x[i - 1]?.getD 0 = 10) ∧ x[i]?.getD 0 = 46)

theorem hit2_iff (x : List Nat) (i : Nat) (h : i < x.length) : hit2 x i = true ↔ Hit2 x.toArray i := by
  simp [hit2, Hit2, h]
theorem hit1_iff (x : List Nat) (i : Nat) (h : i < x.length) : hit1 x i = true ↔ Hit1 x.toArray i := by
  simp [hit1, Hit1, h]
theorem lng2_eq (x : List Nat) (i : Nat) : lng2 x i = len2 x.toArray i := by
  unfold lng2 len2
  by_cases h : i + 1 < x.length
  · simp [h]
  · have : x[i + 1]? = none := by simp; omega
    simp [this]

theorem srch2 (x : List Nat) : Srch code2 (strOf x).cps (seek (hit2 x) (lng2 x) x.length) := by
  intro s hs
  have hz : (strOf x).cps = x.toArray := rfl
  rw [hz] at hs ⊢
  have hs' : s ≤ x.length := by simpa using hs
  by_cases h : s < x.length
  · rcases search2 x.toArray s (by simpa using h) with ⟨i, N, h1, h2, h3, h4, h5, h6, h7⟩ | ⟨h1, N, h2, h3⟩
    · have hi : i < x.length := by simpa using h2.1
      refine ⟨N, Nat.le_trans h4 (by decide), ?_⟩
      have e : seek (hit2 x) (lng2 x) x.length s = some (i, i + lng2 x i) := by
        unfold seek
        rw [firstFrom_some h1 (by omega) ((hit2_iff x i hi).mpr h2) fun j a b => Bool.eq_false_iff.mpr fun y => h3 j a b ((hit2_iff x j (by omega)).mp y)]
        rfl
      rw [e, lng2_eq]
      exact ⟨h5, h6, h7⟩
    · refine ⟨N, Nat.le_trans h2 (by decide), ?_⟩
      have e : seek (hit2 x) (lng2 x) x.length s = none := by
        unfold seek
        rw [firstFrom_none fun j a b => Bool.eq_false_iff.mpr fun y => h1 j a ((hit2_iff x j (by omega)).mp y)]
        rfl
      rw [e]
      exact h3
  · have e : seek (hit2 x) (lng2 x) x.length s = none := seek_end (by omega)
    rw [e]
    refine ⟨1, by decide, ?_⟩
    have : s = x.length := by omega
    subst this
    unfold Sre.forSearch
    show (Sre.M.runFor 1 (if (decide (x.length > x.toArray.size) || decide (x.toArray.size - x.length < 1)) = true then _ else _)).outcome = _
    rw [if_pos (by simp)]
    rfl

theorem srch1 (x : List Nat) (hx : x.length ≤ 2 ^ 40) : Srch code1 (strOf x).cps (seek (hit1 x) (fun _ => 1) x.length) := by
  intro s hs
  have hz : (strOf x).cps = x.toArray := rfl
  rw [hz] at hs ⊢
  have hs' : s ≤ x.length := by simpa using hs
  by_cases h : s < x.length
  · rw [forSearch1 _ _ (by simpa using h)]
    rcases search1 x.toArray (x.length - s) s true (({} : Sre.Seen).add 14) (by simp) (by simpa using hs') with ⟨i, N, h1, h2, h3, h4, h5, h6, h7⟩ | ⟨h1, N, h2, h3⟩
    · have hi : i < x.length := by simpa using h2.1
      refine ⟨N, by omega, ?_⟩
      have e : seek (hit1 x) (fun _ => 1) x.length s = some (i, i + 1) := by
        unfold seek
        rw [firstFrom_some h1 (by omega) ((hit1_iff x i hi).mpr h2) fun j a b => Bool.eq_false_iff.mpr fun y => h3 j a b ((hit1_iff x j (by omega)).mp y)]
        rfl
      rw [e]
      exact ⟨h5, h6, h7⟩
    · refine ⟨N, by omega, ?_⟩
      have e : seek (hit1 x) (fun _ => 1) x.length s = none := by
        unfold seek
        rw [firstFrom_none fun j a b => Bool.eq_false_iff.mpr fun y => h1 j a ((hit1_iff x j (by omega)).mp y)]
        rfl
      rw [e]
      exact h3
  · have e : seek (hit1 x) (fun _ => 1) x.length s = none := seek_end (by omega)
    rw [e]
    refine ⟨1, by decide, ?_⟩
    have : s = x.length := by omega
    subst this
    unfold Sre.forSearch
    show (Sre.M.runFor 1 (if (decide (x.length > x.toArray.size) || decide (x.toArray.size - x.length < 1)) = true then _ else _)).outcome = _
    rw [if_pos (by simp)]
    rfl

theorem quote2 {x e : List Nat} (he : e = [10] ∨ e = [13] ∨ e = [13, 10]) : ∀ (L : List (List Nat)) (pre : List Nat) (k : Nat), (∀ r ∈ L, ∀ c ∈ r, c ≠ 10 ∧ c ≠ 13) → x = pre ++ L.flatMap (· ++ e) → L.length < k →
    (subP (seek (hit2 x) (lng2 x) x.length) x [13, 10] k pre.length).flatten = L.flatMap (· ++ [13, 10])
  | [], pre, 0, _, _, h => by simp at h
  | [], pre, k + 1, _, hx, _ => by
    rw [sub_end (by rw [hx]; simp)]; rfl
  | r :: L, pre, 0, _, _, h => by simp at h
  | r :: L, pre, k + 1, hL, hx, hk => by
    have hx' : x = pre ++ r ++ (e ++ L.flatMap (· ++ e)) := by rw [hx]; simp
    rw [sub_run_over r pre _ hx' fun d hd => ?_]
    · have hlen : (pre ++ r).length = pre.length + r.length := by simp
      have hend : hit2 x (pre.length + r.length) = true := by
        rw [hx', ← hlen]
        rcases he with rfl | rfl | rfl <;> simp [hit2]
      have hlt : pre.length + r.length < x.length := by
        rw [hx']; rcases he with rfl | rfl | rfl <;> simp <;> omega
      have hlng : lng2 x (pre.length + r.length) = e.length := by
        rw [hx', ← hlen]
        rcases he with rfl | rfl | rfl
        · simp [lng2]
        · have : ((L.flatMap (· ++ [13]))[0]?.getD 0) ≠ 10 := by
            cases L with
            | nil => simp
            | cons q L =>
              cases q with
              | nil => simp
              | cons c q =>
                have := (hL (c :: q) (by simp) c (by simp)).1
                simpa using this
          unfold lng2
          rw [if_neg]
          · rfl
          · intro ⟨_, h2⟩
            apply this
            rw [← h2, List.getElem?_append_right (by simp), show (pre ++ r).length + 1 - (pre ++ r).length = 0 + 1 by omega]
            rfl
        · unfold lng2
          rw [if_pos]
          · rfl
          · refine ⟨by simp, ?_⟩
            rw [List.getElem?_append_right (by simp), show (pre ++ r).length + 1 - (pre ++ r).length = 0 + 1 by omega]
            rfl
      rw [sub_hit hlt hend, hlng]
      have := quote2 (x := x) he L (pre ++ r ++ e) k (fun q hq => hL q (List.mem_cons_of_mem _ hq)) (by rw [hx]; simp) (by simp at hk; omega)
      simp only [List.length_append] at this
      rw [List.flatten_cons, this]
      simp
    · have hc : x[pre.length + d]?.getD 0 = r[d] := by rw [hx', List.append_assoc, List.getElem?_append_right (by omega)]; simp [hd, List.getElem?_append_left]
      have := hL r (by simp) r[d] (List.getElem_mem hd)
      simp [hit2, hc, this]

noncomputable def dotted (r : List Nat) : List Nat := if r.head? = some 46 then 46 :: r else r

theorem quote1 {x : List Nat} : ∀ (L : List (List Nat)) (pre : List Nat) (k : Nat), (∀ r ∈ L, ∀ c ∈ r, c ≠ 10 ∧ c ≠ 13) → x = pre ++ L.flatMap (· ++ [13, 10]) → (pre = [] ∨ pre[pre.length - 1]?.getD 0 = 10) → L.length < k →
    (subP (seek (hit1 x) (fun _ => 1) x.length) x [46, 46] k pre.length).flatten = L.flatMap (fun r => dotted r ++ [13, 10])
  | [], pre, 0, _, _, _, h => by simp at h
  | [], pre, k + 1, _, hx, _, _ => by
    rw [sub_end (by rw [hx]; simp)]; rfl
  | r :: L, pre, 0, _, _, _, h => by simp at h
  | r :: L, pre, k + 1, hL, hx, hp, hk => by
    have hr := hL r (by simp)
    have nxt : ∀ j, L.length < j → (subP (seek (hit1 x) (fun _ => 1) x.length) x [46, 46] j (pre.length + (r.length + 2))).flatten = L.flatMap (fun r => dotted r ++ [13, 10]) := fun j hj => by
      have := quote1 (x := x) L (pre ++ (r ++ [13, 10])) j (fun q hq => hL q (List.mem_cons_of_mem _ hq)) (by rw [hx]; simp) (.inr (by
        have e1 : (pre ++ (r ++ [13, 10])).length - 1 = (pre ++ r).length + 1 := by simp; omega
        rw [e1, ← List.append_assoc, List.getElem?_append_right (by omega), Nat.add_sub_cancel_left]
        rfl)) hj
      simp only [List.length_append] at this
      simpa using this
    have hx' : x = pre ++ (r ++ [13, 10]) ++ L.flatMap (· ++ [13, 10]) := by rw [hx]; simp
    have inner : ∀ d, 0 < d → d < r.length + 2 → hit1 x (pre.length + d) = false := fun d h0 hd => by
      have e1 : x[pre.length + d - 1]?.getD 0 ≠ 10 := by
        rw [hx', List.append_assoc, List.getElem?_append_right (by omega), show pre.length + d - 1 - pre.length = d - 1 by omega, List.getElem?_append_left (by simp; omega)]
        by_cases h1 : d - 1 < r.length
        · rw [List.getElem?_append_left h1, List.getElem?_eq_getElem h1]
          exact (hr _ (List.getElem_mem h1)).1
        · rw [List.getElem?_append_right (by omega), show d - 1 - r.length = 0 by omega]; simp
      simp [hit1, e1]; omega
    have hl : pre.length < x.length := by rw [hx']; simp; omega
    have head : x[pre.length]?.getD 0 = (r ++ [13, 10])[0]?.getD 0 := by
      rw [hx', List.append_assoc, List.getElem?_append_right (Nat.le_refl _), Nat.sub_self, List.getElem?_append_left (by simp)]
    have hline : pre.length = 0 ∨ x[pre.length - 1]?.getD 0 = 10 := by
      rcases hp with rfl | h
      · exact .inl rfl
      · by_cases h0 : pre.length = 0
        · exact .inl h0
        · refine .inr ?_
          rw [hx', List.append_assoc, List.getElem?_append_left (by omega)]
          exact h
    cases r with
    | nil =>
      have h0 : hit1 x pre.length = false := by simp [hit1, head]
      rw [sub_run_over ([] ++ [13, 10]) pre _ hx' fun d hd => ?_]
      · rw [show ([] ++ [13, 10] : List Nat).length = ([] : List Nat).length + 2 from rfl, nxt (k + 1) (by simp at hk; omega)]
        simp [dotted]
      · by_cases hd0 : d = 0
        · subst hd0; exact h0
        · exact inner d (by omega) (by simpa using hd)
    | cons c q =>
      have hc : x[pre.length]?.getD 0 = c := by rw [head]; rfl
      by_cases h46 : c = 46
      · subst h46
        have h0 : hit1 x pre.length = true := by simp only [hit1, hc]; simpa using hline
        rw [sub_hit hl h0, List.flatten_cons]
        obtain ⟨k, rfl⟩ : ∃ k', k = k' + 1 := ⟨k - 1, by simp at hk; omega⟩
        have := sub_run_over (P := hit1 x) (len := fun _ => 1) (x := x) (r := [46, 46]) (k := k) (q ++ [13, 10]) (pre ++ [46]) (L.flatMap (· ++ [13, 10])) (by rw [hx']; simp) fun d hd => by
          have := inner (d + 1) (by omega) (by simp at hd ⊢; omega)
          simpa [Nat.add_assoc, Nat.add_comm 1 d] using this
        simp only [List.length_append, List.length_singleton] at this
        rw [this, show pre.length + 1 + (q.length + [13, 10].length) = pre.length + ((46 :: q).length + 2) by simp; omega, nxt (k + 1) (by simp at hk; omega)]
        simp [dotted]
      · have h0 : hit1 x pre.length = false := by simp [hit1, hc, h46]
        rw [sub_run_over (c :: q ++ [13, 10]) pre _ hx' fun d hd => ?_]
        · rw [show (c :: q ++ [13, 10] : List Nat).length = (c :: q).length + 2 from by simp, nxt (k + 1) (by simp at hk; omega)]
          simp [dotted, h46]
        · by_cases hd0 : d = 0
          · subst hd0; exact h0
          · exact inner d (by omega) (by simpa using hd)
end Mine
end partS8

section partS9
open PySem PySem.W PyProof.Rows
set_option maxRecDepth 100000
set_option linter.unusedVariables false
namespace Mine
open PySem.Builtin.Re
section
variable {W : Wd} {c : Fc} {a : AS}

/-- an object that is a compiled pattern -/
noncomputable def PatObj (h : Heap) (b : Addr) (code : Array Nat) : Prop := Pat h b code ∧ ∃ o, h.get? b = some o ∧ o.cls = .type "re.Pattern" ∧ o.dict = none

theorem ev_globs {x : Str} {pos : Pos} {l : List Nat} {t : Tok} {gl : List Str} (hgl : c.gl = gl) (hx : x ∈ gl) (hg : W.mg x = some (.str (strOf l) t)) : Ev W c a (.Name x pos) (.str l) := .mk fun X s x₁ Q E h =>
  Calls.Name_function_global x₁.ok.fn (x₁.ok.gm x (hgl ▸ hx)) (Calls.loadGlobal_global (env := c.env) (mg := W.mg) (by rw [x₁.ok.gg]; exact W.ns _ x₁.g) hg (h _ _ (Kp.rfl' _) (by simp only [Rep]; exact ⟨_, rfl⟩))) (x₁.ok.db.2 x (hgl ▸ hx))

theorem ev_resub {o e₁ e₂ : Expr} {apos pos : Pos} {b : Addr} {code : Array Nat} {r x y : List Nat} {f : Nat → Option (Nat × Nat)} (hbase : attributeBase o (Str.ofString "sub") c.env (eval o c.env) = eval o c.env)
    (hst : starEach [e₁, e₂] c.env = [(false, eval e₁ c.env), (false, eval e₂ c.env)]) (hline : (apos.endLine == pos.line) = true)
    (hP : ∀ h, W.g h → PatObj h b code) (ho : Ev W c a o (.raw (.ref b))) (h1 : Ev W c a e₁ (.str r)) (h2 : Ev W c a e₂ (.str x))
    (hf : Srch code (strOf x).cps f) (hx : x.length ≤ sizeLine) (hm : ∀ p i j, f p = some (i, j) → p ≤ i ∧ i < j ∧ j ≤ x.length) (hr : r.contains 92 = false)
    (hy : (subP f x r (x.length + 1) 0).flatten = y) (hz1 : y.length ≤ sizeLine) (hz2 : (subP f x r (x.length + 1) 0).length ≤ sizeLine) :
    Ev W c a (.Call (.Attribute o (Str.ofString "sub") apos) [e₁, e₂] [] pos) (.str y) := .mk fun X s st Q E h => by
  refine Call_method2 hbase hst hline (ho.go X s st _ _ fun v s₁ k₁ r₁ => ?_)
  simp only [Rep] at r₁
  subst r₁
  obtain ⟨_, ob, hob, hc, hdn⟩ := hP _ (st.keeps k₁).g
  refine ⟨"re.Pattern", "re.Pattern.sub", plainAttrs_pat, slot_pat_sub, type_pat_sub, ⟨ob, hob, hc⟩, fun b hb => ⟨ob, (by cases hb; exact hob), hdn⟩, ?_⟩
  refine Calls.callWith_builtin rfl (Calls.evalArgs_plain (Calls.spliced_cons (h1.go X s₁ (st.keeps k₁) _ _ fun v1 s₂ k₂ r₂ => Calls.spliced_cons (h2.go X s₂ (st.keeps (k₁.tr k₂)) _ _ fun v2 s₃ k₃ r₃ => Calls.spliced_nil ?_))))
  simp only [Rep] at r₂ r₃
  obtain ⟨t, rfl⟩ := r₂
  obtain ⟨t', rfl⟩ := r₃
  obtain ⟨hp, _, _, _, _⟩ := hP _ (st.keeps ((k₁.tr k₂).tr k₃)).g
  subst hy
  exact sub_run (E' := E) hp ⟨ob, (k₂.tr k₃).get hob, hc⟩ hf hx hm hr hz1 hz2 fun s' t'' k => h _ s' (((k₁.tr k₂).tr k₃).tr k) (by simp only [Rep]; exact ⟨_, rfl⟩)
end

theorem subP_len {f : Nat → Option (Nat × Nat)} {x r : List Nat} : ∀ k p, (subP f x r k p).length ≤ 2 * k
  | 0, _ => by simp [subP]
  | k + 1, p => by
    unfold subP
    split
    · split <;> simp <;> omega
    · rename_i i j _
      have := subP_len (f := f) (x := x) (r := r) k j
      split <;> simp <;> omega

theorem hit2_len {x : List Nat} {i : Nat} (h : hit2 x i = true) (hi : i < x.length) : 0 < lng2 x i ∧ i + lng2 x i ≤ x.length := by
  unfold lng2
  split
  · rename_i e
    have : i + 1 < x.length := by
      apply Classical.byContradiction
      intro h
      have : x[i + 1]? = none := by simp; omega
      rw [this] at e; simp at e
    omega
  · omega

theorem flat_len {e : List Nat} : ∀ (L : List (List Nat)), (L.flatMap (· ++ e)).length = L.flatten.length + e.length * L.length
  | [] => by simp
  | r :: L => by
    rw [List.flatMap_cons, List.length_append, flat_len L]
    simp [Nat.mul_add]; omega
theorem dot_len : ∀ (L : List (List Nat)), (L.flatMap (fun r => dotted r ++ [13, 10])).length ≤ L.flatten.length + 3 * L.length
  | [] => by simp
  | r :: L => by
    rw [List.flatMap_cons, List.length_append]
    have := dot_len L
    have h1 : (dotted r).length ≤ r.length + 1 := by unfold dotted; split <;> simp
    simp only [List.length_append, List.flatten_cons, List.length_cons, List.length_nil]
    omega
end Mine
end partS9

section partG1
open PySem PySem.W PyProof.Rows
set_option maxRecDepth 100000
set_option linter.unusedVariables false
namespace Mine

section
variable {M : Model} {A : Around} {R : GenEnd} {Y : Protocol} {n : Nat} {s₀ : Shared} {c : Code} {fs : List Frame} {s : Shared} {env : Env}
  {K : Flow → Sem Fin} {H : Value → Sem Fin} {gd : Bool → Bool} {lv : List Value → List Value}

theorem bind_wrap {α β : Type} (m : Sem α) (f : α → Sem β) {γ : Type} (K : β → Sem γ) (H : Value → Sem γ) (gd lv) : (m >>= f).wrap K H gd lv = m.wrap (fun a => (f a).wrap K H gd lv) H gd lv := by
  rw [Sem.bind_eq_wrap', Sem.wrap_wrap]
  exact Sem.wrap_congr _ _ _ (fun _ => rfl) fun _ => rfl

theorem seg_w {α : Type} {m : Sem α} {f : α → Sem Flow} (h : wpAny M (A.over c fs) m (fun a s' => Seg M A R Y n s₀ c ((f a).wrap K H gd lv) fs s') (fun x s' => Seg M A R Y n s₀ c (H x) fs s') s) : Seg M A R Y n s₀ c ((m >>= f).wrap K H gd lv) fs s := by
  rw [bind_wrap]
  exact seg_wrap h

/-- a statement that does not yield -/
theorem seg_stmt {st : Stmt} {rest : List Stmt} (h : ∀ E : Value → Shared → Prop, wpAny M (A.over c fs) (exec st env) (fun f s' => Seg M A R Y n s₀ c (match f with | .next => (execs rest env).wrap K H gd lv | f => K f) fs s') E s) :
    Seg M A R Y n s₀ c ((execs (st :: rest) env).wrap K H gd lv) fs s :=
  seg_execs_cons (seg_wrap (h _))

theorem seg_If {test : Expr} {body orelse : List Stmt} {pos : Pos} (h : ∀ E : Value → Shared → Prop, wpAny M (A.over c fs) (isTrue test env (eval test env)) (fun b s' => Seg M A R Y n s₀ c ((execs (if b = true then body else orelse) env).wrap K H gd lv) fs s') E s) :
    Seg M A R Y n s₀ c ((exec (.If test body orelse pos) env).wrap K H gd lv) fs s := by
  rw [exec_If]
  refine seg_w (wpAny_standAt ?_)
  refine seg_w (wpAny_mono (h _) (fun b s' h' => ?_) fun _ _ e => e)
  cases b <;> exact h'

theorem seg_For {target iter : Expr} {body orelse : List Stmt} {pos : Pos} (hs : ∀ x, foldedSetIterable iter env x = pure x)
    (h : ∀ E : Value → Shared → Prop, wpAny M (A.over c fs) (eval iter env) (fun x s₁ => wpAny M (A.over c fs) (pyIter x) (fun it s₂ => ∀ p, Seg M A R Y n s₀ (.forLoop target it body orelse env) (M.den (.forLoop target it body orelse env))
      (.ret (fun r => ((match r with | .ok f => (.pure f : Sem Flow) | .error e => .raise e).onRaise fun (x : Value) => do
        if (← field x 1) == Value.none then unsupported "frame.own-activation:exception-without-traceback"
        setFlight x env.frame).wrap K H gd lv) none (gd false) (lv []) c p [] :: fs) s₂) E s₁) E s) :
    Seg M A R Y n s₀ c ((exec (.For target iter body orelse pos) env).wrap K H gd lv) fs s := by
  rw [exec_For]
  refine seg_w (wpAny_standAt ?_)
  refine seg_w (wpAny_mono (h _) (fun x s₁ h₁ => ?_) fun _ _ e => e)
  refine seg_w (wpAny_of_eq (hs x) ?_)
  refine seg_w (wpAny_standAt ?_)
  refine seg_w (wpAny_holding (wpAny_mono h₁ (fun it s₂ h₂ => ?_) fun _ _ e => e))
  exact seg_call h₂
end

section
variable {prog : Program} {w : World} {A : Around} {R : GenEnd} {Y : Protocol} {n : Nat} {s₀ : Shared} {fs : List Frame} {s : Shared} {env : Env}

noncomputable abbrev forK (code : Code) : Flow → Sem Fin := fun f => match f with
  | .next | .cont => .pure (.again code)
  | .brk => .pure (.done .next)
  | .ret v => .pure (.done (.ret v))
noncomputable abbrev forH (env : Env) : Value → Sem Fin := fun e => (do noteFrame e env; theTreesLotGoes e : Sem Unit).wrap (fun _ => .raise e) .raise id id

theorem seg_forLoop {target : Expr} {it : Value} {body orelse : List Stmt} (ht : ∀ v, letOwnedTupleGo target it v = pure ())
    (h : ∀ E : Value → Shared → Prop, wpAny (model prog w) (A.over (.forLoop target it body orelse env) fs) (pyNext it) (fun r s' => match r with
      | none => Seg (model prog w) A R Y n s₀ (.forLoop target it body orelse env) (.pure (.again (.block orelse env))) fs s'
      | some v => wpAny (model prog w) (A.over (.forLoop target it body orelse env) fs) (assign target env v) (fun _ s'' =>
          Seg (model prog w) A R Y n s₀ (.forLoop target it body orelse env) ((execs body env).wrap (forK (.forLoop target it body orelse env)) (forH env) id id) fs s'') E s') E s) :
    Seg (model prog w) A R Y n s₀ (.forLoop target it body orelse env) ((model prog w).den (.forLoop target it body orelse env)) fs s := by
  show Seg _ A R Y n s₀ _ ((forTurn target it body orelse env).onRaise (fun x => do noteFrame x env; theTreesLotGoes x)) fs s
  unfold forTurn
  rw [Sem.onRaise_eq_wrap, bind_wrap]
  refine seg_wrap (wpAny_standAt ?_)
  rw [bind_wrap]
  refine seg_wrap (wpAny_onRaise (wpAny_mono (h _) (fun r s' h' => ?_) fun x s' h' => wpAny_standAt h'))
  cases r with
  | none => exact h'
  | some v =>
    dsimp only
    rw [ht v]
    show Seg _ A R Y n s₀ _ ((assign target env v >>= _).wrap _ _ _ _) fs s'
    rw [bind_wrap]
    refine seg_wrap (wpAny_mono h' (fun _ s'' h'' => ?_) fun x s'' e => ?_)
    · rw [bind_wrap]
      rw [Sem.wrap_congr (execs body env) _ _ (K' := forK (.forLoop target it body orelse env)) (H' := forH env) (fun f => by cases f <;> rfl) (fun e => by
        first | exact Sem.bind_eq_wrap _ _ | (show (do noteFrame e env; theTreesLotGoes e : Sem Unit).bind (fun _ => .raise e) = _; rw [Sem.bind_eq_wrap]))]
      exact h''
    · exact e
end
end Mine
end partG1

section partG2
open PySem PySem.W PyProof.Rows
set_option maxRecDepth 100000
set_option linter.unusedVariables false
namespace Mine

noncomputable abbrev nGr : Str := Str.ofString "grouping"
noncomputable abbrev nLi : Str := Str.ofString "last_interval"
noncomputable abbrev nIv : Str := Str.ofString "interval"
noncomputable abbrev nCm : Str := Str.ofString "CHAR_MAX"

/-- the generator's text, over its places -/
noncomputable abbrev gWbody (P : Nat → Pos) : List Stmt := [.Expr (.Yield (some (.Name nLi (P 20))) (P 21)) (P 22)]
noncomputable abbrev gFix (P : Nat → Pos) (r : List Stmt) : List Stmt := [.If (.Compare (.Name nLi (P 13)) [.Is] [.Constant .none 0 (P 14)] (P 15)) r [] (P 16), .While (.Constant (.bool true) 0 (P 18)) (gWbody P) [] (P 19)]
noncomputable abbrev gLoop (P : Nat → Pos) (r : List Stmt) : List Stmt :=
  [.If (.Compare (.Name nIv (P 4)) [.Eq] [.Name nCm (P 5)] (P 6)) [.Return none (P 7)] [] (P 8),
   .If (.Compare (.Name nIv (P 9)) [.Eq] [.Constant (.int 0) 0 (P 10)] (P 11)) (gFix P r) [] (P 12),
   .Expr (.Yield (some (.Name nIv (P 23))) (P 24)) (P 25),
   .Assign [.Name nLi (P 26)] (.Name nIv (P 27)) (P 28)]
noncomputable abbrev gBody (P : Nat → Pos) (r : List Stmt) : List Stmt :=
  [.Assign [.Name nLi (P 0)] (.Constant .none 0 (P 1)) (P 2), .For (.Name nIv (P 3)) (.Name nGr (P 29)) (gLoop P r) [] (P 30)]

structure GCtx where
  W : Wd
  env : Env
  D : Addr
  it : Nat → Int
  m : Nat
  N : Nat
  A : Around
  hb : Heap

structure GOk (g : GCtx) : Prop where
  kind : g.env.scope.kind = .function
  co : g.env.scope.isCoroutine = false
  k1 : g.env.kindOf nGr = some .local
  k2 : g.env.kindOf nLi = some .local
  k3 : g.env.kindOf nIv = some .local
  k4 : g.env.kindOf nCm = some .globalImplicit
  gl : g.env.globals = mainGlobals
  hg : g.W.g g.hb
  cm : ∃ t, g.W.mg nCm = some (.int 127 t)
  DL : g.D ≠ g.env.locals
  old : g.hb.get? g.env.locals = none
  it0 : ∀ k, k < g.m → g.it k ≠ 0 ∧ g.it k ≠ 127
  itm : g.it g.m = 0 ∨ g.it g.m = 127
  mpos : g.it g.m = 0 → 0 < g.m
  hd : g.A.handled = none

namespace GCtx
variable (g : GCtx)
noncomputable abbrev M : Model := model g.W.prog g.W.w
noncomputable abbrev L : Addr := g.env.locals
noncomputable def Base (h : Heap) : Prop := ∀ b o, g.hb.get? b = some o → h.get? b = some o
noncomputable def yv (k : Nat) : Int := if k < g.m then g.it k else g.it (g.m - 1)
noncomputable def LastIs (mm : Str → Option Value) : Nat → Prop
  | 0 => mm nLi = some .none
  | k + 1 => ∃ t, mm nLi = some (.int (g.it k) t)
noncomputable def TopIn (I : Addr) (k : Nat) (h : Heap) : Prop := h.IsListIter I g.D k ∧ ∃ mm, h.Ns g.L mm ∧ mm nGr = some (.ref g.D) ∧ g.LastIs mm k
noncomputable def MidIn (I : Addr) : Nat → Heap → Prop
  | 0, _ => False
  | k + 1, h => h.IsListIter I g.D (k + 1) ∧ ∃ mm, h.Ns g.L mm ∧ mm nGr = some (.ref g.D) ∧ g.LastIs mm k ∧ ∃ t, mm nIv = some (.int (g.it k) t)
noncomputable def FixIn (I : Addr) (h : Heap) : Prop := (h.get? I).isSome = true ∧ ∃ mm, h.Ns g.L mm ∧ ∃ t, mm nLi = some (.int (g.it (g.m - 1)) t)
noncomputable def GIn (I : Addr) (k : Nat) (h : Heap) : Prop := if k ≤ g.m then g.MidIn I k h else g.FixIn I h
noncomputable def DIn (k : Nat) (h : Heap) : Prop := k ≤ g.m → ∃ items t, h.IsList g.D items ∧ items[k]? = some (.int (g.it k) t)
noncomputable def Rel (I : Addr) (s₀ s : Shared) : Prop := (∃ h tk, s = { s₀ with heap := h, toks := tk }) ∧ ∀ b o, b ≠ g.L → b ≠ I → s₀.heap.get? b = some o → s.heap.get? b = some o
noncomputable def Yp (I : Addr) : Protocol := fun n s₀ v s₁ kap => (∃ t, v = .int (g.yv (g.N - 1 - n)) t ∧ (g.N - 1 - n ≤ g.m → g.it (g.N - 1 - n) ≠ 127)) ∧ g.Rel I s₀ s₁ ∧ g.GIn I (g.N - n) s₁.heap ∧
  (0 < n → ∀ s'', g.Base s''.heap → g.GIn I (g.N - n) s''.heap → g.DIn (g.N - n) s''.heap → kap (.send .none) s'')
noncomputable def Pp (I : Addr) : Nat → Shared → Shared → Prop := fun n s₀ s₁ => g.it (g.N - n) = 127 ∧ g.N - n = g.m ∧ g.Rel I s₀ s₁
noncomputable def Rp (I : Addr) : GenEnd := fun n s₀ r s₁ => r = .ok (.ret .none) ∧ g.Pp I n s₀ s₁
end GCtx

structure FsOk (g : GCtx) (fs : List Frame) : Prop where
  a : splitAtGen fs = none
  b : fs.any Frame.guarded = false

theorem GCtx.Rel.refl (g : GCtx) (I : Addr) (s : Shared) : g.Rel I s s := ⟨⟨s.heap, s.toks, rfl⟩, fun _ _ _ _ e => e⟩
theorem GCtx.Rel.tr {g : GCtx} {I : Addr} {a b c : Shared} (x : g.Rel I a b) (y : g.Rel I b c) : g.Rel I a c := by
  obtain ⟨⟨h, t, rfl⟩, k⟩ := x
  obtain ⟨⟨h', t', rfl⟩, k'⟩ := y
  exact ⟨⟨h', t', rfl⟩, fun b o h1 h2 e => k' b o h1 h2 (k b o h1 h2 e)⟩
theorem GCtx.Rel.base {g : GCtx} (ok : GOk g) {I : Addr} (hI : g.hb.get? I = none) {a b : Shared} (x : g.Rel I a b) (h : g.Base a.heap) : g.Base b.heap := fun c o e =>
  x.2 c o (fun e' => by rw [e', ok.old] at e; cases e) (fun e' => by rw [e', hI] at e; cases e) (h c o e)
theorem GCtx.Rel.but {g : GCtx} {I : Addr} {s : Shared} {h : Heap} {tk : Nat} (x : Heap.SameBut g.L s.heap h) : g.Rel I s { s with heap := h, toks := tk } :=
  ⟨⟨h, tk, rfl⟩, fun b o h1 _ e => x.extBut b o h1 e⟩
theorem GCtx.Rel.butI {g : GCtx} {I : Addr} {s : Shared} {h : Heap} {tk : Nat} (x : Heap.SameBut I s.heap h) : g.Rel I s { s with heap := h, toks := tk } :=
  ⟨⟨h, tk, rfl⟩, fun b o _ h1 e => x.extBut b o h1 e⟩
theorem GCtx.Rel.tok {g : GCtx} {I : Addr} {s : Shared} {tk : Nat} : g.Rel I s { s with toks := tk } := ⟨⟨s.heap, tk, rfl⟩, fun _ _ _ _ e => e⟩

section
variable {g : GCtx}

theorem g_name (ok : GOk g) {A : Around} {s : Shared} {x : Str} {pos : Pos} {mm : Str → Option Value} {v : Value} {Q : Value → Shared → Prop} {E : Value → Shared → Prop} (hk : g.env.kindOf x = some .local) (hx : (x == ("__debug__" : Str)) = false)
    (hn : s.heap.Ns g.L mm) (hv : mm x = some v) (h : Q v s) : wpAny g.M A (eval (.Name x pos) g.env) Q E s :=
  wpAny_Name (wpAny_loadName_local ok.kind hk hn hv h) hx


theorem fix_yield (ok : GOk g) {I : Addr} (P : Nat → Pos) {fs : List Frame} (hfs : FsOk g fs) (hz : g.it g.m = 0) {n k : Nat} {s₀ s : Shared} (hk : k + (n + 1) = g.N) (hm : g.m ≤ k) (hF : g.FixIn I s.heap) (hr : g.Rel I s₀ s)
    (next : 0 < n → ∀ s'', g.Base s''.heap → g.FixIn I s''.heap → Seg g.M g.A (g.Rp I) (g.Yp I) n s'' (.whileLoop (.Constant (.bool true) 0 (P 18)) (gWbody P) [] g.env) (g.M.den (.whileLoop (.Constant (.bool true) 0 (P 18)) (gWbody P) [] g.env)) fs s'') :
    Seg g.M g.A (g.Rp I) (g.Yp I) (n + 1) s₀ (.whileLoop (.Constant (.bool true) 0 (P 18)) (gWbody P) [] g.env) (g.M.den (.whileLoop (.Constant (.bool true) 0 (P 18)) (gWbody P) [] g.env)) fs s := by
  refine seg_whileLoop (wpAny_bind (m := eval _ _) ?_)
  rw [eval_Constant]
  refine wpAny_pure (wpAny_bind (wpAny_standAt (wpAny_holding (wpAny_truthy_bool ?_))))
  rw [if_pos rfl]
  refine seg_execs_cons ?_
  have hF' := hF
  obtain ⟨hl, mm, hn, t, hv⟩ := hF
  refine seg_Expr_Yield hfs.a rfl hfs.b (g_name ok ok.k2 (by decide) hn hv fun kap hkap => ⟨⟨t, ?_, fun hle => ?_⟩, hr, ?_, fun h0 s'' hB hG hD => ?_⟩) ok.co (by simp [interactive, ok.kind])
  · rw [GCtx.yv, if_neg (by omega)]
  · rw [show g.N - 1 - n = g.m by omega, hz]; decide
  · rw [GCtx.GIn, if_neg (by omega)]; exact hF'
  · rw [GCtx.GIn, if_neg (by omega)] at hG
    exact hkap .none s'' (seg_execs_nil (seg_again rfl (next h0 s'' hB hG)))

/-- the loop that yields the last one for ever -/
theorem seg_fix (ok : GOk g) {I : Addr} (P : Nat → Pos) {fs : List Frame} (hfs : FsOk g fs) (hz : g.it g.m = 0) : ∀ (n k : Nat) (s₀ s : Shared), k + (n + 1) = g.N → g.m ≤ k → g.FixIn I s.heap → g.Rel I s₀ s →
    Seg g.M g.A (g.Rp I) (g.Yp I) (n + 1) s₀ (.whileLoop (.Constant (.bool true) 0 (P 18)) (gWbody P) [] g.env) (g.M.den (.whileLoop (.Constant (.bool true) 0 (P 18)) (gWbody P) [] g.env)) fs s := by
  intro n
  induction n with
  | zero => intro k s₀ s hk hm hF hr; exact fix_yield ok P hfs hz hk hm hF hr fun h => absurd h (Nat.lt_irrefl _)
  | succ n ih => intro k s₀ s hk hm hF hr; exact fix_yield ok P hfs hz hk hm hF hr fun _ s'' hB hG => ih (k + 1) s'' s'' (by omega) (by omega) hG (.refl ..)

/-- what the frames of the walk must tell -/
structure FsTop (g : GCtx) (I : Addr) (P : Nat → Pos) (r : List Stmt) (fs : List Frame) : Prop where
  fo : FsOk g fs
  ret : ∀ n s₀ s c, g.Rp I n s₀ (.ok (.ret .none)) s → Seg g.M g.A (g.Rp I) (g.Yp I) n s₀ c (leafOf (.ok (.ret .none))) fs s

theorem seg_turn (ok : GOk g) {I : Addr} (hI : g.hb.get? I = none) (hIL : I ≠ g.L) (hID : I ≠ g.D) (P : Nat → Pos) (r : List Stmt) {fs : List Frame} (hfs : FsTop g I P r fs) {n k : Nat} {s₀ s : Shared} (hk : k + (n + 1) = g.N) (hm : k ≤ g.m)
    (hT : g.TopIn I k s.heap) (hD : g.DIn k s.heap) (hB : g.Base s.heap) (hr : g.Rel I s₀ s)
    (next : 0 < n → k < g.m → ∀ s'' s₁, g.Base s₁.heap → g.TopIn I (k + 1) s₁.heap → g.DIn (k + 1) s₁.heap → g.Rel I s'' s₁ → Seg g.M g.A (g.Rp I) (g.Yp I) n s'' (.forLoop (.Name nIv (P 3)) (.ref I) (gLoop P r) [] g.env) (g.M.den (.forLoop (.Name nIv (P 3)) (.ref I) (gLoop P r) [] g.env)) fs s₁) :
    Seg g.M g.A (g.Rp I) (g.Yp I) (n + 1) s₀ (.forLoop (.Name nIv (P 3)) (.ref I) (gLoop P r) [] g.env) (g.M.den (.forLoop (.Name nIv (P 3)) (.ref I) (gLoop P r) [] g.env)) fs s := by
  obtain ⟨hit, mm, hn, hgr, hla⟩ := hT
  obtain ⟨items, t, hl, hx⟩ := hD hm
  refine seg_forLoop (fun _ => rfl) fun E => wpAny_pyNext_list_item hit hl hx fun h₁ hit₁ hs₁ => ?_
  have hn₁ : h₁.Ns g.L mm := hn.sameBut hs₁ (Ne.symm hIL)
  refine wpAny_assign_Name (wpAny_storeName_local ok.k3 hn₁ (fun h₂ hn₂ hs₂ => ?_) (by simp [ok.kind]))
  have hit₂ : h₂.IsListIter I g.D (k + 1) := hit₁.extBut hs₂.extBut hIL
  have hr₁ : g.Rel I s { s with heap := h₁ } := .butI hs₁
  have hr₂ : g.Rel I s { s with heap := h₂, toks := s.toks + 1 } := .tr hr₁ (.but (s := { s with heap := h₁ }) hs₂)
  have hB₂ : g.Base h₂ := hr₂.base ok hI hB
  obtain ⟨tc, hcm⟩ := ok.cm
  have hns : h₂.Ns g.env.globals g.W.mg := by rw [ok.gl]; exact g.W.ns _ (g.W.mono _ _ ok.hg hB₂)
  generalize hs2 : ({ s with heap := h₂, toks := s.toks + 1 } : Shared) = s₂ at hr₂
  have e2 : s₂.heap = h₂ := by rw [← hs2]
  rw [← e2] at hit₂ hn₂ hB₂ hns
  have hiv : (fun x => if x = nIv then some (Value.int (g.it k) t) else mm x) nIv = some (.int (g.it k) t) := if_pos rfl
  have hli : (fun x => if x = nIv then some (Value.int (g.it k) t) else mm x) nLi = mm nLi := if_neg (by decide)
  have hgr₂ : (fun x => if x = nIv then some (Value.int (g.it k) t) else mm x) nGr = some (.ref g.D) := (if_neg (by decide)).trans hgr
  generalize (fun x => if x = nIv then some (Value.int (g.it k) t) else mm x) = mm₂ at hn₂ hiv hli hgr₂
  have hla₂ : g.LastIs mm₂ k := by
    cases k with
    | zero => exact hli.trans hla
    | succ k => obtain ⟨u, hu⟩ := hla; exact ⟨u, hli.trans hu⟩
  refine seg_execs_cons (seg_If fun E => ?_)
  refine wpAny_isTrue_Compare1 (g_name ok ok.k3 (by decide) hn₂ hiv (Calls.Name_function_global ok.kind ok.k4 (Calls.loadGlobal_global hns hcm ?_) (by decide)))
  refine PyProof.Rows.eq_int (wpAny_truthy_bool ?_)
  by_cases h127 : g.it k = 127
  · rw [if_pos (by simp [h127])]
    refine seg_stmt fun E => wpAny_Return_none ?_
    have hkm : k = g.m := by
      by_cases h : k < g.m
      · exact absurd h127 (ok.it0 k h).2
      · omega
    refine hfs.ret (n + 1) s₀ s₂ _ ⟨rfl, ?_, ?_, hr.tr hr₂⟩
    · rw [show g.N - (n + 1) = k by omega]; exact h127
    · omega
  · rw [if_neg (by simp [h127])]
    refine seg_execs_nil (seg_execs_cons (seg_If fun E => ?_))
    refine wpAny_isTrue_Compare1 (g_name ok ok.k3 (by decide) hn₂ hiv (wpAny_Constant_int ?_))
    refine PyProof.Rows.eq_int (wpAny_truthy_bool ?_)
    have hr₃ : g.Rel I s { s₂ with toks := s₂.toks + 1 } := hr₂.tr .tok
    by_cases h0 : g.it k = 0
    · rw [if_pos (by simp [h0])]
      have hkm : k = g.m := by
        by_cases h : k < g.m
        · exact absurd h0 (ok.it0 k h).1
        · omega
      have hmp := ok.mpos (hkm ▸ h0)
      obtain ⟨j, rfl⟩ : ∃ j, k = j + 1 := ⟨k - 1, by omega⟩
      obtain ⟨u, hu⟩ := hla₂
      refine seg_execs_cons (seg_If fun E => ?_)
      refine wpAny_isTrue_Compare1 (g_name ok ok.k2 (by decide) hn₂ hu ?_)
      rw [eval_Constant]
      refine wpAny_pure (is_none_ne (by simp) (wpAny_truthy_bool ?_))
      rw [if_neg (by simp)]
      refine seg_execs_nil (seg_execs_cons (seg_While fun p => ?_))
      refine seg_fix ok P ⟨?_, ?_⟩ (hkm ▸ h0) n (j + 1) s₀ _ hk (by omega) ⟨?_, mm₂, hn₂, u, ?_⟩ (hr.tr hr₃)
      · simp [splitAtGen, hfs.fo.a]
      · simp [Frame.guarded, hfs.fo.b]
      · obtain ⟨o, ho, _⟩ := hit₂
        show (s₂.heap.get? I).isSome = true
        rw [ho]; rfl
      · rw [show g.m - 1 = j by omega]; exact hu
    · rw [if_neg (by simp [h0])]
      have hlt : k < g.m := by
        by_cases h : k < g.m
        · exact h
        · have : k = g.m := by omega
          subst this
          rcases ok.itm with h | h
          · exact absurd h h0
          · exact absurd h h127
      refine seg_execs_nil (seg_execs_cons ?_)
      refine seg_Expr_Yield hfs.fo.a rfl hfs.fo.b (g_name ok ok.k3 (by decide) hn₂ hiv fun kap hkap => ⟨⟨t, ?_, fun _ => ?_⟩, hr.tr hr₃, ?_, fun hn0 s'' hB'' hG hD'' => ?_⟩) ok.co (by simp [interactive, ok.kind])
      · rw [GCtx.yv, if_pos (by omega), show g.N - 1 - n = k by omega]
      · rw [show g.N - 1 - n = k by omega]; exact h127
      · rw [show g.N - n = k + 1 by omega, GCtx.GIn, if_pos (by omega)]
        exact ⟨hit₂, mm₂, hn₂, hgr₂, hla₂, t, hiv⟩
      · rw [show g.N - n = k + 1 by omega] at hG hD''
        rw [GCtx.GIn, if_pos (by omega)] at hG
        obtain ⟨hit₃, m₃, hn₃, hgr₃, hla₃, t₃, hiv₃⟩ := hG
        refine hkap .none s'' (seg_stmt fun E => wpAny_Assign_Name (g_name ok ok.k3 (by decide) hn₃ hiv₃ (wpAny_storeName_local ok.k2 hn₃ (fun h₄ hn₄ hs₄ => ?_) (by simp [ok.kind]))))
        have hr₄ : g.Rel I s'' { s'' with heap := h₄, toks := s''.toks + 1 } := .but hs₄
        refine seg_execs_nil (seg_again rfl (next hn0 hlt s'' _ (hr₄.base ok hI hB'') ⟨hit₃.extBut hs₄.extBut hIL, _, hn₄, (if_neg (by decide)).trans hgr₃, t₃, if_pos rfl⟩ (fun hle => ?_) hr₄))
        obtain ⟨its, t', hl', hx'⟩ := hD'' hle
        exact ⟨its, t', hl'.extBut hs₄.extBut ok.DL, hx'⟩

theorem seg_top (ok : GOk g) {I : Addr} (hI : g.hb.get? I = none) (hIL : I ≠ g.L) (hID : I ≠ g.D) (P : Nat → Pos) (r : List Stmt) {fs : List Frame} (hfs : FsTop g I P r fs) : ∀ (n k : Nat) (s₀ s : Shared), k + (n + 1) = g.N → k ≤ g.m →
    g.TopIn I k s.heap → g.DIn k s.heap → g.Base s.heap → g.Rel I s₀ s → Seg g.M g.A (g.Rp I) (g.Yp I) (n + 1) s₀ (.forLoop (.Name nIv (P 3)) (.ref I) (gLoop P r) [] g.env) (g.M.den (.forLoop (.Name nIv (P 3)) (.ref I) (gLoop P r) [] g.env)) fs s := by
  intro n
  induction n with
  | zero => intro k s₀ s hk hm hT hD hB hr; exact seg_turn ok hI hIL hID P r hfs hk hm hT hD hB hr fun h => absurd h (Nat.lt_irrefl _)
  | succ n ih =>
    intro k s₀ s hk hm hT hD hB hr
    refine seg_turn ok hI hIL hID P r hfs hk hm hT hD hB hr fun _ hlt s'' s₁ hB' hT' hD' hr' => ih (k + 1) s'' s₁ (by omega) hlt hT' hD' hB' hr'
end
end Mine
end partG2

section partG3
open PySem PySem.W PyProof.Rows
set_option maxRecDepth 100000
set_option linter.unusedVariables false
namespace Mine

theorem seg_fresh {g : GCtx} (ok : GOk g) (P : Nat → Pos) (r : List Stmt) {n : Nat} {s : Shared} {mm : Str → Option Value} (hk : n + 1 = g.N) (hn : s.heap.Ns g.L mm) (hgr : mm nGr = some (.ref g.D)) (hD : g.DIn 0 s.heap) (hB : g.Base s.heap) (hDl : (s.heap.get? g.D).isSome = true) :
    Seg g.M g.A (g.Rp s.heap.objs.size) (g.Yp s.heap.objs.size) (n + 1) s (.func (gBody P r) g.env) (g.M.den (.func (gBody P r) g.env)) [] s := by
  have hL : g.L < s.heap.objs.size := hn.lt
  have hDlt : g.D < s.heap.objs.size := by obtain ⟨o, ho⟩ := Option.isSome_iff_exists.mp hDl; exact Heap.lt_size ho
  have hI : g.hb.get? s.heap.objs.size = none := by
    cases e : g.hb.get? s.heap.objs.size with
    | none => rfl
    | some o => exact absurd (Heap.lt_size (hB _ _ e)) (Nat.lt_irrefl _)
  refine seg_func ?_
  refine seg_stmt fun E => wpAny_Assign_Name ?_
  rw [eval_Constant]
  refine wpAny_pure (wpAny_storeName_local ok.k2 hn (fun h₁ hn₁ hs₁ => ?_) (by simp [ok.kind]))
  have hsz : h₁.objs.size = s.heap.objs.size := hs₁.1
  have hr₁ : g.Rel s.heap.objs.size s { s with heap := h₁, toks := s.toks + 1 } := .but hs₁
  obtain ⟨items, t, hl, hx⟩ := hD (Nat.zero_le _)
  have hl₁ : h₁.IsList g.D items := hl.extBut hs₁.extBut ok.DL
  refine seg_execs_cons (seg_For (fun _ => rfl) fun E => ?_)
  refine g_name ok ok.k1 (by decide) hn₁ ((if_neg (by decide)).trans hgr) ?_
  refine wpAny_pyIter_list hl₁ fun p => ?_
  rw [show ({ s with heap := h₁, toks := s.toks + 1 } : Shared).heap.objs.size = s.heap.objs.size from hsz]
  have hit : (h₁.push { cls := .type "list_iterator", data := .fields #[.ref g.D, .int 0 0] }).IsListIter s.heap.objs.size g.D 0 := ⟨_, by rw [← hsz]; exact Heap.get?_push_size _ rfl, rfl, rfl⟩
  have hr₂ : g.Rel s.heap.objs.size s { s with heap := h₁.push { cls := .type "list_iterator", data := .fields #[.ref g.D, .int 0 0] }, toks := s.toks + 1 } :=
    hr₁.tr ⟨⟨_, _, rfl⟩, fun b o _ _ e => Heap.get?_push_of_some _ e⟩
  refine seg_top ok hI (Nat.ne_of_gt hL) (Nat.ne_of_gt hDlt) P r ⟨⟨?_, ?_⟩, ?_⟩ n 0 s _ (by omega) (Nat.zero_le _) ⟨hit, _, hn₁.push _, (if_neg (by decide)).trans hgr, if_pos rfl⟩ (fun _ => ⟨items, t, hl₁.push _, hx⟩) (hr₂.base ok hI hB) hr₂
  · rfl
  · rfl
  · intro n s₀ s c hR
    exact seg_leaf _ (seg_end _ hR)

section
variable {prog : Program} {w : World} {A : Around} {E : Value → Shared → Prop} {s : Shared}

theorem pyNext_genQ {a : Addr} {g n : Nat} {gs : GenState} {P : Nat → Shared → Shared → Prop} {Y : Protocol} {Q : Option Value → Shared → Prop} (hh : A.handled = none)
    (hl : s.heap.NoLimit) (hroom : A.depth < recursionLimit)
    (hg : s.heap.IsGen a g) (hgs : s.gens[g]? = some gs)
    (hgo : gs.Goes (model prog w) A.in1 (fun n s₀ r s₁ => r = .ok (.ret .none) ∧ P n s₀ s₁) Y n (.send .none) (s.setGen g .running))
    (hY : ∀ v s₁ gs', gs'.bare = true → Y (n - 1) (s.setGen g .running) v s₁ (fun r' s'' => match n with
        | 0 => False
        | m + 1 => gs'.Goes (model prog w) A.in1 (fun n s₀ r s₁ => r = .ok (.ret .none) ∧ P n s₀ s₁) Y m r' s'') → Q (some v) (s₁.setGen g gs'))
    (hP : ∀ s₁, P n (s.setGen g .running) s₁ → ∀ h', (∀ b o, s₁.heap.get? b = some o → h'.get? b = some o) → Q none { s₁.setGen g .finished with heap := h' }) :
    wpAny (model prog w) A (pyNext (.ref a)) Q E s := by
  unfold pyNext
  refine wpAny_bind (wpAny_attempt (wpAny_callSpecial?_slot (name := Str.ofString "__next__") hg.typeIs slot_gen_next
    (wpAny_call_entry slot_gen_next hg.typeIs entry_gen_next ?_ (args_gen_next _))))
  show wpAny _ A.in1 (Builtin.Generator.genWake (.ref a) (.send .none)) _ _ s
  unfold Builtin.Generator.genWake
  refine wpAny_bind (wpAny_holding (wpAny_genNumber hg (wpAny_bind (wpAny_genState hgs ?_))))
  cases gs with
  | running => exact hgo.elim
  | finished => exact hgo.elim
  | _ =>
    refine wpAny_bind (wpAny_roomToWake hl hroom ?_)
    show wpAny _ A.in1 (.resume g (.send .none) [] _) _ _ s
    refine wpAny_resumeQ hgs hgo (fun x s₁ hx => ?_) (fun v s₁ gs' hb hv => ?_)
    · obtain ⟨rfl, hp⟩ := hx
      show wpAny _ A.in1 (newExc (.type "StopIteration") [] >>= _) _ _ _
      refine wpAny_bind ?_
      simp only [newExc, newTuple]
      refine wpAny_bind (wpAny_newObj_type ?_ (by size_fits))
      refine wpAny_bind (m := firstArgMember _ _) (wpAny_of_eq (a := Value.none) (by first | rfl | (simp only [firstArgMember]; rfl)) ?_)
      refine wpAny_newObj_type ?_ (by size_fits)
      simp only [raiseNew]
      refine wpAny_bind (wpAny_bind (wpAny_handled ?_))
      first | rw [show A.in1.handled = none from hh] | rw [hh]
      refine wpAny_throw ?_
      refine wpAny_bind (wpAny_isInstance (T := "StopIteration") (b := true) ⟨_, Heap.get?_push_size _ rfl, rfl⟩ isSubtype_stop ?_)
      exact wpAny_pure (hP s₁ hp _ fun b o hb => Heap.get?_push_of_some _ (Heap.get?_push_of_some _ hb))
    · exact wpAny_pure ⟨v, rfl, wpAny_pure (hY v s₁ gs' hb hv)⟩
end

/-- the arrays of generators, but for one -/
structure GenTo (a b : Array GenState) (i : Nat) (gs : GenState) : Prop where
  at' : b[i]? = some gs
  size : b.size = a.size
  other : ∀ j, j ≠ i → b[j]? = a[j]?

theorem genTo_set {s : Shared} {i : Nat} {x y gs : GenState} (h : s.gens[i]? = some x) : GenTo s.gens ((s.gens.setIfInBounds i y).setIfInBounds i gs) i gs := by
  have hi : i < s.gens.size := by
    apply Classical.byContradiction
    intro h'
    rw [Array.getElem?_eq_none (by omega)] at h; cases h
  refine ⟨?_, by simp, fun j hj => ?_⟩
  · simp [Array.getElem?_setIfInBounds, hi]
  · simp [Array.getElem?_setIfInBounds, Ne.symm hj]

theorem GenTo.bare {a b : Array GenState} {i : Nat} {gs : GenState} (x : GenTo a b i gs) (hg : gs.bare = true) (h : AllBare a) : AllBare b := fun y hy => by
  obtain ⟨j, hj, rfl⟩ := Array.mem_iff_getElem.mp hy
  by_cases e : j = i
  · subst e
    have := x.at'
    rw [Array.getElem?_eq_getElem hj] at this
    cases this; exact hg
  · have := x.other j e
    rw [Array.getElem?_eq_getElem hj] at this
    obtain ⟨hj', e'⟩ := Array.getElem?_eq_some_iff.mp this.symm
    exact e' ▸ h _ (Array.getElem_mem hj')

namespace GCtx
variable (g : GCtx)
/-- the generator's state before its next turn -/
noncomputable def GSt (P : Nat → Pos) (r : List Stmt) (I : Addr) (k : Nat) (gs : GenState) : Prop :=
  gs.bare = true ∧ ((k = 0 ∧ gs = .fresh (.func (gBody P r) g.env)) ∨ (0 < k ∧ (k < g.N → ∀ s'', g.Base s''.heap → g.GIn I k s''.heap → g.DIn k s''.heap → gs.Goes g.M g.A (g.Rp I) (g.Yp I) (g.N - k) (.send .none) s'')))
/-- its objects -/
noncomputable def GHeap (I : Addr) (k : Nat) (h : Heap) : Prop := if k = 0 then ∃ mm, h.Ns g.L mm ∧ mm nGr = some (.ref g.D) else g.GIn I k h ∧ g.hb.get? I = none ∧ I ≠ g.L ∧ I ≠ g.D
end GCtx

theorem gen_next {g : GCtx} (ok : GOk g) {P : Nat → Pos} {r : List Stmt} {A : Around} (hA : g.A = A.in1) (hroom : A.depth < recursionLimit) {I G : Addr} {i k : Nat} {gs : GenState} {s : Shared} {Q : Option Value → Shared → Prop} {E : Value → Shared → Prop}
    (hG : s.heap.IsGen G i) (hgs : s.gens[i]? = some gs) (hst : g.GSt P r I k gs) (hh : g.GHeap I k s.heap) (hD : g.DIn k s.heap) (hDl : (s.heap.get? g.D).isSome = true) (hB : g.Base s.heap) (hkN : k < g.N)
    (hQ : ∀ t I' h tk gens gs', (k ≤ g.m → g.it k ≠ 127) → GenTo s.gens gens i gs' → gs'.bare = true → (k ≠ 0 → I' = I) → (k = 0 → s.heap.get? I' = none) → (∀ b o, b ≠ g.L → b ≠ I' → s.heap.get? b = some o → h.get? b = some o) →
      g.GSt P r I' (k + 1) gs' → g.GHeap I' (k + 1) h → Q (some (.int (g.yv k) t)) { s with heap := h, toks := tk, gens := gens })
    (hE : k = g.m → g.it k = 127 → ∀ I' h tk gens, GenTo s.gens gens i .finished → (k ≠ 0 → I' = I) → (k = 0 → s.heap.get? I' = none) → (∀ b o, b ≠ g.L → b ≠ I' → s.heap.get? b = some o → h.get? b = some o) → Q none { s with heap := h, toks := tk, gens := gens }) :
    wpAny g.M A (pyNext (.ref G)) Q E s := by
  have hnl : s.heap.NoLimit := g.W.nl _ (g.W.mono _ _ ok.hg hB)
  have hhd : A.handled = none := by have := ok.hd; rw [hA] at this; exact this
  have live : ∀ I k h, g.GIn I k h → k ≠ 0 → (h.get? I).isSome = true := fun I k h x h0 => by
    unfold GCtx.GIn at x
    split at x
    · cases k with
      | zero => exact absurd rfl h0
      | succ k => obtain ⟨⟨o, ho, _⟩, _⟩ := x; rw [ho]; rfl
    · exact x.1
  obtain ⟨n, hn⟩ : ∃ n, g.N = k + (n + 1) := ⟨g.N - k - 1, by omega⟩
  -- the state before, told by I
  have main : ∃ I', (k ≠ 0 → I' = I) ∧ (k = 0 → s.heap.get? I' = none) ∧ g.hb.get? I' = none ∧ I' ≠ g.L ∧ I' ≠ g.D ∧ gs.Goes g.M g.A (g.Rp I') (g.Yp I') (n + 1) (.send .none) (s.setGen i .running) := by
    unfold GCtx.GHeap at hh
    by_cases h0 : k = 0
    · subst h0
      rw [if_pos rfl] at hh
      obtain ⟨mm, hns, hgr⟩ := hh
      rcases hst.2 with ⟨_, rfl⟩ | ⟨h, _⟩
      · have hL : g.L < s.heap.objs.size := hns.lt
        have hDlt : g.D < s.heap.objs.size := by obtain ⟨o, ho⟩ := Option.isSome_iff_exists.mp hDl; exact Heap.lt_size ho
        have hnone : s.heap.get? s.heap.objs.size = none := by
          cases e : s.heap.get? s.heap.objs.size with
          | none => rfl
          | some o => exact absurd (Heap.lt_size e) (Nat.lt_irrefl _)
        refine ⟨s.heap.objs.size, fun h => absurd rfl h, fun _ => hnone, ?_, Nat.ne_of_gt hL, Nat.ne_of_gt hDlt, rfl, ?_⟩
        · cases e : g.hb.get? s.heap.objs.size with
          | none => rfl
          | some o => rw [hB _ _ e] at hnone; cases hnone
        · exact seg_fresh ok P r (s := s.setGen i .running) (by omega) hns hgr hD hB hDl
      · exact absurd h (Nat.lt_irrefl _)
    · rw [if_neg h0] at hh
      rcases hst.2 with ⟨h, _⟩ | ⟨_, h⟩
      · exact absurd h h0
      · refine ⟨I, fun _ => rfl, fun h => absurd h h0, hh.2.1, hh.2.2.1, hh.2.2.2, ?_⟩
        have := h hkN (s.setGen i .running) hB hh.1 hD
        rwa [show g.N - k = n + 1 by omega] at this
  obtain ⟨I', i1, i2, i3, i4, i5, hgo⟩ := main
  rw [hA] at hgo
  refine pyNext_genQ (P := g.Pp I') (Y := g.Yp I') hhd hnl hroom hG hgs hgo (fun v s₁ gs' hb hv => ?_) (fun s₁ hp h' hk => ?_)
  · obtain ⟨⟨t, rfl, hn127⟩, ⟨⟨h, tk, rfl⟩, hkeep⟩, hGI, hnext⟩ := hv
    rw [show g.N - 1 - (n + 1 - 1) = k by omega] at hn127 ⊢
    rw [show g.N - (n + 1 - 1) = k + 1 by omega] at hGI hnext
    refine hQ t I' h tk _ gs' hn127 (genTo_set hgs) hb i1 i2 hkeep ⟨hb, .inr ⟨Nat.succ_pos _, fun hlt s'' hB'' hG'' hD'' => ?_⟩⟩ ?_
    · have := hnext (by omega) s'' hB'' hG'' hD''
      rw [hA, show g.N - (k + 1) = n by omega]
      exact this
    · unfold GCtx.GHeap
      rw [if_neg (by omega)]
      exact ⟨hGI, i3, i4, i5⟩
  · obtain ⟨h127, hm, ⟨h, tk, rfl⟩, hkeep⟩ := hp
    rw [show g.N - (n + 1) = k by omega] at h127 hm
    exact hE hm h127 I' h' tk _ (genTo_set hgs) i1 i2 fun b o h1 h2 e => hk b o (hkeep b o h1 h2 e)
end Mine
end partG3

section partG4
open PySem PySem.W PyProof.Rows
set_option maxRecDepth 100000
set_option linter.unusedVariables false
namespace Mine

/-- the same frame, the generators changed -/
noncomputable def Fc.at (c : Fc) (gs : Array GenState) : Fc := { c with s₀ := { c.s₀ with gens := gs } }
theorem Fc.Fr.at {c : Fc} (h : c.Fr) (gs : Array GenState) : (c.at gs).Fr := ⟨h.fr, h.apart, h.above, h.fresh⟩
theorem Fc.Ok.at {W : Wd} {c : Fc} (h : c.Ok W) (gs : Array GenState) : (c.at gs).Ok W := ⟨h.fn, h.nm, h.gm, h.nd, h.db, h.gg, h.gb, h.hd, h.g0, h.x0, h.rm⟩
theorem Fc.at_at (c : Fc) (a b : Array GenState) : (c.at a).at b = c.at b := rfl

/-- some of the kept objects change, some are new -/
theorem St.moveK {W : Wd} {c : Fc} {X : Addr → Prop} {a : AS} {s : Shared} (x : St W c X a s) (hfr : c.fr = true) (Z N : List Addr) {h' : Heap} {tk : Nat} {gs : Array GenState}
    (hZ : ∀ b ∈ Z, b ∈ a.K.map (·.1)) (hN : ∀ b ∈ N, s.heap.get? b = none) (hs : ∀ b o, b ∉ Z → s.heap.get? b = some o → h'.get? b = some o) (hl : ∀ b, b ∈ Z ∨ b ∈ N → (h'.get? b).isSome = true)
    (K' : List (Addr × Obj)) (hK : ∀ q ∈ K', (q.1 ∈ a.K.map (·.1) ∨ q.1 ∈ N) ∧ h'.get? q.1 = some q.2) :
    St W (c.at gs) (fun b => X b ∨ b ∈ N) { a with K := K' } { s with heap := h', toks := tk, gens := gs } := by
  obtain ⟨m, cm, hn, hc, hv⟩ := x.vars.ex
  obtain ⟨h, t, he⟩ := x.same
  have zk : ∀ b ∈ Z, (Mine' c X b ∧ b ∉ a.σ.map (·.1)) := fun b hb => by
    obtain ⟨q, hq, e⟩ := List.mem_map.mp (hZ b hb)
    exact e ▸ (x.kk q hq).1
  have newc : ∀ b ∈ N, c.s₀.heap.get? b = none := fun b hb => by
    cases e : c.s₀.heap.get? b with
    | none => rfl
    | some o => have := x.keep _ _ e; rw [hN b hb] at this; cases this
  have mine : ∀ b, Mine' c X b → Mine' (c.at gs) (fun b => X b ∨ b ∈ N) b := fun b hb => ⟨.inl hb.x, hb.l, hb.cl, hb.new⟩
  have mineN : ∀ b ∈ N, Mine' (c.at gs) (fun b => X b ∨ b ∈ N) b := fun b hb => ⟨.inr hb, (fun e => by
      obtain ⟨o', _, _, e', _⟩ := hn
      rw [show b = c.env.locals from e] at hb
      rw [hN _ hb] at e'; cases e'), (fun n d e he => by
      obtain ⟨o', e', _⟩ := hc n d e
      rw [he] at hb
      rw [hN _ hb] at e'; cases e'), fun _ => newc b hb⟩
  have lN : c.env.locals ∉ Z := fun hb => (zk _ hb).1.l rfl
  have rep : ∀ {p v}, Rep s.heap X p v → Rep h' (fun b => X b ∨ b ∈ N) p v := fun r => r.mono (fun b o hx e => hs b o (fun hb => hx (zk b hb).1.x) e) fun b z hz => by
    rcases z with z | z
    · exact z
    · rw [hN b z] at hz; cases hz
  have repL : ∀ {p v}, RepL s.heap X p v → RepL h' (fun b => X b ∨ b ∈ N) p v := fun r => r.mono (fun b o hx e => hs b o (fun hb => hx (zk b hb).1.x) e) fun b z hz => by
    rcases z with z | z
    · exact z
    · rw [hN b z] at hz; cases hz
  refine ⟨x.ok.at gs, ⟨h', tk, by rw [he]; rfl⟩, fun b o e => hs b o (fun hb => ?_) (x.keep b o e), ⟨m, cm, hn.at' (fun o e => hs _ _ lN e), fun n d e => ?_, fun y p hy => ?_⟩, .inl x.xl, fun n d e => .inl (x.xc n d e), fun b z => .inl (x.x0 b z), fun q hq => ?_, x.ownd, fun q hq => ?_, fun b z => ?_⟩
  · have := (zk b hb).1.new hfr
    rw [show c.s₀.heap.get? b = some o from e] at this; cases this
  · obtain ⟨o, e1, e2⟩ := hc n d e
    exact ⟨o, hs _ _ (fun hb => (zk _ hb).1.cl n d e rfl) e1, e2⟩
  · obtain ⟨v, h1, h2, h3⟩ := hv y p hy
    exact ⟨v, h1, h2, rep h3⟩
  · obtain ⟨h1, xs, ⟨o, n, ho, r⟩, hl⟩ := x.own q hq
    refine ⟨mine _ h1, xs, ⟨o, n, hs _ _ (fun hb => (zk _ hb).2 (List.mem_map.mpr ⟨q, hq, rfl⟩)) ho, r⟩, repL hl⟩
  · obtain ⟨h1, h2⟩ := hK q hq
    refine ⟨?_, h2⟩
    rcases h1 with h1 | h1
    · obtain ⟨q', hq', e⟩ := List.mem_map.mp h1
      exact e ▸ ⟨mine _ (x.kk q' hq').1.1, (x.kk q' hq').1.2⟩
    · refine ⟨mineN _ h1, fun hm => ?_⟩
      obtain ⟨q', hq', e⟩ := List.mem_map.mp hm
      obtain ⟨_, _, ⟨o, _, e', _⟩, _⟩ := x.own q' hq'
      rw [e, hN _ h1] at e'; cases e'
  · rcases z with z | z
    · by_cases hb : b ∈ Z
      · exact hl b (.inl hb)
      · obtain ⟨o, ho⟩ := Option.isSome_iff_exists.mp (x.xd b z)
        show (h'.get? b).isSome = true
        rw [hs b o hb ho]; rfl
    · exact hl b (.inr z)

/-- the generators alone change -/
theorem St.gens {W : Wd} {c : Fc} {X : Addr → Prop} {a : AS} {s : Shared} (x : St W c X a s) (gs : Array GenState) : St W (c.at gs) X a { s with gens := gs } := by
  obtain ⟨h, t, he⟩ := x.same
  exact ⟨x.ok.at gs, ⟨h, t, by rw [he]; rfl⟩, x.keep, ⟨x.vars.ex⟩, x.xl, x.xc, x.x0, fun q hq => ⟨⟨(x.own q hq).1.x, (x.own q hq).1.l, (x.own q hq).1.cl, (x.own q hq).1.new⟩, (x.own q hq).2⟩, x.ownd, fun q hq => ⟨⟨⟨(x.kk q hq).1.1.x, (x.kk q hq).1.1.l, (x.kk q hq).1.1.cl, (x.kk q hq).1.1.new⟩, (x.kk q hq).1.2⟩, (x.kk q hq).2⟩, x.xd⟩
end Mine
end partG4

section partG5
open PySem PySem.W PyProof.Rows
open PySem.Calls (docDef)
set_option maxRecDepth 100000
set_option linter.unusedVariables false
namespace Mine

noncomputable abbrev nGi : Str := Str.ofString "_grouping_intervals"

structure GenScope (sc : Scope) : Prop where
  kind : sc.kind = .function
  gen : sc.isGenerator = true
  co : sc.isCoroutine = false
  k1 : sc.names.lookup nGr = some .local
  k2 : sc.names.lookup nLi = some .local
  k3 : sc.names.lookup nIv = some .local
  k4 : sc.names.lookup nCm = some .globalImplicit
  nc : ∀ x ∈ sc.names, x.2 ≠ .cell

/-- the generator's function, as the text has it -/
structure GFun (W : Wd) (P : Nat → Pos) (r : List Stmt) : Prop where
  ex : ∃ params scope, HasDef W nGi params (gBody P r) scope ∧ GenScope scope ∧ ∀ pm cd doc v, bindArgs (docDef nGi params (gBody P r) scope pm cd doc) ⟨[v], []⟩ = pure [(nGr, v)]
  cm : ∃ t, W.mg nCm = some (.int 127 t)

/-- an environment of the generator's -/
structure GEnv (env : Env) (L : Addr) : Prop where
  sc : GenScope env.scope
  lo : env.locals = L
  gl : env.globals = mainGlobals

structure GNew (W : Wd) (P : Nat → Pos) (r : List Stmt) (D : Addr) (s s' : Shared) (env : Env) (L G : Addr) : Prop where
  ev : GEnv env L
  ex : ∃ h tk, s' = { s with heap := h, toks := tk, gens := s.gens.push (.fresh (.func (gBody P r) env)) }
  ns : ∃ mm, s'.heap.Ns L mm ∧ mm nGr = some (.ref D)
  gen : s'.heap.IsGen G s.gens.size
  keep : ∀ b o, s.heap.get? b = some o → s'.heap.get? b = some o
  nL : s.heap.get? L = none
  nG : s.heap.get? G = none

theorem at_size_none {h : Heap} {a : Addr} (ha : h.objs.size ≤ a) : h.get? a = none := by
  cases e : h.get? a with
  | none => rfl
  | some o => exact absurd (Heap.lt_size e) (Nat.not_lt.mpr ha)

theorem gen_call {W : Wd} {P : Nat → Pos} {r : List Stmt} (hd : GFun W P r) : ∃ f, W.mg nGi = some (.ref f) ∧ (∀ h, W.g h → ∃ o fd, h.get? f = some o ∧ o.data = .func fd) ∧
    ∀ {A : Around} {s : Shared} {D : Addr} {Q : Value → Shared → Prop} {E : Value → Shared → Prop}, W.g s.heap → A.depth < recursionLimit → (∀ env L G s', GNew W P r D s s' env L G → Q (.ref G) s') → wpAny W.M A (PySem.call (.ref f) [.ref D]) Q E s := by
  obtain ⟨params, scope, ⟨f, hmg, hf⟩, sc, hb⟩ := hd.ex
  refine ⟨f, hmg, fun h hg => ?_, fun {A s D Q E} hg hroom hQ => ?_⟩
  · obtain ⟨o, pm, cd, doc, ho, hdt, _⟩ := hf h hg
    exact ⟨o, _, ho, hdt⟩
  obtain ⟨o, pm, cd, doc, ho, hdt, hcd⟩ := hf s.heap hg
  refine wpAny_call (codeAny_call_generator (body := gBody P r) hroom ho hdt sc.co sc.gen rfl hcd ?_)
  rw [hb]
  refine wpAny_pure (wpAny_newFunctionEnv sc.nc (fun x hx => by rw [List.mem_singleton.mp hx]; exact sc.k1) (fun h' hn hs => ?_) sc.kind)
  have keep : ∀ b o, s.heap.get? b = some o → h'.get? b = some o := fun b o e => hs.extBut b o (Nat.ne_of_lt (Heap.lt_size e)) (Heap.get?_push_of_some _ e)
  have hsz : h'.objs.size = s.heap.objs.size + 1 := by rw [hs.1, Heap.size_push]
  refine ⟨(W.nl _ (W.mono _ _ hg keep)), hQ _ s.heap.objs.size h'.objs.size _ ⟨⟨sc, rfl, rfl⟩, ⟨_, _, rfl⟩, ⟨_, hn.push _, rfl⟩, ⟨_, _, _, Heap.get?_push_size _ rfl, rfl, rfl, rfl⟩, fun b o e => Heap.get?_push_of_some _ (keep b o e), at_size_none (Nat.le_refl _), at_size_none (by omega)⟩⟩
end Mine
end partG5

section partG6
open PySem PySem.W PyProof.Rows
set_option maxRecDepth 100000
set_option linter.unusedVariables false
namespace Mine

theorem entry_next : entryFor table "next" = some Builtin.«next» := entryFor_of_fast (by kernel_rfl)
theorem plain_next : plainId "next" = true := by decide +kernel
theorem kind_next : builtinKind "next" = none := by decide +kernel
theorem args_next (a b : Value) : argsOk "next" ⟨[a, b], []⟩ := by
  unfold argsOk; first | rfl | decide +kernel | kernel_rfl

theorem call_next2 {W : Wd} {A : Around} {s : Shared} {G : Addr} {d : Value} {Q : Value → Shared → Prop} {E : Value → Shared → Prop} (hT : s.TypeIs (.ref G) "generator")
    (h : wpAny W.M A.in1 (pyNext (.ref G)) (fun o s' => Q (o.getD d) s') E s) : wpAny W.M A (call (.builtin "next") [.ref G, d]) Q E s := by
  refine wpAny_call (codeAny_call_builtin plain_next entry_next ?_)
  have key : wpAny W.M A.in1 (Builtin.«next» ⟨[.ref G, d], []⟩) (fun fin s' => match fin with | .done f => (match Except.ok f with | .ok (.ret v) => Q v s' | .ok _ => False | .error e => E e s') | .again c' => c'.quiet = true ∧ codeAny W.M A c' (fun r s' => match r with | .ok (.ret v) => Q v s' | .ok _ => False | .error e => E e s') s') E s := by
    unfold Builtin.«next»
    refine wpAny_bind (wpAny_of_eq (a := [Value.ref G, d]) (by rfl) ?_)
    refine wpAny_bind (wpAny_specialOf (T := "generator") hT slot_gen_next.lookup ?_)
    rw [if_neg (by simp)]
    dsimp only
    exact wpAny_bind (wpAny_mono h (fun o s' h' => wpAny_pure h') fun _ _ e => e)
  have ok := args_next (.ref G) d
  simp only [checkBuiltinCall, kind_next]
  cases hsig : Manifest.signature? "next" with
  | none => exact wpAny_pure key
  | some sig =>
    simp only [argsOk, hsig] at ok
    have h2 : Bind.checkArgs "next" sig ⟨[.ref G, d], []⟩ = pure () := ok
    show wpAny _ _ (Bind.checkArgs "next" sig ⟨[.ref G, d], []⟩) _ _ s
    rw [h2]; exact wpAny_pure key

noncomputable def GPre (a b : Array GenState) : Prop := (AllBare a → AllBare b) ∧ ∀ (j : Nat) (gs : GenState), a[j]? = some gs → b[j]? = some gs
theorem GPre.refl (a : Array GenState) : GPre a a := ⟨id, fun _ _ e => e⟩
theorem GPre.tr {a b c : Array GenState} (x : GPre a b) (y : GPre b c) : GPre a c := ⟨fun h => y.1 (x.1 h), fun j gs e => y.2 j gs (x.2 j gs e)⟩
theorem GPre.push {a : Array GenState} {gs : GenState} (h : gs.bare = true) : GPre a (a.push gs) := ⟨fun x => x.push h, fun j g e => by
  obtain ⟨hj, e'⟩ := Array.getElem?_eq_some_iff.mp e
  rw [Array.getElem?_push, if_neg (by omega)]; exact e⟩

/-- what a frame knows of a generator of its own -/
structure GHas (g : GCtx) (P : Nat → Pos) (r : List Stmt) (G : Addr) (i k : Nat) (I : Addr) (K : List (Addr × Obj)) (gens : Array GenState) : Prop where
  gs : ∃ gs, gens[i]? = some gs ∧ g.GSt P r I k gs
  kL : g.L ∈ K.map (·.1)
  kI : k ≠ 0 → I ∈ K.map (·.1)
  kG : G ∈ K.map (·.1)
  heap : ∀ h : Heap, (∀ q ∈ K, h.get? q.1 = some q.2) → h.IsGen G i ∧ g.GHeap I k h

/-- the kept objects, read anew -/
noncomputable def reK (h : Heap) (K : List (Addr × Obj)) : List (Addr × Obj) := K.map fun q => (q.1, (h.get? q.1).getD q.2)
theorem reK_keys (h : Heap) (K : List (Addr × Obj)) : (reK h K).map (·.1) = K.map (·.1) := by simp [reK]
theorem reK_get {h : Heap} {K : List (Addr × Obj)} (hl : ∀ q ∈ K, (h.get? q.1).isSome = true) : ∀ q ∈ reK h K, h.get? q.1 = some q.2 := fun q hq => by
  obtain ⟨p, hp, rfl⟩ := List.mem_map.mp hq
  obtain ⟨o, ho⟩ := Option.isSome_iff_exists.mp (hl p hp)
  simp [ho]

theorem mid_agree {g : GCtx} {I : Addr} {k : Nat} {h h' : Heap} (x : g.GIn I k h) (hL : ∀ o, h.get? g.L = some o → h'.get? g.L = some o) (hI : ∀ o, h.get? I = some o → h'.get? I = some o) : g.GIn I k h' := by
  unfold GCtx.GIn at x ⊢
  split at x
  · rename_i hle
    rw [if_pos hle]
    cases k with
    | zero => exact x.elim
    | succ k =>
      obtain ⟨⟨o, ho, r⟩, mm, hn, r'⟩ := x
      exact ⟨⟨o, hI o ho, r⟩, mm, hn.at' hL, r'⟩
  · rename_i hle
    rw [if_neg hle]
    obtain ⟨hl, mm, hn, r⟩ := x
    obtain ⟨o, ho⟩ := Option.isSome_iff_exists.mp hl
    exact ⟨by rw [hI o ho]; rfl, mm, hn.at' hL, r⟩

theorem gin_live {g : GCtx} {I : Addr} {k : Nat} {h : Heap} (x : g.GIn I k h) (h0 : k ≠ 0) : (h.get? I).isSome = true ∧ (h.get? g.L).isSome = true := by
  unfold GCtx.GIn at x
  split at x
  · cases k with
    | zero => exact absurd rfl h0
    | succ k =>
      obtain ⟨⟨o, ho, _⟩, mm, ⟨o', _, _, ho', _⟩, _⟩ := x
      exact ⟨by rw [ho]; rfl, by rw [ho']; rfl⟩
  · obtain ⟨hl, mm, ⟨o', _, _, ho', _⟩, _⟩ := x
    exact ⟨hl, by rw [ho']; rfl⟩

/-- the kept objects behind a turn -/
noncomputable def nextK (k : Nat) (I : Addr) (h : Heap) (K : List (Addr × Obj)) : List (Addr × Obj) := if k = 0 then (I, (h.get? I).getD default) :: reK h K else reK h K

theorem St.turn {W : Wd} {c : Fc} {X : Addr → Prop} {σ : List (Addr × List PV)} {K : List (Addr × Obj)} {ρ : List (Option PV)} {s : Shared} (F : List (Addr × Obj)) (st : St W c X ⟨σ, F ++ K, ρ, false⟩ s) (hF : ∀ q ∈ F, q.1 ∉ K.map (·.1)) (hfr : c.fr = true) {g : GCtx} {P : Nat → Pos} {r : List Stmt} {G I I' : Addr} {i k : Nat}
    (x : GHas g P r G i k I K c.s₀.gens) {gens' : Array GenState} {gs' : GenState} {h' : Heap} {tk : Nat}
    (hs : ∀ b o, b ≠ g.L → b ≠ I' → s.heap.get? b = some o → h'.get? b = some o) (hI1 : k ≠ 0 → I' = I) (hI0 : k = 0 → s.heap.get? I' = none) (hIG : k ≠ 0 → I' ≠ G) (hLG : g.L ≠ G)
    (ht : GenTo s.gens gens' i gs') (hst : g.GSt P r I' (k + 1) gs') (hh : g.GHeap I' (k + 1) h') :
    (∃ X', St W (c.at gens') X' ⟨σ, F ++ nextK k I' h' K, ρ, false⟩ { s with heap := h', toks := tk, gens := gens' }) ∧ GHas g P r G i (k + 1) I' (nextK k I' h' K) gens' ∧
      (k ≠ 0 → (nextK k I' h' K).map (·.1) = K.map (·.1)) := by
  unfold GCtx.GHeap at hh
  rw [if_neg (by omega)] at hh
  obtain ⟨hgi, hrest⟩ := hh
  obtain ⟨lI, lL⟩ := gin_live hgi (Nat.succ_ne_zero k)
  have kk : ∀ q ∈ K, s.heap.get? q.1 = some q.2 := fun q hq => (st.kk q (List.mem_append_right _ hq)).2
  have fk : ∀ q ∈ F, h'.get? q.1 = some q.2 := fun q hq => by
    have e0 := (st.kk q (List.mem_append_left _ hq)).2
    refine hs _ _ (fun e => hF q hq (e ▸ x.kL)) (fun e => ?_) e0
    by_cases h0 : k = 0
    · rw [e, hI0 h0] at e0; cases e0
    · exact hF q hq (by rw [e, hI1 h0]; exact x.kI h0)
  have liveK : ∀ q ∈ K, (h'.get? q.1).isSome = true := fun q hq => by
    by_cases e1 : q.1 = g.L
    · rw [e1]; exact lL
    · by_cases e2 : q.1 = I'
      · rw [e2]; exact lI
      · rw [hs _ _ e1 e2 (kk q hq)]; rfl
  have got : ∀ q ∈ nextK k I' h' K, h'.get? q.1 = some q.2 := fun q hq => by
    unfold nextK at hq
    split at hq
    · rcases List.mem_cons.mp hq with rfl | hq
      · obtain ⟨o, ho⟩ := Option.isSome_iff_exists.mp lI
        simp [ho]
      · exact reK_get liveK q hq
    · exact reK_get liveK q hq
  have keysIn : ∀ b, b ∈ K.map (·.1) → b ∈ (nextK k I' h' K).map (·.1) := fun b hb => by
    unfold nextK
    split
    · rw [List.map_cons, reK_keys]; exact List.mem_cons_of_mem _ hb
    · rw [reK_keys]; exact hb
  have keysI : I' ∈ (nextK k I' h' K).map (·.1) := by
    by_cases h0 : k = 0
    · unfold nextK; rw [if_pos h0]; exact List.mem_cons_self
    · have e := keysIn I (x.kI h0)
      rw [← hI1 h0] at e
      exact e
  have atK : ∀ b, b ∈ (nextK k I' h' K).map (·.1) → ∀ h : Heap, (∀ q ∈ nextK k I' h' K, h.get? q.1 = some q.2) → ∀ o, h'.get? b = some o → h.get? b = some o := fun b hb h hq o ho => by
    obtain ⟨q, hm, e⟩ := List.mem_map.mp hb
    have e1 := got q hm
    rw [e, ho] at e1
    have e2 := hq q hm
    rw [e] at e2
    rw [e2, ← e1]
  refine ⟨⟨_, st.moveK hfr (a := ⟨σ, F ++ K, ρ, false⟩) (if k = 0 then [g.L] else [g.L, I']) (if k = 0 then [I'] else []) (h' := h') (tk := tk) (gs := gens') ?_ ?_ ?_ ?_ (F ++ nextK k I' h' K) ?_⟩, ⟨⟨gs', ht.at', hst⟩, keysIn _ x.kL, fun _ => keysI, keysIn _ x.kG, fun h hq => ?_⟩, fun h0 => ?_⟩
  · intro b hb
    split at hb
    · rw [List.mem_singleton.mp hb, List.map_append]; exact List.mem_append_right _ x.kL
    · rename_i h0
      simp only [List.mem_cons, List.not_mem_nil, or_false] at hb
      rw [List.map_append]
      rcases hb with rfl | rfl
      · exact List.mem_append_right _ x.kL
      · rw [hI1 h0]; exact List.mem_append_right _ (x.kI h0)
  · intro b hb
    split at hb
    · rename_i h0
      rw [List.mem_singleton.mp hb]; exact hI0 h0
    · cases hb
  · intro b o hb e
    refine hs b o (fun e' => hb ?_) (fun e' => ?_) e
    · split <;> simp [e']
    · by_cases h0 : k = 0
      · rw [e', hI0 h0] at e; cases e
      · rw [if_neg h0] at hb; exact hb (by simp [e'])
  · intro b hb
    by_cases h0 : k = 0
    · rw [if_pos h0, if_pos h0] at hb
      rcases hb with hb | hb
      · rw [List.mem_singleton.mp hb]; exact lL
      · rw [List.mem_singleton.mp hb]; exact lI
    · rw [if_neg h0, if_neg h0] at hb
      rcases hb with hb | hb
      · simp only [List.mem_cons, List.not_mem_nil, or_false] at hb
        rcases hb with rfl | rfl
        · exact lL
        · exact lI
      · cases hb
  · intro q hq
    rw [List.map_append]
    rcases List.mem_append.mp hq with hq | hq
    · exact ⟨.inl (List.mem_append_left _ (List.mem_map.mpr ⟨q, hq, rfl⟩)), fk q hq⟩
    refine ⟨?_, got q hq⟩
    have hm : q.1 ∈ (nextK k I' h' K).map (·.1) := List.mem_map.mpr ⟨q, hq, rfl⟩
    unfold nextK at hm
    by_cases h0 : k = 0
    · rw [if_pos h0] at hm ⊢
      rw [List.map_cons, reK_keys] at hm
      rcases List.mem_cons.mp hm with h | h
      · exact .inr (by simp [h])
      · exact .inl (List.mem_append_right _ h)
    · rw [if_neg h0, reK_keys] at hm
      exact .inl (List.mem_append_right _ hm)
  · have gi := (x.heap s.heap kk).1
    obtain ⟨o, nm, qn, ho, rr⟩ := gi
    have hGI : G ≠ I' := fun e => by
      by_cases h0 : k = 0
      · rw [e, hI0 h0] at ho; cases ho
      · exact hIG h0 e.symm
    have ho' : h'.get? G = some o := hs G o (Ne.symm hLG) hGI ho
    refine ⟨⟨o, nm, qn, atK G (keysIn _ x.kG) h hq o ho', rr⟩, ?_⟩
    unfold GCtx.GHeap
    rw [if_neg (by omega)]
    exact ⟨mid_agree hgi (atK _ (keysIn _ x.kL) h hq) (atK _ keysI h hq), hrest⟩
  · unfold nextK; rw [if_neg h0, reK_keys]
end Mine
end partG6

section partG7
open PySem PySem.W PyProof.Rows
set_option maxRecDepth 100000
set_option linter.unusedVariables false
namespace Mine

section
variable {W : Wd} {c : Fc} {a : AS}

theorem run_whileG {test : Expr} {body : List Stmt} {pos : Pos} {rest : List Stmt} {post : Post} (Inv : Nat → Array GenState → AS → Prop)
    (turn : ∀ n gs a, Inv n gs a → ∃ b, EvB W (c.at gs) a test b ∧
      (b = true → Run W (c.at gs) a body (fun f s => match f with
        | .next => ∃ m, m < n ∧ ∃ gs' a' X, Inv m gs' a' ∧ St W (c.at gs') X a' s
        | .cont => ∃ m, m < n ∧ ∃ gs' a' X, Inv m gs' a' ∧ St W (c.at gs') X a' s
        | .brk => ∀ (E : Value → Shared → Prop), wpAny W.M c.A (execs rest c.env) post E s
        | .ret v => post (.ret v) s)) ∧ (b = false → Run W (c.at gs) a rest post))
    (n : Nat) (gs₀ : Array GenState) (h : Inv n gs₀ a) : Run W (c.at gs₀) a (.While test body [] pos :: rest) post := .mk fun X s st E => by
  refine cons_of (c := c) (wpAny_While (codeAny_whileLoop (fun n s => ∃ gs a' X, Inv n gs a' ∧ St W (c.at gs) X a' s) (fun n s hI => ?_) n ⟨gs₀, a, X, h, st⟩))
  obtain ⟨gs, a', X', hi, st'⟩ := hI
  obtain ⟨b, hb, h1, h2⟩ := turn n gs a' hi
  refine hb.go X' s st' _ _ fun s₁ k₁ => ?_
  cases b with
  | true =>
    simp only [if_true]
    refine wpAny_mono ((h1 rfl).go X' s₁ (st'.keeps k₁) _) (fun f s₂ h' => ?_) fun _ _ e => e
    cases f with
    | next => exact h'
    | cont => exact h'
    | brk => exact h'
    | ret v => exact h'
  | false =>
    simp only [Bool.false_eq_true, if_false]
    exact wpAny_execs_nil (show Then W c rest post .next s₁ from fun E' => (h2 rfl).go X' s₁ (st'.keeps k₁) E')

theorem rn_forG {x : Str} {px pos : Pos} {iter : Expr} {body rest : List Stmt} {post : Post} {N : List Str} {σ K ρ} {n : Nat} {item : Nat → PV} (hfs : ∀ v, foldedSetIterable iter c.env v = pure v) (hf : c.Fr) (hN : c.N = N) {gs₀ : Array GenState}
    (hi : EvI W (c.at gs₀) ⟨σ, K, ρ, false⟩ iter n item true) (Inv : Nat → Array GenState → List (Addr × List PV) → List (Addr × Obj) → List (Option PV) → Prop) (h0 : Inv 0 gs₀ σ K ρ)
    (turn : ∀ i gs σ K ρ F, i < n → Inv i gs σ K ρ → (∀ q ∈ F, q.1 ∉ K.map (·.1)) → ∃ ρ', Put N ρ x (item i) ρ' ∧ Run W (c.at gs) ⟨σ, F ++ K, ρ', false⟩ body (fun f s => match f with
      | .next => ∃ gs' σ₂ K₂ ρ₂ X, Inv (i + 1) gs' σ₂ K₂ ρ₂ ∧ K₂.map (·.1) = K.map (·.1) ∧ St W (c.at gs') X ⟨σ₂, F ++ K₂, ρ₂, false⟩ s
      | .cont => False
      | .brk => False
      | .ret v => post (.ret v) s))
    (fin : ∀ gs σ K ρ, Inv n gs σ K ρ → Run W (c.at gs) ⟨σ, K, ρ, false⟩ rest post) :
    Run W (c.at gs₀) ⟨σ, K, ρ, false⟩ (.For (.Name x px) iter body [] pos :: rest) post := .mk fun X s st E => by
  refine cons_of (c := c) (wpAny_For (hi.go X s st _ _ fun I s₂ k₂ its => ?_) hfs)
  obtain ⟨⟨fp, P, S, hW, hS0, hSex, hfp, hP⟩, hnew, ⟨oI, hoI⟩, hsz⟩ := its
  obtain ⟨st₂, hmI, hIσ, hIK, hnew0⟩ := st.take k₂ hnew hoI
  refine codeAny_forLoop (fun k s' => ∃ i gs σ₁ K₁ ρ₁ o X₁, k = n + 1 - i ∧ i ≤ n ∧ Inv i gs σ₁ K₁ ρ₁ ∧ K₁.map (·.1) = K.map (·.1) ∧ St W (c.at gs) X₁ ⟨σ₁, (I, o) :: K₁, ρ₁, false⟩ s' ∧ S i s'.heap) ?_ (n + 1)
    ⟨0, gs₀, σ, K, ρ, oI, _, rfl, Nat.zero_le _, h0, rfl, st₂, hS0⟩ (by intro _; rfl)
  rintro k s' ⟨i, gs, σ₁, K₁, ρ₁, o, X₁, rfl, hi', hinv, hkeys, st', hS⟩
  obtain ⟨⟨hmI', hIσ'⟩, _⟩ := st'.kk _ List.mem_cons_self
  have hIK₁ : I ∉ K₁.map (·.1) := hkeys ▸ hIK
  have hrest : ∀ q ∈ K₁, q ∈ ((I, o) :: K₁) ∧ q.1 ≠ I := fun q hq => ⟨List.mem_cons_of_mem _ hq, fun e => hIK₁ (List.mem_map.mpr ⟨q, hq, e⟩)⟩
  by_cases hlt : i < n
  · refine hW.item i s' _ _ hlt hS fun v h' tk hPv hS' hk' => ?_
    obtain ⟨o', ho'⟩ := Option.isSome_iff_exists.mp (hSex _ _ hS')
    have st'' := st'.swap (h' := h') (tk := tk) hmI' hIσ' (fun b o hb e => hk' b o (fun hm => hb (List.mem_singleton.mp hm)) e) ho' K₁ hrest hnew0
    obtain ⟨ρ', hput, hrun⟩ := turn i gs σ₁ K₁ ρ₁ [(I, o')] hlt hinv (fun q hq => by rw [List.mem_singleton.mp hq]; exact hIK₁)
    refine wpAny_assign_Name (store_name st'' ((hf.at gs).sto x) (hN ▸ hput) (hP i v hlt hPv _ _) fun s₃ st₃ _ => ?_)
    refine wpAny_mono (hrun.go X₁ s₃ st₃ _) (fun f s₄ hpost => ?_) fun _ _ e => e
    cases f with
    | next =>
      obtain ⟨gs', σ₂, K₂, ρ₂, X₂, h1, h2, h3⟩ := hpost
      refine ⟨n + 1 - (i + 1), by omega, i + 1, gs', σ₂, K₂, ρ₂, o', X₂, rfl, hlt, h1, h2.trans hkeys, h3, ?_⟩
      refine hW.frame _ _ _ hS' fun b hb ob e => ?_
      rcases hfp b hb with rfl | ⟨e', _⟩
      · have e4 : s₄.heap.get? b = some o' := (h3.kk _ List.mem_cons_self).2
        have e5 : h'.get? b = some ob := e
        rw [ho'] at e5; cases e5; exact e4
      · cases e'
    | brk => exact hpost.elim
    | cont => exact hpost.elim
    | ret v => exact hpost
  · have hin : i = n := by omega
    subst hin
    refine hW.done s' _ _ hS fun h' tk hk' => wpAny_execs_nil ?_
    have st'' := st'.leave (h' := h') (tk := tk) hmI' hIσ' (fun b o hb e => hk' b o (fun hm => hb (List.mem_singleton.mp hm)) e) K₁ hrest hnew0
    exact fun E' => (fin gs σ₁ K₁ ρ₁ hinv).go _ _ st'' E'

/-- a generator made over an own list -/
theorem rn_mkgen {x y : Str} {px py pf pos pos' : Pos} {P : Nat → Pos} {r rest : List Stmt} {post : Post} {N gl : List Str} {σ : List (Addr × List PV)} {K : List (Addr × Obj)} {ρ : List (Option PV)} {ρ' : Addr → List (Option PV)} {b : Addr} {l : List PV}
    (hs : swapsWith (.Call (.Name nGi pf) [.Name y py] [] pos') (some (.Name x px)) pos.line c.env = pure false)
    (he : eval (.Call (.Name nGi pf) [.Name y py] [] pos') c.env = (do callWith pos' (← eval (.Name nGi pf) c.env) [] (backTo pos' (starEach [.Name y py] c.env)) (backToKw pos' (keywordEach [] c.env))))
    (hst : starEach [.Name y py] c.env = (false, eval (.Name y py) c.env) :: starEach [] c.env)
    (hf : c.Fr) (hN : c.N = N) (hgl : c.gl = gl) (hx : nGi ∈ gl) (hG : GFun W P r) (hy : At N ρ y (.raw (.ref b))) (hb : (b, l) ∈ σ) (hput : ∀ G, Put N ρ x (.raw (.ref G)) (ρ' G))
    (h : ∀ env L G K' gens', c.Ok W → c.s₀.heap.get? L = none → GPre c.s₀.gens gens' → L ≠ G → b ≠ L → GEnv env L → (∀ g : GCtx, g.W = W → g.env = env → g.D = b → GHas g P r G c.s₀.gens.size 0 G K' gens') → Run W (c.at gens') ⟨σ, K', ρ' G, false⟩ rest post) :
    Run W c ⟨σ, K, ρ, false⟩ (.Assign [.Name x px] (.Call (.Name nGi pf) [.Name y py] [] pos') pos :: rest) post := .mk fun X s st E => by
  obtain ⟨f, hmg, hfd, hcall⟩ := gen_call hG
  refine cons_of (wpAny_Assign_Name (hs := hs) (Call_ (he := he) (Calls.Name_function_global st.ok.fn (st.ok.gm nGi (hgl ▸ hx)) (Calls.loadGlobal_global (env := c.env) (mg := W.mg) (by rw [st.ok.gg]; exact W.ns _ st.g) hmg ?_) (st.ok.db.2 nGi (hgl ▸ hx)))))
  obtain ⟨o, fd, ho, hd⟩ := hfd _ st.g
  refine callWith_def (o := o) (fd := fd) hd ?_ (he := hst)
  refine args_cons (he := hst) (wpAny_Name (load_name st (hN ▸ hy) fun v hv => ?_) (st.ok.db.1 y (hN ▸ hy).mem))
  simp only [Rep] at hv
  subst hv
  refine args_nil ⟨ho, hcall st.g (by have := st.ok.rm.1; omega) fun env L G s' hn => ?_⟩
  obtain ⟨ge, ⟨h', tk, rfl⟩, hns, hgen, hkeep, nL, nG⟩ := hn
  obtain ⟨mm, hns, hmm⟩ := hns
  have hLG : L ≠ G := fun e => by
    obtain ⟨o1, _, _, e1, hdd, _⟩ := hns
    obtain ⟨o2, _, _, e2, _, hd2, _⟩ := hgen
    rw [e, e2] at e1; cases e1
    rw [hd2] at hdd; cases hdd
  obtain ⟨hm, xs, ⟨ob, _, hob, _⟩, _⟩ := st.own _ hb
  have hbL : b ≠ L := fun e => by rw [show (b, l).1 = b from rfl, e, nL] at hob; cases hob
  obtain ⟨oL, es, ep, hoL, d1, d2, d3⟩ := hns
  obtain ⟨oG, nm, qn, hoG, c1, c2, c3⟩ := hgen
  have keys : ∀ q ∈ K, s.heap.get? q.1 = some q.2 := fun q hq => (st.kk q hq).2
  have st' := st.moveK hf.fr [] [L, G] (h' := h') (tk := tk) (gs := s.gens.push (.fresh (.func (gBody P r) env))) (fun b hb => by cases hb) (fun b hb => by
      simp only [List.mem_cons, List.not_mem_nil, or_false] at hb
      rcases hb with rfl | rfl
      · exact nL
      · exact nG) (fun b o _ e => hkeep b o e) (fun b hb => by
      rcases hb with hb | hb
      · cases hb
      · simp only [List.mem_cons, List.not_mem_nil, or_false] at hb
        rcases hb with rfl | rfl
        · show (h'.get? b).isSome = true; rw [hoL]; rfl
        · show (h'.get? b).isSome = true; rw [hoG]; rfl) ((L, oL) :: (G, oG) :: K) (fun q hq => by
      rcases List.mem_cons.mp hq with rfl | hq
      · exact ⟨.inr (by simp), hoL⟩
      · rcases List.mem_cons.mp hq with rfl | hq
        · exact ⟨.inr (by simp), hoG⟩
        · exact ⟨.inl (List.mem_map.mpr ⟨q, hq, rfl⟩), hkeep _ _ (keys q hq)⟩)
  have hgs : s.gens = c.s₀.gens := by obtain ⟨_, _, e⟩ := st.same; rw [e]
  refine store_name st' ((hf.at _).sto x) (hN ▸ hput G) (by simp only [Rep]) fun s₂ st₂ _ E' => ?_
  refine (h env L G _ _ st.ok (by
    cases e : c.s₀.heap.get? L with
    | none => rfl
    | some o => rw [st.keep _ _ e] at nL; cases nL) (hgs ▸ GPre.push rfl) hLG hbL ge (fun g gW gE gD => ?_)).go _ s₂ st₂ E'
  subst gW gE gD
  refine ⟨⟨_, by rw [← hgs]; exact Array.getElem?_push_size .., rfl, .inl ⟨rfl, rfl⟩⟩, ?_, fun h => absurd rfl h, ?_, fun h hq => ⟨?_, ?_⟩⟩
  · rw [GCtx.L, ge.lo]; simp
  · simp
  · have := hq (G, oG) (by simp)
    rw [← hgs]
    exact ⟨oG, _, _, this, c1, c2, c3⟩
  · unfold GCtx.GHeap
    rw [if_pos rfl]
    have := hq (L, oL) (by simp)
    refine ⟨mm, ⟨oL, es, ep, ?_, d1, d2, d3⟩, hmm⟩
    rw [GCtx.L, ge.lo]; exact this

/-- the next of a generator over an own list -/
theorem rn_nextF (F : List (Addr × Obj)) {x y : Str} {px py pf p0 pos pos' : Pos} {k0 : Nat} {P : Nat → Pos} {r rest : List Stmt} {post : Post} {N gl : List Str} {σ : List (Addr × List PV)} {K : List (Addr × Obj)} {ρ ρ' : List (Option PV)} {l : List PV} {g : GCtx} {G I : Addr} {i k : Nat}
    (hs : swapsWith (.Call (.Name (Str.ofString "next") pf) [.Name y py, .Constant (.int 0) k0 p0] [] pos') (some (.Name x px)) pos.line c.env = pure false)
    (he : eval (.Call (.Name (Str.ofString "next") pf) [.Name y py, .Constant (.int 0) k0 p0] [] pos') c.env = (do callWith pos' (← eval (.Name (Str.ofString "next") pf) c.env) [] (backTo pos' (starEach [.Name y py, .Constant (.int 0) k0 p0] c.env)) (backToKw pos' (keywordEach [] c.env))))
    (hst : starEach [.Name y py, .Constant (.int 0) k0 p0] c.env = (false, eval (.Name y py) c.env) :: starEach [.Constant (.int 0) k0 p0] c.env)
    (hst2 : starEach [.Constant (.int 0) k0 p0] c.env = (false, eval (.Constant (.int 0) k0 p0) c.env) :: starEach [] c.env)
    (hpl : (backTo pos' (starEach [.Constant (.int 0) k0 p0] c.env)).any (·.1) = false)
    (hf : c.Fr) (hN : c.N = N) (hgl : c.gl = gl) (hx : Str.ofString "next" ∈ gl) (hbn : BN W (Str.ofString "next") "next") (ok : GOk g) (gW : g.W = W) (gA : g.A = c.A.in1.in1) (ghb : g.hb = c.s₀.heap)
    (hG : GHas g P r G i k I K c.s₀.gens) (hF : ∀ q ∈ F, q.1 ∉ K.map (·.1)) (hIG : k ≠ 0 → I ≠ G) (hLG : g.L ≠ G) (hy : At N ρ y (.raw (.ref G))) (hb : k ≤ g.m → (g.D, l) ∈ σ ∧ l[k]? = some (.int (g.it k))) (hDl : g.D ∈ σ.map (·.1)) (hkN : k < g.N) (hno : k = g.m → g.it k ≠ 127) (hput : Put N ρ x (.int (g.yv k)) ρ')
    (h : ∀ I' K' gens', GHas g P r G i (k + 1) I' K' gens' → I' ≠ G → (AllBare c.s₀.gens → AllBare gens') → (k ≠ 0 → I' = I ∧ K'.map (·.1) = K.map (·.1)) → Run W (c.at gens') ⟨σ, F ++ K', ρ', false⟩ rest post) :
    Run W c ⟨σ, F ++ K, ρ, false⟩ (.Assign [.Name x px] (.Call (.Name (Str.ofString "next") pf) [.Name y py, .Constant (.int 0) k0 p0] [] pos') pos :: rest) post := .mk fun X s st E => by
  subst gW
  refine cons_of (wpAny_Assign_Name (hs := hs) (Call_ (he := he) (Calls.Name_function_global st.ok.fn (st.ok.gm _ (hgl ▸ hx)) (Calls.loadGlobal_builtin (env := c.env) (mg := g.W.mg) (mb := g.W.mb) (by rw [st.ok.gg]; exact g.W.ns _ st.g) hbn.1 (by rw [st.ok.gb]; exact g.W.bns _ st.g) hbn.2 ?_) (st.ok.db.2 _ (hgl ▸ hx)))))
  refine callWith_builtin1 ?_ (he := hst) (hplain := hpl)
  refine args_cons (he := hst) (wpAny_Name (load_name st (hN ▸ hy) fun v hv => ?_) (st.ok.db.1 y (hN ▸ hy).mem))
  simp only [Rep] at hv
  subst hv
  refine args_cons (he := hst2) (wpAny_Constant_int (args_nil ?_))
  have st₁ := st.keeps (Kp.tok s (s.toks + 1))
  generalize hs₁ : ({ s with toks := s.toks + 1 } : Shared) = s₁ at st₁ ⊢
  have kk : ∀ q ∈ K, s₁.heap.get? q.1 = some q.2 := fun q hq => (st₁.kk q (List.mem_append_right _ hq)).2
  obtain ⟨hgen, hgh⟩ := hG.heap s₁.heap kk
  have hgs : s₁.gens = c.s₀.gens := by obtain ⟨_, _, e⟩ := st₁.same; rw [e]
  obtain ⟨gs, hgs1, hgs2⟩ := hG.gs
  obtain ⟨qD, hqD, eD⟩ := List.mem_map.mp hDl
  refine call_next2 hgen.typeIs (gen_next (A := c.A.in1) ok (by rw [gA]) (by have := st.ok.rm.1; exact Nat.lt_of_le_of_lt (Nat.le_add_right _ _) this) hgen (by rw [hgs]; exact hgs1) hgs2 hgh (fun hle => ?_) ?_ ?_ hkN ?_ ?_)
  · obtain ⟨h1, h2⟩ := hb hle
    obtain ⟨_, xs, hp, hr⟩ := st₁.own _ h1
    obtain ⟨v, hv, rv⟩ := hr.get h2
    simp only [Rep] at rv
    obtain ⟨t, rfl⟩ := rv
    exact ⟨xs, t, hp.isList, by simpa using hv⟩
  · obtain ⟨_, xs, ⟨o, _, ho, _⟩, _⟩ := st₁.own _ hqD
    rw [← eD, ho]; rfl
  · intro b o e
    rw [ghb] at e
    exact st₁.keep b o e
  · intro t I' h' tk gens gs' _ ht hbare i1 i2 hk hst' hh'
    have hI'G : I' ≠ G := fun e => by
      by_cases h0 : k = 0
      · obtain ⟨o, _, _, ho, _⟩ := hgen
        rw [← e, i2 h0] at ho; cases ho
      · exact hIG h0 (by rw [← i1 h0]; exact e)
    obtain ⟨⟨X', st₂⟩, gh, kkeys⟩ := st₁.turn (K := K) F hF hf.fr hG hk i1 i2 (fun _ => hI'G) hLG ht hst' hh' (tk := tk)
    refine store_name st₂ ((hf.at _).sto x) (hN ▸ hput) (by show Rep _ _ (.int (g.yv k)) (.int (g.yv k) t); simp only [Rep]; exact ⟨t, rfl⟩) fun s₂ st₃ _ E' => ?_
    exact (h I' _ _ gh hI'G (fun hb => ht.bare hbare (hgs ▸ hb)) (fun h0 => ⟨i1 h0, kkeys h0⟩)).go _ s₂ st₃ E'
  · intro hm h127
    exact absurd h127 (hno hm)
theorem rn_next {x y : Str} {px py pf p0 pos pos' : Pos} {k0 : Nat} {P : Nat → Pos} {r rest : List Stmt} {post : Post} {N gl : List Str} {σ : List (Addr × List PV)} {K : List (Addr × Obj)} {ρ ρ' : List (Option PV)} {l : List PV} {g : GCtx} {G I : Addr} {i k : Nat}
    (hs : swapsWith (.Call (.Name (Str.ofString "next") pf) [.Name y py, .Constant (.int 0) k0 p0] [] pos') (some (.Name x px)) pos.line c.env = pure false)
    (he : eval (.Call (.Name (Str.ofString "next") pf) [.Name y py, .Constant (.int 0) k0 p0] [] pos') c.env = (do callWith pos' (← eval (.Name (Str.ofString "next") pf) c.env) [] (backTo pos' (starEach [.Name y py, .Constant (.int 0) k0 p0] c.env)) (backToKw pos' (keywordEach [] c.env))))
    (hst : starEach [.Name y py, .Constant (.int 0) k0 p0] c.env = (false, eval (.Name y py) c.env) :: starEach [.Constant (.int 0) k0 p0] c.env)
    (hst2 : starEach [.Constant (.int 0) k0 p0] c.env = (false, eval (.Constant (.int 0) k0 p0) c.env) :: starEach [] c.env)
    (hpl : (backTo pos' (starEach [.Constant (.int 0) k0 p0] c.env)).any (·.1) = false)
    (hf : c.Fr) (hN : c.N = N) (hgl : c.gl = gl) (hx : Str.ofString "next" ∈ gl) (hbn : BN W (Str.ofString "next") "next") (ok : GOk g) (gW : g.W = W) (gA : g.A = c.A.in1.in1) (ghb : g.hb = c.s₀.heap)
    (hG : GHas g P r G i k I K c.s₀.gens) (hIG : k ≠ 0 → I ≠ G) (hLG : g.L ≠ G) (hy : At N ρ y (.raw (.ref G))) (hb : k ≤ g.m → (g.D, l) ∈ σ ∧ l[k]? = some (.int (g.it k))) (hDl : g.D ∈ σ.map (·.1)) (hkN : k < g.N) (hno : k = g.m → g.it k ≠ 127) (hput : Put N ρ x (.int (g.yv k)) ρ')
    (h : ∀ I' K' gens', GHas g P r G i (k + 1) I' K' gens' → I' ≠ G → (AllBare c.s₀.gens → AllBare gens') → (k ≠ 0 → I' = I ∧ K'.map (·.1) = K.map (·.1)) → Run W (c.at gens') ⟨σ, K', ρ', false⟩ rest post) :
    Run W c ⟨σ, K, ρ, false⟩ (.Assign [.Name x px] (.Call (.Name (Str.ofString "next") pf) [.Name y py, .Constant (.int 0) k0 p0] [] pos') pos :: rest) post :=
  rn_nextF [] hs he hst hst2 hpl hf hN hgl hx hbn ok gW gA ghb hG (fun q hq => by cases hq) hIG hLG hy hb hDl hkN hno hput h
end
end Mine
end partG7

section partG8
open PySem PySem.W PyProof.Rows
set_option maxRecDepth 100000
set_option linter.unusedVariables false
namespace Mine

/-- an expression's value, where generators may be made -/
structure EvG (W : Wd) (c : Fc) (a : AS) (e : Expr) (p : PV) : Prop where
  go : ∀ X s, St W c X a s → ∀ (Q : Value → Shared → Prop) (E : Value → Shared → Prop), (∀ v s' gs', GPre s.gens gs' → Kp { s with gens := gs' } s' → Rep s'.heap (a.Y X) p v → Q v s') → wpAny W.M c.A (eval e c.env) Q E s
structure EvBG (W : Wd) (c : Fc) (a : AS) (e : Expr) (b : Bool) : Prop where
  go : ∀ X s, St W c X a s → ∀ (Q : Bool → Shared → Prop) (E : Value → Shared → Prop), (∀ s' gs', GPre s.gens gs' → Kp { s with gens := gs' } s' → Q b s') → wpAny W.M c.A (isTrue e c.env (eval e c.env)) Q E s

theorem St.gens_eq {W : Wd} {c : Fc} {X : Addr → Prop} {a : AS} {s : Shared} (x : St W c X a s) : s.gens = c.s₀.gens := by
  obtain ⟨_, _, e⟩ := x.same; rw [e]
theorem St.keepsG {W : Wd} {c : Fc} {X : Addr → Prop} {a : AS} {s s' : Shared} {gs : Array GenState} (x : St W c X a s) (k : Kp { s with gens := gs } s') : St W (c.at gs) X a s' := (x.gens gs).keeps k

section
variable {W : Wd} {c : Fc} {a : AS}

theorem rn_ifG {test : Expr} {body orelse rest : List Stmt} {pos : Pos} {post : Post} {b : Bool} (ht : EvBG W c a test b) (h1 : b = true → ∀ gs, GPre c.s₀.gens gs → Run W (c.at gs) a body (Then W c rest post)) (h2 : b = false → ∀ gs, GPre c.s₀.gens gs → Run W (c.at gs) a orelse (Then W c rest post)) :
    Run W c a (.If test body orelse pos :: rest) post := .mk fun X s st E =>
  cons_of (wpAny_If (ht.go X s st _ _ fun s₁ gs hg k₁ => by
    cases b with
    | true => exact (h1 rfl gs (st.gens_eq ▸ hg)).go X s₁ (st.keepsG k₁) E
    | false => exact (h2 rfl gs (st.gens_eq ▸ hg)).go X s₁ (st.keepsG k₁) E))

theorem rn_assignG {x : Str} {pos' pos : Pos} {value : Expr} {rest : List Stmt} {post : Post} {p : PV} {N : List Str} {σ K ρ ρ'} (hs : swapsWith value (some (.Name x pos')) pos.line c.env = pure false) (hf : c.Fr) (hN : c.N = N) (he : EvG W c ⟨σ, K, ρ, false⟩ value p) (hx : Put N ρ x p ρ')
    (h : ∀ gs, GPre c.s₀.gens gs → Run W (c.at gs) ⟨σ, K, ρ', false⟩ rest post) : Run W c ⟨σ, K, ρ, false⟩ (.Assign [.Name x pos'] value pos :: rest) post := .mk fun X s st E =>
  cons_of (wpAny_Assign_Name (hs := hs) (he.go X s st _ _ fun v s₁ gs hg k₁ r₁ => store_name (st.keepsG k₁) ((hf.at gs).sto _) (hN ▸ hx) (r₁.mono (fun _ _ _ e => e) fun b z _ => ⟨z, fun hl => by cases hl⟩) fun s₂ st₂ _ E' => (h gs (st.gens_eq ▸ hg)).go X s₂ st₂ E'))

/-- comparing, the left side with generators -/
theorem evBG_cmp {l op r pos p q b} (hm : behindInMarks op r = false) (hl : EvG W c a l p) (hr : ∀ gs, Ev W (c.at gs) a r q) (ho : CmpR W op p q b) : EvBG W c a (.Compare l [op] [r] pos) b := .mk fun X s x Q E h =>
  wpAny_isTrue_Compare1 (hm := hm) (hl.go X s x _ _ fun u s₁ gs hg k₁ r₁ => (hr gs).go X s₁ (x.keepsG k₁) _ _ fun v s₂ k₂ r₂ =>
    ho.go _ s₂ (a.Y X) u v x.ok.hd (x.ok.rm.le (Nat.zero_le _)) ((x.keepsG k₁).keeps k₂).g (r₁.keeps k₂) r₂ _ _ fun s₃ k₃ => wpAny_truthy_bool (h s₃ gs hg ((k₁.tr k₂).tr k₃)))

theorem RepL.flatI {h h' : Heap} {X Y : Addr → Prop} : ∀ {l : List Int} {vs : List Value}, RepL h X (l.map .int) vs → RepL h' Y (l.map .int) vs
  | [], [], _ => by simp [RepL]
  | x :: l, v :: vs, r => by
    simp only [List.map_cons, RepL] at r ⊢
    exact ⟨r.1.flat rfl, RepL.flatI r.2⟩
  | [], _ :: _, r => by simp [RepL] at r
  | _ :: _, [], r => by simp [RepL] at r
theorem Kp.trG {s s₁ s₂ : Shared} {gs : Array GenState} (k : Kp s s₁) (k' : Kp { s₁ with gens := gs } s₂) : Kp { s with gens := gs } s₂ := by
  obtain ⟨h, t, rfl, kk⟩ := k
  obtain ⟨h', t', rfl, kk'⟩ := k'
  exact ⟨h', t', rfl, fun b o e => kk' b o (kk b o e)⟩
theorem Kp.gens_eq {s s' : Shared} (k : Kp s s') : s'.gens = s.gens := by obtain ⟨_, _, rfl, _⟩ := k; rfl

/-- the list that a generator over a written row gives, by a comprehension -/
theorem evG_comp {x : Str} {px px2 pf pos pos' : Pos} {e : Expr} {scope : Scope} {P : Nat → Pos} {r : List Stmt} {gl : List Str} {l : List Int} {m : Nat}
    (hfs : ∀ v, foldedSetIterable (.Call (.Name nGi pf) [e] [] pos') c.env v = pure v) (hsn : scope.names = [(Str.ofString ".0", .local), (x, .local)]) (hsk : scope.kind = .function) (hx0 : (x == Str.ofString ".0") = false) (hxd : (x == ("__debug__" : Str)) = false)
    (hev : eval (.Call (.Name nGi pf) [e] [] pos') c.env = (do callWith pos' (← eval (.Name nGi pf) c.env) [] (backTo pos' (starEach [e] c.env)) (backToKw pos' (keywordEach [] c.env))))
    (hst : starEach [e] c.env = (false, eval e c.env) :: starEach [] c.env)
    (hgl : c.gl = gl) (hx : nGi ∈ gl) (hG : GFun W P r) (he : Ev W c a e (.lst (l.map .int))) (hl : l.length ≤ sizeLine) (hm : l[m]? = some 127) (h0 : ∀ k v, k < m → l[k]? = some v → v ≠ 0 ∧ v ≠ 127) :
    EvG W c a (.ListComp (.Name x px2) [⟨.Name x px, .Call (.Name nGi pf) [e] [] pos', [], 0⟩] scope pos) (.lst ((l.take m).map .int)) := .mk fun X s st Q E hfin => by
  rw [eval_ListComp]
  obtain ⟨f, hmg, hfd, hcall⟩ := gen_call hG
  have hlk : scope.names.lookup x = some .local := by rw [hsn, List.lookup_cons, hx0]; simp
  have hmlt : m < l.length := by
    apply Classical.byContradiction; intro h'; rw [List.getElem?_eq_none (by omega)] at hm; cases hm
  refine wpAny_comprehension_free (use := none) (cl := []) rfl hfs ?_ hsk ?_ ?_
  · exact (closure_run scope c.env (fun n hn => by rw [hsn] at hn; simp at hn)).trans (by rw [hsn]; rfl)
  · intro y hy hloc
    rw [hsn] at hy ⊢
    simp only [List.mem_cons, List.not_mem_nil, or_false] at hy
    rcases hy with rfl | rfl
    · simp
    · show List.lookup x _ = _
      rw [List.lookup_cons, hx0]; simp
  show wpAny W.M c.A (eval (.Call (.Name nGi pf) [e] [] pos') c.env) _ E s
  refine Call_ (he := hev) (Calls.Name_function_global st.ok.fn (st.ok.gm nGi (hgl ▸ hx)) (Calls.loadGlobal_global (env := c.env) (mg := W.mg) (by rw [st.ok.gg]; exact W.ns _ st.g) hmg ?_) (st.ok.db.2 nGi (hgl ▸ hx)))
  obtain ⟨o, fd, ho, hd⟩ := hfd _ st.g
  refine callWith_def (o := o) (fd := fd) hd ?_ (he := hst)
  refine args_cons (he := hst) (he.go X s st _ _ fun v s₁ k₁ r₁ => ?_)
  simp only [Rep] at r₁
  obtain ⟨D, xs, rfl, hDX, hp, hr⟩ := r₁
  have st₁ := st.keeps k₁
  refine args_nil ⟨k₁.get ho, hcall st₁.g (by have := st.ok.rm.1; omega) fun genv L G s₂ hn => ?_⟩
  obtain ⟨ge, ⟨h₂, tk₂, rfl⟩, ⟨mm, hns, hmm⟩, hgen, hkeep, nL, nG⟩ := hn
  refine wpAny_pyIter_gen hgen ?_
  refine wpAny_newList (compEnv_new ?_)
  rw [hsn]
  show codeAny W.M c.A (.compStart _ 0 (.ref G) (.ref h₂.objs.size) { scope := relabel scope c.env, locals := (h₂.push { cls := .type "list", data := .seq ([] : List Value).toArray }).objs.size, globals := c.env.globals, cells := [], qual := c.env.qual, func := none, code := c.env.code, frame := c.env.frame, builtins := c.env.builtins })
    (compPost W.M c.A E none Q (.ref h₂.objs.size) (h₂.push { cls := .type "list", data := .seq ([] : List Value).toArray }).objs.size) { s₁ with heap := (h₂.push { cls := .type "list", data := .seq ([] : List Value).toArray }).push { cls := .type "dict", data := .dict #[] }, toks := tk₂, gens := s₁.gens.push (.fresh (.func (gBody P r) genv)) }
  have hsz3' : (h₂.push { cls := .type "list", data := .seq ([] : List Value).toArray }).objs.size = h₂.objs.size + 1 := Heap.size_push ..
  rw [hsz3']
  generalize hR : h₂.objs.size = R
  have hsz3 : (h₂.push { cls := .type "list", data := .seq ([] : List Value).toArray }).objs.size = R + 1 := by rw [hsz3', hR]
  generalize hh₄ : (h₂.push { cls := .type "list", data := .seq ([] : List Value).toArray }).push { cls := .type "dict", data := .dict #[] } = h₄
  have k24 : ∀ b o, h₂.get? b = some o → h₄.get? b = some o := fun b o e => by rw [← hh₄]; exact Heap.get?_push_of_some _ (Heap.get?_push_of_some _ e)
  have lt2 : ∀ b o, h₂.get? b = some o → b < R := fun b o e => by rw [← hR]; exact Heap.lt_size e
  have hR4 : PlainL h₄ R #[] := by rw [← hh₄, ← hR]; exact ⟨_, _, Heap.get?_push_of_some _ (Heap.get?_push_size _ rfl), rfl, rfl, rfl⟩
  have hC4 : h₄.Ns (R + 1) fun _ => none := by
    rw [← hh₄, ← hsz3]
    exact Heap.Ns.new _ (.type "dict")
  let env' : Env := { scope := relabel scope c.env, locals := R + 1, globals := c.env.globals, cells := [], qual := c.env.qual, func := none, code := c.env.code, frame := c.env.frame, builtins := c.env.builtins }
  have hkx : env'.kindOf x = some .local := lookup_relabel_local hlk
  have hfn : env'.scope.kind = .function := hsk
  let g : GCtx := { W := W, env := genv, D := D, it := fun k => l.getD k 0, m := m, N := m + 1, A := c.A.in1, hb := c.s₀.heap }
  have git : ∀ k, k ≤ m → l[k]? = some (g.it k) := fun k hk => by
    show l[k]? = some (l.getD k 0)
    rw [List.getD_eq_getElem?_getD, List.getElem?_eq_getElem (by omega)]; rfl
  have gm : g.it m = 127 := by have := git m (Nat.le_refl _); rw [hm] at this; exact (Option.some.inj this).symm
  have hDs : (s₁.heap.get? D).isSome = true := by obtain ⟨o, _, e, _⟩ := hp; rw [e]; rfl
  have hDL : D ≠ L := fun e => by rw [e, nL] at hDs; cases hDs
  have hDG : D ≠ G := fun e => by rw [e, nG] at hDs; cases hDs
  have hLG : L ≠ G := fun e => by
    obtain ⟨o1, _, _, e1, hdd, _⟩ := hns
    obtain ⟨o2, _, _, e2, _, hd2, _⟩ := hgen
    have e1' : h₂.get? L = some o1 := e1
    have e2' : h₂.get? G = some o2 := e2
    rw [e, e2'] at e1'; cases e1'
    rw [hd2] at hdd; cases hdd
  have hLR : L < R := by obtain ⟨o1, _, _, e1, _⟩ := hns; exact lt2 _ _ e1
  have hGR : G < R := by obtain ⟨o1, _, _, e1, _⟩ := hgen; exact lt2 _ _ e1
  have hDR : D < R := by obtain ⟨o1, e1⟩ := Option.isSome_iff_exists.mp hDs; exact lt2 _ _ (hkeep _ _ e1)
  have nLR : L ≠ R := Nat.ne_of_lt hLR
  have nLC : L ≠ R + 1 := Nat.ne_of_lt (Nat.lt_succ_of_lt hLR)
  have nGR : G ≠ R := Nat.ne_of_lt hGR
  have nGC : G ≠ R + 1 := Nat.ne_of_lt (Nat.lt_succ_of_lt hGR)
  have nDR : D ≠ R := Nat.ne_of_lt hDR
  have nDC : D ≠ R + 1 := Nat.ne_of_lt (Nat.lt_succ_of_lt hDR)
  have nRC : R ≠ R + 1 := Nat.ne_of_lt (Nat.lt_succ_self R)
  have ok : GOk g := by
    refine ⟨ge.sc.kind, ge.sc.co, ge.sc.k1, ge.sc.k2, ge.sc.k3, ge.sc.k4, ge.gl, st.ok.g0, hG.cm, by show D ≠ genv.locals; rw [ge.lo]; exact hDL, ?_, fun k hk => ?_, .inr gm, fun h => ?_, st.ok.hd⟩
    · show c.s₀.heap.get? genv.locals = none
      rw [ge.lo]
      cases e1 : c.s₀.heap.get? L with
      | none => rfl
      | some o1 => rw [st₁.keep _ _ e1] at nL; cases nL
    · exact h0 k _ hk (git k (by have : k < m := hk; omega))
    · have h' : g.it m = 0 := h
      rw [gm] at h'; cases h'
  have hbase : ∀ b o, s₁.heap.get? b = some o → h₄.get? b = some o := fun b o e1 => k24 b o (hkeep b o e1)
  have gsz : s₁.gens.size < (s₁.gens.push (GenState.fresh (.func (gBody P r) genv))).size := by simp
  have loop : codeAny W.M c.A (.compLoop (.ListComp (.Name x px2) [⟨.Name x px, .Call (.Name nGi pf) [e] [] pos', [], 0⟩] scope pos) 0 (.ref G) (.ref R) env') (compPost W.M c.A E none Q (.ref R) (R + 1))
      { s₁ with heap := h₄, toks := tk₂, gens := s₁.gens.push (.fresh (.func (gBody P r) genv)) } := by
    refine codeAny_compLoop_tests (fun n s' => ∃ j I h tk gens gs ys mC, n = m + 1 - j ∧ j ≤ m ∧ s' = { s₁ with heap := h, toks := tk, gens := gens } ∧ gens[s₁.gens.size]? = some gs ∧ GPre s₁.gens gens ∧ g.GSt P r I j gs ∧ g.GHeap I j h ∧
        (j ≠ 0 → I ≠ R ∧ I ≠ R + 1 ∧ I ≠ G ∧ I ≠ D ∧ s₁.heap.get? I = none) ∧ h.IsGen G s₁.gens.size ∧ h.IsList D xs ∧ PlainL h R ys ∧ RepL h (fun _ => False) ((l.take j).map .int) ys.toList ∧ h.Ns (R + 1) mC ∧ (∀ b o, s₁.heap.get? b = some o → h.get? b = some o)) ?_ (m + 1)
      ⟨0, 0, h₄, tk₂, _, _, #[], _, rfl, Nat.zero_le _, rfl, Array.getElem?_push_size .., GPre.push rfl, ⟨rfl, .inl ⟨rfl, rfl⟩⟩, ?_, fun h => absurd rfl h, hgen.keeps k24, ⟨_, hbase _ _ hp.isList.choose_spec.1, hp.isList.choose_spec.2⟩, hR4, by simp [RepL], hC4, hbase⟩ (by intro _; rfl)
    · rintro n s' ⟨j, I, h, tk, gens, gs, ys, mC, rfl, hj, rfl, hgs, hpre, hst', hgh, hI, hgen', hD', hR', hr', hC', hkeep'⟩
      have hB : g.Base h := fun b o e1 => hkeep' b o (st₁.keep b o e1)
      have hitem : g.DIn j h := fun _ => by
        obtain ⟨v, hv, rv⟩ := hr.get (i := j) (p := .int (g.it j)) (by rw [List.getElem?_map, git j hj]; rfl)
        simp only [Rep] at rv
        obtain ⟨t, rfl⟩ := rv
        exact ⟨xs, t, hD', by simpa using hv⟩
      have hDl : (h.get? D).isSome = true := by obtain ⟨o1, e1, _⟩ := hD'; rw [e1]; rfl
      have preSet : ∀ gens' gs', gs'.bare = true → GenTo gens gens' s₁.gens.size gs' → GPre s₁.gens gens' := fun gens' gs' hb ht => ⟨fun hx => ht.bare hb (hpre.1 hx), fun p q hq => by
        have hp' : p ≠ s₁.gens.size := fun e1 => by rw [e1, Array.getElem?_eq_none (Nat.le_refl _)] at hq; cases hq
        rw [ht.other p hp']; exact hpre.2 p q hq⟩
      refine gen_next (g := g) (A := c.A) (s := { s₁ with heap := h, toks := tk, gens := gens }) ok rfl (by have := st.ok.rm.1; omega) hgen' hgs hst' hgh hitem hDl hB (by show j < m + 1; omega) ?_ ?_
      · intro t I' h' tk' gens' gs' h127 ht hbare i1 i2 hk hst'' hgh'
        have hI' : I' ≠ R ∧ I' ≠ R + 1 ∧ I' ≠ G ∧ I' ≠ D ∧ s₁.heap.get? I' = none := by
          by_cases hj0 : j = 0
          · have hn0 : h.get? I' = none := i2 hj0
            refine ⟨fun e1 => ?_, fun e1 => ?_, fun e1 => ?_, fun e1 => ?_, ?_⟩
            · obtain ⟨o1, _, e2, _⟩ := hR'; rw [← e1, hn0] at e2; cases e2
            · obtain ⟨o1, _, _, e2, _⟩ := hC'; rw [← e1, hn0] at e2; cases e2
            · obtain ⟨o1, _, _, e2, _⟩ := hgen'; rw [← e1, hn0] at e2; cases e2
            · rw [← e1, hn0] at hDl; cases hDl
            · cases e2 : s₁.heap.get? I' with
              | none => rfl
              | some o1 => rw [hkeep' _ _ e2] at hn0; cases hn0
          · rw [i1 hj0]; exact hI hj0
        obtain ⟨iR, iC, iG, iD, iN⟩ := hI'
        have gL : g.L = L := ge.lo
        have hk' : ∀ b o, b ≠ L → b ≠ I' → h.get? b = some o → h'.get? b = some o := fun b o h1 h2 e1 => hk b o (by rw [gL]; exact h1) h2 e1
        have hjm : j < m := by
          apply Classical.byContradiction
          intro hn
          have : j = m := by omega
          subst this
          exact h127 (Nat.le_refl _) gm
        have hCk : h'.Ns (R + 1) mC := hC'.at' fun o1 e1 => hk' _ _ (Ne.symm nLC) (Ne.symm iC) e1
        refine wpAny_assign_Name (wpAny_storeName_local (env := env') hkx hCk (fun h₅ hn₅ hs₅ => ?_) (by rw [hfn]; rfl))
        rw [List.forIn_nil]
        refine wpAny_pure ?_
        rw [if_pos rfl]
        refine wpAny_Name (wpAny_loadName_local (env := env') hfn hkx hn₅ (if_pos rfl) ?_) hxd
        have hk5 : ∀ b o, b ≠ L → b ≠ I' → b ≠ R + 1 → h.get? b = some o → h₅.get? b = some o := fun b o h1 h2 h3 e1 => hs₅.extBut b o h3 (hk' b o h1 h2 e1)
        obtain ⟨oR, nR, eR, rR⟩ := hR'
        have hR5 : PlainL h₅ R ys := ⟨oR, nR, hk5 R oR (Ne.symm nLR) (Ne.symm iR) nRC eR, rR⟩
        refine list_append_plainL hR5 (fun h₆ hp₆ hs₆ => ?_) (by
          have := hr'.length
          simp only [List.length_map, List.length_take, Array.length_toList] at this
          omega)
        have hk6 : ∀ b o, b ≠ L → b ≠ I' → b ≠ R + 1 → b ≠ R → h.get? b = some o → h₆.get? b = some o := fun b o h1 h2 h3 h4 e1 => hs₆.extBut b o h4 (hk5 b o h1 h2 h3 e1)
        refine ⟨m + 1 - (j + 1), by omega, j + 1, I', h₆, _, gens', gs', _, _, rfl, hjm, rfl, ht.at', preSet gens' gs' hbare ht, hst'', ?_, fun _ => ⟨iR, iC, iG, iD, iN⟩, ?_, ?_, hp₆, ?_, hn₅.sameBut hs₆ (Ne.symm nRC), fun b o e1 => ?_⟩
        · unfold GCtx.GHeap at hgh' ⊢
          rw [if_neg (by omega)] at hgh' ⊢
          refine ⟨mid_agree hgh'.1 (fun o1 e1 => ?_) (fun o1 e1 => ?_), hgh'.2⟩
          · have hL5 : h₅.get? g.L = some o1 := hs₅.extBut _ _ (by rw [gL]; exact nLC) e1
            exact hs₆.extBut _ _ (by rw [gL]; exact nLR) hL5
          · exact hs₆.extBut _ _ iR (hs₅.extBut _ _ iC e1)
        · obtain ⟨o1, nm, qn, e1, r1⟩ := hgen'
          exact ⟨o1, nm, qn, hk6 G o1 (Ne.symm hLG) (Ne.symm iG) nGC nGR e1, r1⟩
        · obtain ⟨o1, e1, r1⟩ := hD'
          exact ⟨o1, hk6 D o1 hDL (Ne.symm iD) nDC nDR e1, r1⟩
        · have e1 : (l.take (j + 1)).map PV.int = (l.take j).map .int ++ [.int (g.it j)] := by
            rw [List.take_add_one, git j hj]; simp
          rw [e1, Array.toList_push]
          refine (hr'.flatI).append ?_
          simp only [RepL, and_true, Rep]
          refine ⟨t, ?_⟩
          rw [show g.yv j = g.it j from if_pos hjm]
        · have hbs : b ≠ L := fun e2 => by rw [e2, nL] at e1; cases e1
          have hbI : b ≠ I' := fun e2 => by rw [e2, iN] at e1; cases e1
          have hbR : b < R := lt2 _ _ (hkeep _ _ e1)
          exact hk6 b o hbs hbI (Nat.ne_of_lt (Nat.lt_succ_of_lt hbR)) (Nat.ne_of_lt hbR) (hkeep' _ _ e1)
      · intro hjm h127 I' h' tk' gens' ht i1 i2 hk
        have hjm' : j = m := hjm
        have gL : g.L = L := ge.lo
        have hI' : I' ≠ R ∧ I' ≠ R + 1 ∧ s₁.heap.get? I' = none := by
          by_cases hj0 : j = 0
          · have hn0 : h.get? I' = none := i2 hj0
            refine ⟨fun e1 => ?_, fun e1 => ?_, ?_⟩
            · obtain ⟨o1, _, e2, _⟩ := hR'; rw [← e1, hn0] at e2; cases e2
            · obtain ⟨o1, _, _, e2, _⟩ := hC'; rw [← e1, hn0] at e2; cases e2
            · cases e2 : s₁.heap.get? I' with
              | none => rfl
              | some o1 => rw [hkeep' _ _ e2] at hn0; cases hn0
          · rw [i1 hj0]; have := hI hj0; exact ⟨this.1, this.2.1, this.2.2.2.2⟩
        obtain ⟨iR, iC, iN⟩ := hI'
        have hk' : ∀ b o, b ≠ L → b ≠ I' → h.get? b = some o → h'.get? b = some o := fun b o h1 h2 e1 => hk b o (by rw [gL]; exact h1) h2 e1
        refine ⟨mC, hC'.at' fun o1 e1 => hk' _ _ (Ne.symm nLC) (Ne.symm iC) e1, fun h₉ hs₉ => hfin _ _ gens' (k₁.gens_eq ▸ preSet gens' _ rfl ht) ?_ ?_⟩
        · refine k₁.trG ?_
          refine ⟨h₉, tk', rfl, fun b o e1 => hs₉.extBut b o (fun e2 => ?_) (hk' b o (fun e2 => ?_) (fun e2 => ?_) (hkeep' _ _ e1))⟩
          · have hbR : b < R := lt2 _ _ (hkeep _ _ e1)
            rw [e2] at hbR
            exact absurd hbR (Nat.not_lt.mpr (Nat.le_succ R))
          · rw [e2] at e1
            rw [show s₁.heap.get? L = some o from e1] at nL; cases nL
          · rw [e2] at e1
            rw [show s₁.heap.get? I' = some o from e1] at iN; cases iN
        · simp only [Rep]
          obtain ⟨oR, nR, eR, rR⟩ := hR'
          refine ⟨R, ys, rfl, fun z => ?_, ⟨oR, nR, hs₉.extBut _ _ nRC (hk' R oR (Ne.symm nLR) (Ne.symm iR) eR), rR⟩, hjm' ▸ hr'.flatI⟩
          have := st₁.yd R z
          obtain ⟨o1, e1⟩ := Option.isSome_iff_exists.mp this
          exact absurd (lt2 _ _ (hkeep _ _ e1)) (Nat.lt_irrefl R)
    · unfold GCtx.GHeap
      rw [if_pos rfl]
      refine ⟨mm, ?_, hmm⟩
      rw [show g.L = L from ge.lo]
      exact hns.keeps k24
  exact codeAny_compStart_list loop (wpAny_pyIter_gen (hgen.keeps k24) loop)
end
end Mine
end partG8

section partJ0
open PySem PySem.W PyProof.Rows
open PySem.Calls (docDef)
set_option maxRecDepth 100000
set_option linter.unusedVariables false
namespace Mine
theorem fun_post {W : Wd} {name : Str} {params : Arguments} {body : List Stmt} {scope : Scope} {k : Nat} {ps : List PV} (O gl N : List Str) (ρ : List (Option PV)) (hd : HasDef W name params body scope)
    (hsc : scopeOk scope (params.args.map (·.arg) ++ O) gl = true) (hlen : (params.args.map (·.arg)).length = ps.length)
    (hbind : ∀ pm cd doc vals, vals.length = ps.length → bindArgs (docDef name params body scope pm cd doc) ⟨vals, []⟩ = pure ((params.args.map (·.arg)).zip vals))
    (hN' : params.args.map (·.arg) ++ O = N) (hρ' : ps.map some ++ (O.map fun _ => none) = ρ)
    {s : Shared} {A : Around} {X : Addr → Prop} {vals : List Value} (hg : W.g s.heap) (hr : Room A (k + 1)) (hA : A.handled = none) (hX : ∀ b, X b → (s.heap.get? b).isSome = true) (hvals : RepL s.heap X ps vals) {post : Post}
    (hb : ∀ c : Fc, c.Fr → c.k = k → c.N = N → c.gl = gl → c.env.scope = scope → c.s₀ = s → c.X₀ = X → Run W c ⟨[], [], ρ, false⟩ body post) {f : Addr} (hf0 : W.mg name = some (.ref f)) {Q E : Value → Shared → Prop} (hQ : ∀ fl s', post fl s' → ∃ v, fl = .ret v ∧ Q v s') :
    wpAny W.M A (PySem.call (.ref f) vals) Q E s := by
  subst hN' hρ'
  obtain ⟨f', hmg, hf⟩ := hd
  have ef : f = f' := by rw [hf0] at hmg; injection hmg with e; injection e
  subst ef
  simp only [scopeOk, Bool.and_eq_true, decide_eq_true_eq, List.all_eq_true, Bool.or_eq_true, beq_iff_eq, Bool.not_eq_true'] at hsc
  obtain ⟨⟨⟨⟨⟨hk, hN⟩, hgl⟩, hnd⟩, hco⟩, hgen⟩ := hsc
  obtain ⟨o, pm, cd, doc, ho, hdt, hcd⟩ := hf s.heap hg
  have hvl := hvals.length
  have hzip : ((params.args.map (·.arg)).zip vals).map (·.1) = params.args.map (·.arg) := by
    rw [List.map_fst_zip]; omega
  have hkind : ∀ x ∈ params.args.map (·.arg) ++ O, scope.names.lookup x = some .local ∨ (scope.names.lookup x = some .cell ∧ ((cellsFrom (s.heap.objs.size + 1) scope.names []).lookup x).isSome = true) := fun x hx => by
    rcases (hN x hx).1 with h | h
    · exact .inl h
    · exact .inr ⟨h, cellsFrom_some x _ _ _ (.inr (mem_of_lookup h))⟩
  refine wpAny_call (codeAny_call_cells (fd := docDef name params body scope pm cd doc) (body := body) (binds := (params.args.map (·.arg)).zip vals) (by have := hr.1; omega) ho hdt (W.nl _ hg) hcd rfl (hbind pm cd doc vals hvl.symm) rfl
    (fun x hx => hkind x.1 (List.mem_append_left _ (by rw [← hzip]; exact List.mem_map.mpr ⟨x, hx, rfl⟩))) (fun s₁ ic => ?_) hco hgen hk)
  let env := callEnvC (docDef name params body scope pm cd doc) s.heap.objs.size f
  let c : Fc := { env := env, A := A.deeper env, s₀ := s, X₀ := X, N := params.args.map (·.arg) ++ O, gl := gl, fr := true, k := k }
  let X' : Addr → Prop := fun b => X b ∨ b = env.locals ∨ ∃ n, env.cells.lookup n = some b
  have hfr : c.Fr := ⟨rfl, ic.apart, ic.above, ic.toInCall.fresh⟩
  have hok : c.Ok W := by
    refine ⟨hk, hkind, fun x hx => (hgl x hx).1, hnd, ⟨fun x hx => (hN x hx).2, fun x hx => (hgl x hx).2⟩, rfl, rfl, hA, hg, hX, ?_⟩
    exact ⟨by show A.depth + 1 + k < _; have := hr.1; omega, by show A.units + 3 + 10 * k < _; have := hr.2; omega⟩
  have hst : St W c X' { σ := [], K := [], ρ := ps.map some ++ O.map fun _ => none } s₁ := by
    refine ⟨hok, ic.toInCall.same, ic.toInCall.keep, ⟨_, _, ic.toInCall.ns, ic.cell, fun x p hx => ?_⟩, .inr (.inl rfl), fun n d e => .inr (.inr ⟨n, e⟩), fun b z => .inl z, fun q hq => (nomatch hq), List.nodup_nil, fun q hq => (nomatch hq), fun b z => ?_⟩
    · obtain ⟨i, h1, h2⟩ := at_params hlen hx
      obtain ⟨v, hv, rv⟩ := hvals.get h2
      have hm : (x, v) ∈ (params.args.map (·.arg)).zip vals := List.mem_iff_getElem?.mpr ⟨i, by rw [List.getElem?_zip_eq_some]; exact ⟨h1, hv⟩⟩
      have hnd' : (((params.args.map (·.arg)).zip vals).map (·.1)).Nodup := by rw [hzip]; exact (List.nodup_append.mp hnd).1
      refine ⟨v, fun hl => bindL_get _ x v hl _ _ hnd' hm, fun hl => bindC_get _ x v (fun e => by rw [hl] at e; cases e) _ _ hnd' hm, rv.mono (fun b o _ e => ic.toInCall.keep b o e) fun b z hz => ?_⟩
      have hlt : b < s.heap.objs.size := by obtain ⟨o', e'⟩ := Option.isSome_iff_exists.mp hz; exact Heap.lt_size e'
      rcases z with z | z | ⟨n, z⟩
      · exact z
      · have := ic.toInCall.fresh; exact absurd (z ▸ hlt) (Nat.not_lt.mpr this)
      · exact absurd (Nat.lt_of_lt_of_le hlt ic.toInCall.fresh) (Nat.not_lt.mpr (Nat.le_of_lt (ic.above n b (mem_of_lookup z))))
    · rcases z with z | z | ⟨n, z⟩
      · obtain ⟨o', e'⟩ := Option.isSome_iff_exists.mp (hX b z)
        rw [ic.toInCall.keep _ _ e']; rfl
      · obtain ⟨o', _, _, e', _⟩ := ic.toInCall.ns
        rw [z]; show (s₁.heap.get? env.locals).isSome = true; rw [e']; rfl
      · obtain ⟨o', e', _⟩ := ic.cell n b z
        rw [e']; rfl
  refine wpAny_mono ((hb c hfr rfl rfl rfl rfl rfl rfl).go X' s₁ hst _) (fun fl s' hp => ?_) fun _ _ e => e
  obtain ⟨v, rfl, hq⟩ := hQ fl s' hp
  exact hq
end Mine
end partJ0

section partC1
open PySem PySem.W PyProof.Rows
set_option maxRecDepth 100000
set_option linter.unusedVariables false
namespace Mine
theorem sl_to {α : Type} (l : List α) (n : Nat) : sl l none (some (n : Int)) = l.take n := by
  unfold sl
  have e1 : clip l.length (some (n : Int)) l.length = min n l.length := by simp only [clip]; omega
  rw [e1]
  show (l.drop 0).take (min n l.length - 0) = _
  rw [List.drop_zero, Nat.sub_zero]
  by_cases h : n ≤ l.length
  · rw [Nat.min_eq_left h]
  · rw [Nat.min_eq_right (by omega), List.take_of_length_le (Nat.le_refl _), List.take_of_length_le (by omega)]
theorem sl_back {α : Type} (l : List α) (n : Nat) (hn : 0 < n) : sl l none (some (-(n : Int))) = l.take (l.length - n) := by
  unfold sl
  have e1 : clip l.length (some (-(n : Int))) l.length = l.length - n := by simp only [clip]; omega
  rw [e1]
  show (l.drop 0).take (l.length - n - 0) = _
  rw [List.drop_zero, Nat.sub_zero]
theorem sl_from {α : Type} (l : List α) (n : Nat) : sl l (some (n : Int)) none = l.drop n := by
  unfold sl
  have e1 : clip l.length (some (n : Int)) 0 = min n l.length := by simp only [clip]; omega
  rw [e1]
  show (l.drop (min n l.length)).take (l.length - min n l.length) = _
  by_cases h : n ≤ l.length
  · rw [Nat.min_eq_left h, List.take_of_length_le (by simp)]
  · rw [Nat.min_eq_right (by omega), List.drop_of_length_le (Nat.le_refl _), List.drop_of_length_le (by omega)]; simp
theorem sl_mid {α : Type} (l : List α) (i n : Nat) (hn : 0 < n) : sl l (some (i : Int)) (some (-(n : Int))) = (l.drop i).take (l.length - n - i) := by
  unfold sl
  have e1 : clip l.length (some (-(n : Int))) l.length = l.length - n := by simp only [clip]; omega
  have e2 : clip l.length (some (i : Int)) 0 = min i l.length := by simp only [clip]; omega
  rw [e1, e2]
  by_cases h : i ≤ l.length
  · rw [Nat.min_eq_left h]
  · rw [Nat.min_eq_right (by omega), List.drop_of_length_le (Nat.le_refl _), List.drop_of_length_le (by omega)]; simp
noncomputable def ends : List (List Nat) := [[10], [13], [13, 10]]
theorem compRes_all (n : Nat) (el : Nat → PV) : compRes n (fun _ => true) el = (List.range n).map el := by
  unfold compRes; rw [List.filter_eq_self.mpr (by simp)]
theorem range_getD {α β : Type} (l : List α) (d : α) (f : α → β) : (List.range l.length).map (fun i => f (l.getD i d)) = l.map f := by
  apply List.ext_getElem
  · simp
  · intro i h1 h2
    simp at h1 h2
    simp [List.getD, h1]
theorem getD_map {α β : Type} (l : List α) (f : α → β) (d : β) (i : Nat) (h : i < l.length) : (l.map f).getD i d = f l[i] := by
  rw [List.getD_eq_getElem?_getD, List.getElem?_map, List.getElem?_eq_getElem h]; rfl
theorem getD_nat {α : Type} (l : List α) (d : α) (i : Nat) (h : i < l.length) : l.getD i d = l[i] := by
  rw [List.getD_eq_getElem?_getD, List.getElem?_eq_getElem h]; rfl
theorem sub_lst_neg {W : Wd} {l : List PV} {i : Int} {p : PV} (h0 : i < 0) (h1 : -(l.length : Int) ≤ i) (h2 : -(2 ^ 63) ≤ i) (hp : l[(i + l.length).toNat]? = some p) : SubR W (.lst l) (.int i) p := .mk fun A s X u v hd rm g x y hX Q E h => by
  simp only [Rep] at x y
  obtain ⟨b, xs, rfl, hxl, hl, rl⟩ := x
  obtain ⟨t, rfl⟩ := y
  obtain ⟨w, hw, rw'⟩ := rl.get hp
  have e1 : xs.size = l.length := by rw [rl.length, Array.length_toList]
  exact ⟨"list", _, slot_list_getitem.lookup, hl.isList.typeIs, wpAny_getItem_list_neg hl.isList h0 (by rw [e1]; exact h1) h2 (by rw [e1]; simpa using hw) (h _ _ (Kp.rfl' _) rw')⟩
theorem drop_app {α : Type} (a b : List α) : (a ++ b).drop a.length = b := by simp
theorem run_as {W : Wd} {c : Fc} {a a' : AS} {sts : List Stmt} {post : Post} (e : a = a') (h : Run W c a' sts post) : Run W c a sts post := e ▸ h
section
variable {W : Wd} {c : Fc} {a : AS}
theorem ev_negE {e : Expr} {i : Int} {pos : Pos} (he : Ev W c a e (.int i)) : Ev W c a (.UnaryOp .USub e pos) (.int (-i)) := .mk fun X s x Q E h => by
  refine wpAny_UnaryOp (he.go X s x _ _ fun v s₁ k₁ r₁ => ?_)
  simp only [Rep] at r₁
  obtain ⟨t, rfl⟩ := r₁
  exact neg_int (h _ _ (k₁.tr (Kp.tok s₁ _)) (by simp only [Rep]; exact ⟨_, rfl⟩))
theorem evBG_lo {e b σ K ρ} (h : EvBG W c ⟨σ, K, ρ, true⟩ e b) : EvBG W c ⟨σ, K, ρ, false⟩ e b := .mk fun X s st Q E hh => h.go X s st.toLoose Q E hh
theorem evBG_as {e : Expr} {p q : Bool} (h : EvBG W c a e p) (hpq : p = q) : EvBG W c a e q := hpq ▸ h
end
theorem mem_len {x : List Nat} {L : List (List Nat)} (h : x ∈ L) : x.length ≤ L.flatten.length := by
  obtain ⟨s, t, e⟩ := List.append_of_mem h
  rw [e]; simp; omega
noncomputable abbrev NL (s : List Nat) : List Int := s.map fun n : Nat => (n : Int)
theorem NL_pv (s : List Nat) : (NL s).map PV.int = s.map fun n : Nat => PV.int n := by simp [NL]
theorem evI_rangeN {W : Wd} {c : Fc} {a : AS} {one : Bool} {x : Str} {pos pos' : Pos} {e : Expr} {n : Nat} {gl : List Str} 
    (he' : eval (.Call (.Name x pos') [e] [] pos) c.env = (do callWith pos (← eval (.Name x pos') c.env) [] (backTo pos (starEach [e] c.env)) (backToKw pos (keywordEach [] c.env))))
    (hst : starEach [e] c.env = [(false, eval e c.env)])
    (hgl : c.gl = gl) (hx : x ∈ gl) (hg : W.mg x = none ∧ W.mb x = some (.type "range")) (he : Ev W c a e (.int n)) (h1 : n ≤ sizeLine) :
    EvI W c a (.Call (.Name x pos') [e] [] pos) n (fun i => .int i) one := by
  have := evI_range (one := one) he' hst hgl hx hg he (by omega) (by omega)
  rwa [Int.toNat_natCast] at this
theorem GHas.pre {g : GCtx} {P : Nat → Pos} {r : List Stmt} {G : Addr} {i k : Nat} {I : Addr} {K : List (Addr × Obj)} {gens gens' : Array GenState} (x : GHas g P r G i k I K gens) (h : GPre gens gens') : GHas g P r G i k I K gens' := by
  obtain ⟨gs, h1, h2⟩ := x.gs
  exact ⟨⟨gs, h.2 _ _ h1, h2⟩, x.kL, x.kI, x.kG, x.heap⟩
theorem sum_le_of {l : List (List Nat)} {B : Nat} (h : ∀ x ∈ l, x.length ≤ B) : l.flatten.length ≤ B * l.length := by
  induction l with
  | nil => simp
  | cons x l ih =>
    rw [List.flatten_cons, List.length_append, List.length_cons, Nat.mul_succ]
    have := h x (by simp)
    have := ih fun y hy => h y (List.mem_cons_of_mem _ hy)
    omega
end Mine
end partC1

section partC2
open PySem PySem.W PyProof.Rows
open PySem.Spec (lookup)
open PyProof.V
set_option maxRecDepth 100000
set_option linter.unusedVariables false
namespace Mine
section
variable {W : Wd} {c : Fc} {a : AS}

theorem rn_dict {x : Str} {px dpos pos : Pos} {keys : List (Option Expr)} {values : List Expr} {D : List (PyData × PyData)} {rest : List Stmt} {post : Post} {N : List Str} {σ : List (Addr × List PV)} {K : List (Addr × Obj)} {ρ : List (Option PV)} {ρ' : Addr → List (Option PV)}
    (hs : swapsWith (.Dict keys values dpos) (some (.Name x px)) pos.line c.env = pure false) (hD : litPairs keys values = some D) (hk : strKeyed D = true) (hn : (strKeysOf D).Nodup)
    (hall : keys.all (·.isSome) = true) (hl : keys.length = values.length) (h0 : keys ≠ []) (hlen : keys.length ≤ 15) (hf : c.Fr) (hN : c.N = N) (hput : ∀ d, Put N ρ x (.raw (.ref d)) (ρ' d))
    (h : ∀ d o, TabObj (strKind W.prog W.w) PyData.str D o → (d == sysModules) = false → d ∉ K.map (·.1) → Run W c ⟨σ, (d, o) :: K, ρ' d, false⟩ rest post) :
    Run W c ⟨σ, K, ρ, false⟩ (.Assign [.Name x px] (.Dict keys values dpos) pos :: rest) post := .mk fun X s st E => by
  refine cons_of (wpAny_Assign_Name (hs := hs) (Dict_lits_str hD hk hn hall hl h0 hlen fun d o h₁ tk hd ho hT hkeep => ?_))
  have hnew : s.heap.get? d = none := at_size_none hd
  obtain ⟨st', _, _, hK, _⟩ := st.take (I := d) (o := o) ⟨h₁, tk, rfl, hkeep⟩ hnew ho
  have hlow : (d == sysModules) = false := by
    have h3 : mainGlobals < s.heap.objs.size := (W.ns _ st.g).lt
    have h4 : sysModules < mainGlobals := by decide
    have h5 : sysModules < d := Nat.lt_of_lt_of_le (Nat.lt_trans h4 h3) hd
    exact beq_eq_false_iff_ne.mpr (Nat.ne_of_gt h5)
  exact store_name st' (hf.sto _) (hN ▸ hput d) (by simp only [Rep]) fun s₂ st₂ _ E' => (h d o hT hlow hK).go _ s₂ st₂ E'

/-- a key in a kept table -/
theorem evB_inD {N : List Str} {x : Str} {e : Expr} {px pos : Pos} {d : Addr} {o : Obj} {D : List (PyData × PyData)} {k : List Nat} {b : Bool} (hm : behindInMarks .In (.Name x px) = false) (hN : c.N = N) (hx : At N a.ρ x (.raw (.ref d))) (hK : (d, o) ∈ a.K)
    (hT : TabObj (strKind W.prog W.w) PyData.str D o) (hlo : (d == sysModules) = false) (he : Ev W c a e (.str k)) (hb : (lookup (.str (strOf k)) D).isSome = b) : EvB W c a (.Compare e [.In] [.Name x px] pos) b := .mk fun X s st Q E h => by
  subst hb
  refine wpAny_isTrue_Compare1 (hm := hm) (he.go X s st _ _ fun u s₁ k₁ r₁ => wpAny_Name (load_name (st.keeps k₁) (hN ▸ hx) fun v hv => ?_) (st.ok.db.1 x (hN ▸ hx).mem))
  simp only [Rep] at r₁ hv
  subst hv
  obtain ⟨t, rfl⟩ := r₁
  obtain ⟨kvs, hd, hf⟩ := hT
  exact in_strTab (TabAt.ofObj hlo ((st.keeps k₁).kk _ hK).2 hd hf) (wpAny_truthy_bool (h _ (k₁.tr (Kp.tok s₁ _))))

/-- a kept table's item -/
theorem ev_itemD {N : List Str} {x : Str} {e : Expr} {px pos : Pos} {d : Addr} {o : Obj} {D : List (PyData × PyData)} {k : List Nat} {i : Int} (hN : c.N = N) (hx : At N a.ρ x (.raw (.ref d))) (hK : (d, o) ∈ a.K)
    (hT : TabObj (strKind W.prog W.w) PyData.str D o) (hlo : (d == sysModules) = false) (he : Ev W c a e (.str k)) (hb : lookup (.str (strOf k)) D = some (.int i))
    (hs : ∀ t, subscripted e false (.ref d) (.str (strOf k) t) = operate [.ref d, .str (strOf k) t] (getItem (.ref d) (.str (strOf k) t))) : Ev W c a (.Subscript (.Name x px) e pos) (.int i) := .mk fun X s st Q E h => by
  refine Subscript_ (wpAny_Name (load_name st (hN ▸ hx) fun v hv => he.go X s st _ _ fun u s₁ k₁ r₁ => ?_) (st.ok.db.1 x (hN ▸ hx).mem))
  simp only [Rep] at r₁ hv
  subst hv
  obtain ⟨t, rfl⟩ := r₁
  obtain ⟨kvs, hd, hf⟩ := hT
  refine item_strTab (TabAt.ofObj hlo ((st.keeps k₁).kk _ hK).2 hd hf) hb (fun v hv => ?_) (hs t)
  obtain ⟨t', rfl⟩ := Flat.int_inv hv
  exact h _ _ (k₁.tr (Kp.tok s₁ _)) (by simp only [Rep]; exact ⟨_, rfl⟩)
/-- both branches lead to one state -/
theorem rn_if_to {test : Expr} {body orelse rest : List Stmt} {pos : Pos} {post : Post} {b : Bool} (a₁ : AS) (ht : EvB W c a test b) (h1 : b = true → ∀ post', Run W c a₁ rest post' → Run W c a body (Then W c rest post')) (h2 : b = false → ∀ post', Run W c a₁ rest post' → Run W c a orelse (Then W c rest post'))
    (h : Run W c a₁ rest post) : Run W c a (.If test body orelse pos :: rest) post :=
  rn_if ht (fun e => h1 e post h) (fun e => h2 e post h)
end
end Mine
end partC2

section partC3
open PySem PySem.W PyProof.Rows
open PySem.MeetsSeq PySem.SeqRoads2 PySem.SeqAt
set_option maxRecDepth 100000
set_option linter.unusedVariables false
namespace Mine
theorem RepL.rep {h : Heap} {X : Addr → Prop} {ps : List PV} {vs : List Value} (x : RepL h X ps vs) : ∀ n : Nat, RepL h X (List.replicate n ps).flatten (List.replicate n vs).flatten
  | 0 => by simp [RepL]
  | n + 1 => by
    rw [List.replicate_succ, List.replicate_succ, List.flatten_cons, List.flatten_cons]
    exact RepL.append x (RepL.rep x n)
theorem bin_mull {W : Wd} {a : List PV} {n : Nat} (hs : a.length * n ≤ 100000) (hn : n ≤ 100000) : BinR W .Mult (.lst a) (.int n) (.lst (List.replicate n a).flatten) := .mk fun A s X u v hd rm g x y hX Q E h => by
  simp only [Rep] at x y
  obtain ⟨l, xs, rfl, hxl, hl, rl⟩ := x
  obtain ⟨t, rfl⟩ := y
  obtain ⟨⟨cls, dd, data, sl⟩, ho, hc, k, hd'⟩ := hl.isList
  simp only at hc hd'
  subst hc hd'
  have e1 := rl.length
  have hx : xs.size * n ≤ 100000 := by simp at e1; rw [← e1]; exact hs
  have hz : sizeLine = 16777216 := rfl
  obtain ⟨x, hxn⟩ : ∃ x : Int, x = (n : Int) := ⟨_, rfl⟩
  have hxt : x.toNat = n := by omega
  rw [← hxn]
  have hsz' : xs.size * x.toNat ≤ 2 ^ 24 := by rw [hxt]; omega
  refine wpAny_binaryOp_repeat_ref (T := "list") (U := "int") (by decide) ⟨_, ho, rfl⟩ (fun s' => typeIs_int s' x t) noFill_list_mul F.fills_int_mul F.slot_int_rmul repeat_list F.slot_int_index.lookup
    (call_meets F.slot_int_rmul (typeIs_int s x t) F.entry_int_rmul (F.args_int_rmul_2 _ _) (lm_int_rmul_list_any x t l xs k dd sl)
      ⟨ho, rfl, ⟨_, ho, rfl⟩, call_meets F.slot_list_mul ⟨_, ho, rfl⟩ F.entry_list_mul (F.args_list_mul_2 _ _)
        (lm_list_mul_any l xs k dd sl x t (by simp [Builtin.List.listFitsIndex]; omega) (by omega) (by simp [Builtin.List.listTooLong, sizeLine]; omega))
        ⟨ho, ?_⟩⟩)
  refine h _ _ kp_heap ?_
  simp only [Rep]
  refine ⟨_, _, rfl, fresh_not hX, ⟨_, _, Heap.get?_push_size _ rfl, rfl, rfl, rfl⟩, ?_⟩
  rw [listMul_foldl_if, hxt]
  exact (RepL.rep rl n).keeps kp_heap

/-- a scope relabelled, told by the enclosing scope alone -/
noncomputable def relS (sc scope : Scope) : Scope := relabel scope { scope := sc, locals := 0, globals := 0, cells := [] }
theorem rel_eq {scope sc : Scope} {env : Env} (h : env.scope = sc) : relabel scope env = relS sc scope := by subst h; rfl
end Mine
end partC3

section partB1
open PySem PySem.W PyProof.Rows
set_option maxRecDepth 100000
set_option linter.unusedVariables false
namespace Mine
noncomputable def progA : Program := PySem.Challenge.pw_st0016_02
noncomputable def stAt (p : Program) (i : Nat) : Stmt := p.main.body.getD i (.Pass ⟨0,0,0,0⟩)
noncomputable def fbody : Stmt → List Stmt
  | .FunctionDef _ _ b _ _ _ _ _ _ _ => b
  | _ => []
noncomputable def fparams : Stmt → Arguments
  | .FunctionDef _ p _ _ _ _ _ _ _ _ => p
  | _ => default
noncomputable def fscope : Stmt → Scope
  | .FunctionDef _ _ _ _ _ _ s _ _ _ => s
  | _ => default

noncomputable def b1 : List Nat := [173, 847, 6150, 6155, 6156, 6157, 8203, 8204, 8205, 8288, 65279]
noncomputable def unseen (n : Nat) : Nat := if n % 27 < 11 then b1.getD (n % 27) 0 else 65013 + n % 27

theorem unseen_ok {W : Wd} (hd : HasDef W (Str.ofString "_law_unseen") (fparams (stAt progA 15)) (fbody (stAt progA 15)) (fscope (stAt progA 15))) (hchr : BN W (Str.ofString "chr") "chr") (n : Nat) :
    Fun W (Str.ofString "_law_unseen") 5 [.int n] (.str [unseen n]) := by
  refine fun_intro (k := 4) [Str.ofString "codes", Str.ofString "place"] [Str.ofString "chr"] [Str.ofString "number", Str.ofString "codes", Str.ofString "place"] [some (.int n), none, none] hd ?_ ?_ ?_ rfl rfl ?_
  · decide +kernel
  · rfl
  · intro pm cd doc vals hl
    match vals, hl with
    | [v], _ => rfl
  · intro c hf hk hN hgl hsc
    conv in fbody _ => whnf
    walk_at "asg_"
    walk_at "asg0_"
    · exact ev_bin (by walk_at "ev_") (by walk_at "ev_") (bin_mod (by decide))
    · walk_at "put_"
    have e : (n : Int).fmod 27 = ((n % 27 : Nat) : Int) := by
      rw [Int.fmod_eq_emod_of_nonneg _ (by decide)]; rfl
    rw [e]
    have hlt : n % 27 < 27 := Nat.mod_lt _ (by decide)
    have hu : unseen n = ((if n % 27 < 11 then (b1.getD (n % 27) 0 : Int) else 65013 + ((n % 27 : Nat) : Int))).toNat := by
      unfold unseen; split <;> omega
    rw [hu]
    generalize n % 27 = m at *
    refine rn_ret hf ?_
    walk_at "callB_"
    · apply evL_cons'
      · rfl
      · refine ev_if (b := decide (m < 11)) (p := .int (if m < 11 then (b1.getD m 0 : Int) else 65013 + (m : Int))) ?_ ?_ ?_
        · have h2 : decide (m < 11) = decide ((m : Int) < 11) := decide_eq_decide.mpr (by omega)
          rw [h2]
          walk_at "cmpB_"
          exact cmp_lt
        · intro hb
          have hm : m < 11 := by simpa using hb
          rw [if_pos hm]
          refine ev_sub (by walk_at "ev_") (by walk_at "ev_") (sub_lst (by omega) (by omega) ?_)
          have : ∀ m < 11, ([PV.int 173, PV.int 847, PV.int 6150, PV.int 6155, PV.int 6156, PV.int 6157, PV.int 8203, PV.int 8204, PV.int 8205, PV.int 8288, PV.int 65279] : List PV)[m]? = some (PV.int (b1.getD m 0 : Nat)) := by
            intro m hm
            match m, hm with
            | 0, _ | 1, _ | 2, _ | 3, _ | 4, _ | 5, _ | 6, _ | 7, _ | 8, _ | 9, _ | 10, _ => rfl
          simpa using this m hm
        · intro hb
          have hm : ¬ m < 11 := by simpa using hb
          rw [if_neg hm]
          walk_at "ev_"
      · walk_at "evl_"
    · refine b_chr ?_ ?_
      · split
        · omega
        · omega
      · have : ∀ m < 11, b1.getD m 0 ≤ 1114111 := by decide
        split
        · have := this m (by assumption); omega
        · omega
    · omega
end Mine
end partB1

section partB2
open PySem PySem.W PyProof.Rows
open PySem.Spec (lookup)
open PyProof.V
set_option maxRecDepth 100000
set_option linter.unusedVariables false
namespace Mine

theorem inb1_ok {W : Wd} (hd : HasDef W (Str.ofString "in_table_b1") (fparams (stAt progA 11)) (fbody (stAt progA 11)) (fscope (stAt progA 11))) (hord : BN W (Str.ofString "ord") "ord")
    {b : Addr} {S : Int → Bool} {m : Nat} (hg : W.mg (Str.ofString "b1_set") = some (.ref b)) (hS : ∀ h, W.g h → h.SetOf (intKind W.prog W.w) b S m) (n : Nat) :
    Fun W (Str.ofString "in_table_b1") 5 [.str [n]] (.bool (S n)) := by
  refine fun_intro (k := 4) [] [Str.ofString "ord", Str.ofString "b1_set"] [Str.ofString "code"] [some (.str [n])] hd ?_ ?_ ?_ rfl rfl ?_
  · decide +kernel
  · rfl
  · intro pm cd doc vals hl
    match vals, hl with
    | [v], _ => rfl
  · intro c hf hk hN hgl hsc
    conv in fbody _ => whnf
    refine rn_ret hf ?_
    refine ev_c (by with_unfolding_all rfl) ?_ (ev_glob hgl (by walk_at "mem_") hg) (cmp_in_set hS)
    walk_at "callB_"
    · walk_at "evl_"
    · exact b_ord
    · omega

theorem b3fun_ok {W : Wd} (hd : HasDef W (Str.ofString "map_table_b3") (fparams (stAt progA 13)) (fbody (stAt progA 13)) (fscope (stAt progA 13))) (hord : BN W (Str.ofString "ord") "ord")
    {b : Addr} {D : List (PyData × PyData)} (hg : W.mg (Str.ofString "b3_exceptions") = some (.ref b)) (hT : ∀ h, W.g h → IntTab W.prog W.w h b D) (n : Nat) (r : List Nat)
    (hr : lookup (.int n) D = some (.str (strOf r)) ∨ (lookup (.int n) D = none ∧ ∃ m, r = [m] ∧ Txt.lower (strOf [n]) = strOf [m])) :
    Fun W (Str.ofString "map_table_b3") 5 [.str [n]] (.str r) := by
  refine fun_intro (k := 4) [Str.ofString "r"] [Str.ofString "ord", Str.ofString "b3_exceptions"] [Str.ofString "code", Str.ofString "r"] [some (.str [n]), none] hd ?_ ?_ ?_ rfl rfl ?_
  · decide +kernel
  · rfl
  · intro pm cd doc vals hl
    match vals, hl with
    | [v], _ => rfl
  · intro c hf hk hN hgl hsc
    conv in fbody _ => whnf
    rcases hr with hr | ⟨hr, m, rfl, hm⟩
    · walk_at "asg0_"
      · refine ev_dget (p := .str r) rfl rfl rfl hT (ev_glob hgl (by walk_at "mem_") hg) (i := n) ?_ ?_
        · walk_at "callB_"
          · walk_at "evl_"
          · exact b_ord
          · omega
        · intro v hv h X
          rw [hr] at hv
          obtain ⟨t, rfl⟩ := Flat.str_inv hv
          simp only [Rep]; exact ⟨t, rfl⟩
      · walk_at "put_"
      refine rn_if (b := true) ?_ (fun _ => ?_) (fun h => by cases h)
      · walk_at "cmpB_"
        exact cmp_isnot_str
      · exact run_ret hf (p := .str r) (by walk_at "ev_") fun v s h1 h2 => ⟨v, rfl, h1, h2⟩
    · walk_at "asg0_"
      · refine ev_dget (p := .none) rfl rfl rfl hT (ev_glob hgl (by walk_at "mem_") hg) (i := n) ?_ ?_
        · walk_at "callB_"
          · walk_at "evl_"
          · exact b_ord
          · omega
        · intro v hv h X
          rw [hr] at hv
          obtain rfl := Flat.none_inv hv
          simp only [Rep]
      · walk_at "put_"
      refine rn_if (b := false) ?_ (fun h => by cases h) (fun _ => run_nil_then ?_)
      · walk_at "cmpB_"
        exact cmp_isnot_none
      · refine rn_ret hf (ev_lower rfl rfl (by walk_at "ev_") hm)
end Mine
end partB2

section partB5
open PySem PySem.W PyProof.Rows
set_option maxRecDepth 100000
set_option linter.unusedVariables false
namespace Mine

/-- what the mail's law of lines needs of the world -/
structure QWorld (W : Wd) (p1 p2 : Addr) : Prop where
  r1 : W.mg (Str.ofString "_twin_re_1") = some (.ref p1)
  r2 : W.mg (Str.ofString "_twin_re_2") = some (.ref p2)
  cr : ∃ t, W.mg (Str.ofString "CRLF") = some (.str (strOf [13, 10]) t)
  o1 : ∀ h, W.g h → PatObj h p1 code1
  o2 : ∀ h, W.g h → PatObj h p2 code2

theorem quote_ok {W : Wd} {p1 p2 : Addr} (hd : HasDef W (Str.ofString "quotedata") (fparams (stAt progA 5)) (fbody (stAt progA 5)) (fscope (stAt progA 5))) (q : QWorld W p1 p2)
    (L : List (List Nat)) (e : List Nat) (he : e = [10] ∨ e = [13] ∨ e = [13, 10]) (hL : ∀ r ∈ L, ∀ c ∈ r, c ≠ 10 ∧ c ≠ 13) (hsz : L.flatten.length + 3 * L.length ≤ 100000) :
    Fun W (Str.ofString "quotedata") 5 [.str (L.flatMap (· ++ e))] (.str (L.flatMap (fun r => dotted r ++ [13, 10]))) := by
  refine fun_intro (k := 4) [] [Str.ofString "_twin_re_1", Str.ofString "_twin_re_2", Str.ofString "CRLF"] [Str.ofString "data"] [some (.str (L.flatMap (· ++ e)))] hd ?_ ?_ ?_ rfl rfl ?_
  · decide +kernel
  · rfl
  · intro pm cd doc vals hl
    match vals, hl with
    | [v], _ => rfl
  · intro c hf hk hN hgl hsc
    conv in fbody _ => whnf
    have hz : sizeLine = 16777216 := rfl
    obtain ⟨t, hcr⟩ := q.cr
    have hel : e.length ≤ 2 := by rcases he with rfl | rfl | rfl <;> simp
    have hx : (L.flatMap (· ++ e)).length ≤ 100000 := by
      have := flat_len (e := e) L
      have h2 : e.length * L.length ≤ 2 * L.length := Nat.mul_le_mul_right _ hel
      omega
    have hy : (L.flatMap (· ++ [13, 10])).length ≤ 100000 := by
      have := flat_len (e := [13, 10]) L
      simp only [List.length_cons, List.length_nil] at this
      omega
    have hLx : L.length ≤ (L.flatMap (· ++ e)).length := by
      have := flat_len (e := e) L
      have h2 : 1 * L.length ≤ e.length * L.length := Nat.mul_le_mul_right _ (by rcases he with rfl | rfl | rfl <;> simp)
      omega
    have hLy : L.length ≤ (L.flatMap (· ++ [13, 10])).length := by
      have := flat_len (e := [13, 10]) L
      simp only [List.length_cons, List.length_nil] at this
      omega
    refine rn_ret hf ?_
    refine ev_resub (f := seek (hit1 (L.flatMap (· ++ [13, 10]))) (fun _ => 1) (L.flatMap (· ++ [13, 10])).length) rfl rfl rfl q.o1 (ev_glob hgl (by walk_at "mem_") q.r1) (ev_strl (l := [46, 46]) (by decide +kernel)) ?_
      (srch1 _ (by omega)) (by omega) (fun p i j h => seek_ok (fun i h1 h2 => ⟨by decide, by omega⟩) h) (by decide) (quote1 (k := (L.flatMap (· ++ [13, 10])).length + 1) L [] hL rfl (.inl rfl) (by omega)) ?_ ?_
    · refine ev_resub (f := seek (hit2 (L.flatMap (· ++ e))) (lng2 (L.flatMap (· ++ e))) (L.flatMap (· ++ e)).length) rfl rfl rfl q.o2 (ev_glob hgl (by walk_at "mem_") q.r2) (ev_globs hgl (by walk_at "mem_") hcr) (by walk_at "ev_")
        (srch2 _) (by omega) (fun p i j h => seek_ok (fun i h1 h2 => hit2_len h1 h2) h) (by decide) (quote2 (k := (L.flatMap (· ++ e)).length + 1) he L [] hL rfl (by omega)) (by omega) ?_
      have := subP_len (f := seek (hit2 (L.flatMap (· ++ e))) (lng2 (L.flatMap (· ++ e))) (L.flatMap (· ++ e)).length) (x := L.flatMap (· ++ e)) (r := [13, 10]) ((L.flatMap (· ++ e)).length + 1) 0
      omega
    · have := dot_len L
      omega
    · have := subP_len (f := seek (hit1 (L.flatMap (· ++ [13, 10]))) (fun _ => 1) (L.flatMap (· ++ [13, 10])).length) (x := L.flatMap (· ++ [13, 10])) (r := [46, 46]) ((L.flatMap (· ++ [13, 10])).length + 1) 0
      omega
end Mine
end partB5

section partB3
open PySem PySem.W PyProof.Rows
open PySem.Spec (lookup)
set_option maxRecDepth 100000
set_option linter.unusedVariables false
namespace Mine

noncomputable def bases : List Nat := [97, 65, 119808, 119860, 119912, 120016, 120172, 120224, 120276, 120328, 120380, 120432]
noncomputable def figB (seed deal k : Nat) : Nat := seed / 13 ^ ((k + deal) % 12) % 13
noncomputable def pairsL : List (List Nat × Nat) := [([102, 102], 64256), ([102, 105], 64257), ([102, 108], 64258), ([115, 116], 64262), ([115, 115], 223), ([110, 111], 8470), ([107, 107], 13261), ([104, 122], 13200)]
noncomputable def pairOf (k : List Nat) : Option Nat := (pairsL.find? fun x => x.1 == k).map (·.2)
noncomputable def pairsD : List (PyData × PyData) := pairsL.map fun x => (.str (strOf x.1), .int (x.2 : Nat))
theorem strOf_inj {a b : List Nat} (h : strOf a = strOf b) : a = b := by
  have := congrArg (fun s : Str => s.cps.toList) h
  simpa [strOf] using this
theorem pair_lookup (k : List Nat) : ∀ ps : List (List Nat × Nat), lookup (.str (strOf k)) (ps.map fun x => (PyData.str (strOf x.1), PyData.int (x.2 : Nat))) = ((ps.find? fun x => x.1 == k).map (·.2)).map fun v : Nat => PyData.int v
  | [] => rfl
  | (a, v) :: r => by
    rw [List.map_cons, List.find?_cons]
    show (if Spec.same (.str (strOf a)) (.str (strOf k)) = true then _ else _) = _
    have e : Spec.same (.str (strOf a)) (.str (strOf k)) = (a == k) := by
      show (strOf a == strOf k) = (a == k)
      rw [Bool.eq_iff_iff]
      simp only [beq_iff_eq]
      exact ⟨strOf_inj, congrArg strOf⟩
    rw [e]
    cases h : (a == k) with
    | true => rfl
    | false => rw [if_neg (by simp)]; exact pair_lookup k r
theorem pairOf_le {k : List Nat} {v : Nat} (h : pairOf k = some v) : v ≤ 64262 ∧ k.length = 2 := by
  unfold pairOf at h
  obtain ⟨x, hx, rfl⟩ := Option.map_eq_some_iff.mp h
  have h1 := List.mem_of_find?_eq_some hx
  have h2 : x.1 = k := by simpa using List.find?_some hx
  subst h2
  have : ∀ x ∈ pairsL, x.2 ≤ 64262 ∧ x.1.length = 2 := by decide
  exact this x h1

/-- the signs from a place on -/
noncomputable def spellB (seed deal : Nat) (pack : List Nat) (k : Nat) : List Nat :=
  if h : k < pack.length then
    (if (k + deal + figB seed deal k) % 5 = 0 then [unseen (k + seed)] else []) ++
    (if pack[k] = 46 then [46] ++ spellB seed deal pack (k + 1)
    else match (if figB seed deal k = 12 then pairOf ((pack.drop k).take 2) else none) with
      | some v => [v] ++ spellB seed deal pack (k + 2)
      | none => [bases.getD (figB seed deal k % 12) 0 + pack[k] - 97] ++ spellB seed deal pack (k + 1))
  else []
termination_by pack.length - k


theorem spelledB_ok {W : Wd} (hd : HasDef W (Str.ofString "_law_spelled") (fparams (stAt progA 16)) (fbody (stAt progA 16)) (fscope (stAt progA 16))) (hlen : BN W (Str.ofString "len") "len") (hchr : BN W (Str.ofString "chr") "chr") (hord : BN W (Str.ofString "ord") "ord")
    (hun : ∀ n : Nat, Fun W (Str.ofString "_law_unseen") 5 [.int n] (.str [unseen n]))
    (seed deal : Nat) (pack : List Nat) (hp : pack.length ≤ 1000) (hpl : ∀ n ∈ pack, n = 46 ∨ (97 ≤ n ∧ n ≤ 122)) :
    Fun W (Str.ofString "_law_spelled") 9 [.str pack, .int seed, .int deal] (.lst ((spellB seed deal pack 0).map fun n => .str [n])) := by
  refine fun_intro (k := 8) [Str.ofString "bases", Str.ofString "pairs", Str.ofString "signs", Str.ofString "at", Str.ofString "figure"] [Str.ofString "len", Str.ofString "_law_unseen", Str.ofString "chr", Str.ofString "ord"]
    [Str.ofString "pack", Str.ofString "seed", Str.ofString "deal", Str.ofString "bases", Str.ofString "pairs", Str.ofString "signs", Str.ofString "at", Str.ofString "figure"]
    [some (.str pack), some (.int seed), some (.int deal), none, none, none, none, none] hd ?_ ?_ ?_ rfl rfl ?_
  · decide +kernel
  · rfl
  · intro pm cd doc vals hl
    match vals, hl with
    | [v, u, x], _ => rfl
  · intro c hf hk hN hgl hsc
    conv in fbody _ => whnf
    have hz : sizeLine = 16777216 := rfl
    walk_at "asg_"
    refine run_as (a' := ⟨[], [], [some (.str pack), some (.int seed), some (.int deal), some (.lst (bases.map fun n : Nat => PV.int n)), none, none, none, none], false⟩) rfl ?_
    refine rn_dict (D := pairsD) (ρ' := fun d => [some (.str pack), some (.int seed), some (.int deal), some (.lst (bases.map fun n : Nat => PV.int n)), some (.raw (.ref d)), none, none, none]) rfl (by kernel_rfl!) (by decide +kernel) (by decide +kernel) (by rfl) (by rfl) (by simp) (by decide) hf hN (fun d => by walk_at "put_") fun d o hT hlo hdK => ?_
    refine rn_newlist hf hN fun b hb1 hb2 => ⟨_, by walk_at "put_", ?_⟩
    walk_at "asg_"
    refine run_while (fun n a => ∃ (x : Nat) (l : List Nat) (f : Option PV), n = pack.length + 1 - x ∧ x ≤ pack.length ∧ a = ⟨[(b, l.map fun n => .str [n])], [(d, o)], [some (.str pack), some (.int seed), some (.int deal), some (.lst (bases.map fun n : Nat => PV.int n)), some (.raw (.ref d)), some (.raw (.ref b)), some (.int x), f], false⟩ ∧
      l ++ spellB seed deal pack x = spellB seed deal pack 0 ∧ l.length ≤ 2 * x) ?_ (pack.length + 1) ⟨0, [], none, rfl, Nat.zero_le _, rfl, rfl, by simp⟩
    rintro n a ⟨x, l, f, rfl, hxp, rfl, he, hll⟩
    refine ⟨decide ((x : Int) < pack.length), ?_, fun hx => ?_, fun hx => ?_⟩
    · refine evB_c (by with_unfolding_all rfl) (by walk_at "ev_") ?_ cmp_lt
      walk_at "callB_"
      · walk_at "evl_"
      · exact b_lens (by omega)
      · omega
    · have hx' : x < pack.length := by have := of_decide_eq_true hx; omega
      have hpx := hpl _ (List.getElem_mem hx')
      have hmod12 : (x + deal) % 12 < 12 := Nat.mod_lt _ (by decide)
      walk_at "asg0_"
      · refine ev_as (q := .int (figB seed deal x : Nat)) (ev_modN (ev_divN (by walk_at "ev_") (ev_powN (x := 13) (n := (x + deal) % 12) (ev_intc rfl) (ev_modN (x := x + deal) (n := 12) (ev_as (by walk_at "ev_") (congrArg PV.int (Int.natCast_add _ _).symm)) (ev_intc rfl) (by decide)) ?_) ?_ ?_) (n := 13) (ev_intc rfl) (by decide)) rfl
        · have : Builtin.Int.intBits ((13 : Nat) : Int) = 4 := by decide +kernel
          rw [this]; omega
        · exact Nat.ne_of_gt (Nat.pow_pos (by decide))
        · have h1 : 13 ^ ((x + deal) % 12) < 2 ^ 48 := by
            calc 13 ^ ((x + deal) % 12) ≤ 13 ^ 11 := Nat.pow_le_pow_right (by decide) (by omega)
              _ < 2 ^ 48 := by decide
          have h0 : 13 ^ ((x + deal) % 12) ≠ 0 := Nat.ne_of_gt (Nat.pow_pos (by decide))
          have := (Nat.log2_lt h0).mpr h1
          omega
      · walk_at "put_"
      have hfig : figB seed deal x < 13 := Nat.mod_lt _ (by decide)
      have hget : pack[x]? = some pack[x] := List.getElem?_eq_getElem hx'
      refine rn_if_to (b := decide ((x + deal + figB seed deal x) % 5 = 0)) ⟨[(b, (l ++ (if (x + deal + figB seed deal x) % 5 = 0 then [unseen (x + seed)] else [])).map fun n => PV.str [n])], [(d, o)], [some (.str pack), some (.int seed), some (.int deal), some (.lst (bases.map fun n : Nat => PV.int n)), some (.raw (.ref d)), some (.raw (.ref b)), some (.int x), some (.int (figB seed deal x : Nat))], false⟩ ?_ (fun h2 post' h => ?_) (fun h2 post' h => ?_) ?_
      · refine evB_as (evB_c (by with_unfolding_all rfl) (p := .int ((x + deal + figB seed deal x) % 5 : Nat)) (ev_modN (x := x + deal + figB seed deal x) (n := 5) (ev_as (by walk_at "ev_") ?_) (ev_intc rfl) (by decide)) (by walk_at "ev_") cmp_eq) (decide_eq_decide.mpr (by omega))
        exact congrArg PV.int (by push_cast; rfl)
      · rw [if_pos (of_decide_eq_true h2)] at h
        walk_at "app_"
        · walk_at "call_"
          · refine evL_cons' rfl (ev_as (by walk_at "ev_") (show PV.int ((x : Int) + (seed : Int)) = PV.int ((x + seed : Nat) : Int) by simp)) evL_nil
          · exact hun (x + seed)
          · omega
        · exact OPut.here
        · simp; omega
        · refine run_nil_then ?_
          simpa using h
      · rw [if_neg (of_decide_eq_false h2)] at h
        refine run_nil_then ?_
        simpa using h
      have hsp : spellB seed deal pack x = (if (x + deal + figB seed deal x) % 5 = 0 then [unseen (x + seed)] else []) ++ (if pack[x] = 46 then [46] ++ spellB seed deal pack (x + 1)
          else match (if figB seed deal x = 12 then pairOf ((pack.drop x).take 2) else none) with
            | some v => [v] ++ spellB seed deal pack (x + 2)
            | none => [bases.getD (figB seed deal x % 12) 0 + pack[x] - 97] ++ spellB seed deal pack (x + 1)) := by
        rw [spellB, dif_pos hx']
      have hul : (if (x + deal + figB seed deal x) % 5 = 0 then [unseen (x + seed)] else ([] : List Nat)).length ≤ 1 := by split <;> simp
      generalize (if (x + deal + figB seed deal x) % 5 = 0 then [unseen (x + seed)] else ([] : List Nat)) = u at hsp hul
      have hlu : (l ++ u).length ≤ 2 * x + 1 := by simp; omega
      refine rn_if (b := decide (pack[x] = 46)) ?_ (fun hd => ?_) (fun hd => ?_)
      · refine evB_as (evB_c (by with_unfolding_all rfl) (ev_sub (by walk_at "ev_") (by walk_at "ev_") (sub_str (n := pack[x]) (by omega) (by omega) (by simpa using hget))) (ev_strl (l := [46]) (by decide +kernel)) cmp_eqs) (decide_eq_decide.mpr (by simp))
      · have hd' := of_decide_eq_true hd
        rw [if_pos hd'] at hsp
        walk_at "app_"
        · exact ev_strl (l := [46]) (by decide +kernel)
        · exact OPut.here
        · rw [List.length_map]; omega
        refine run_nil_then ?_
        walk_at "aug_"
        refine run_nil fun X s st => ⟨_, ?_, _, X, ⟨x + 1, l ++ u ++ [46], some (.int (figB seed deal x : Nat)), rfl, hx', rfl, ?_, ?_⟩, ?_⟩
        · omega
        · rw [← he, hsp]; simp
        · simp at hlu ⊢; omega
        · simpa using st
      · have hd' := of_decide_eq_false hd
        rw [if_neg hd'] at hsp
        have hslice : ∀ {a : AS} {p1 p2 p3 p4 p5 p6 p7 : Pos} {k : Nat}, At [Str.ofString "pack", Str.ofString "seed", Str.ofString "deal", Str.ofString "bases", Str.ofString "pairs", Str.ofString "signs", Str.ofString "at", Str.ofString "figure"] a.ρ (Str.ofString "pack") (.str pack) → At [Str.ofString "pack", Str.ofString "seed", Str.ofString "deal", Str.ofString "bases", Str.ofString "pairs", Str.ofString "signs", Str.ofString "at", Str.ofString "figure"] a.ρ (Str.ofString "at") (.int x) →
            Ev W c a (.Subscript (.Name (Str.ofString "pack") p1) (.Slice (some (.Name (Str.ofString "at") p2)) (some (.BinOp (.Name (Str.ofString "at") p3) .Add (.Constant (.int 2) k p4) p5)) none p6) p7) (.str ((pack.drop x).take 2)) := fun h1 h2 => by
          refine ev_as (ev_slice_str (lo := some (x : Int)) (hi := some ((x + 2 : Nat) : Int)) (ev_nm hN h1) (evP_some (ev_nm hN h2)) (evP_some (ev_as (ev_add (ev_nm hN h2) ev_int) (show PV.int ((x : Int) + 2) = PV.int ((x + 2 : Nat) : Int) by simp))) (by omega)) ?_
          rw [sl_nat]
          have : x + 2 - x = 2 := by omega
          rw [this]
        refine rn_if (b := decide (figB seed deal x = 12) && (pairOf ((pack.drop x).take 2)).isSome) ?_ (fun h2 => ?_) (fun h2 => ?_)
        · refine evB_and2 ?_ fun _ => ?_
          · refine evB_as (evB_c (by with_unfolding_all rfl) (by walk_at "ev_") (by walk_at "ev_") cmp_eq) (decide_eq_decide.mpr (by omega))
          · refine evB_inD (by with_unfolding_all rfl) hN (by walk_at "at_") List.mem_cons_self hT hlo (hslice (by walk_at "at_") (by walk_at "at_")) ?_
            rw [show pairsD = pairsL.map fun x => (PyData.str (strOf x.1), PyData.int (x.2 : Nat)) from rfl, pair_lookup]
            unfold pairOf
            cases (pairsL.find? fun y => y.1 == (pack.drop x).take 2) <;> rfl
        · simp only [Bool.and_eq_true, decide_eq_true_eq] at h2
          obtain ⟨v, hv⟩ := Option.isSome_iff_exists.mp h2.2
          rw [if_pos h2.1, hv] at hsp
          obtain ⟨hv1, hv2⟩ := pairOf_le hv
          have hlen2 : x + 2 ≤ pack.length := by
            simp at hv2; omega
          walk_at "app_"
          · walk_at "callB_"
            · refine evL_cons' rfl (ev_itemD (i := (v : Nat)) hN (by walk_at "at_") List.mem_cons_self hT hlo (hslice (by walk_at "at_") (by walk_at "at_")) ?_ (fun t => by with_unfolding_all rfl)) evL_nil
              rw [show pairsD = pairsL.map fun x => (PyData.str (strOf x.1), PyData.int (x.2 : Nat)) from rfl, pair_lookup]
              show (pairOf ((pack.drop x).take 2)).map _ = _
              rw [hv]; rfl
            · exact b_chr (by omega) (by omega)
            · omega
          · exact OPut.here
          · rw [List.length_map]; omega
          walk_at "aug_"
          refine run_nil_then (run_nil_then ?_)
          walk_at "aug_"
          refine run_nil fun X s st => ⟨_, ?_, _, X, ⟨x + 2, l ++ u ++ [v], some (.int (figB seed deal x : Nat)), rfl, hlen2, rfl, ?_, ?_⟩, ?_⟩
          · omega
          · rw [← he, hsp]; simp
          · simp at hlu ⊢; omega
          · have e5 : (x : Int) + 1 + 1 = ((x + 2 : Nat) : Int) := by omega
            rw [e5] at st
            simpa using st
        · have hnone : (if figB seed deal x = 12 then pairOf ((pack.drop x).take 2) else none) = none := by
            split
            · rename_i h12
              rw [decide_eq_true h12, Bool.true_and] at h2
              simpa using h2
            · rfl
          rw [hnone] at hsp
          have hL : 97 ≤ pack[x] ∧ pack[x] ≤ 122 := by
            rcases hpx with h | h
            · exact absurd h hd'
            · exact h
          have hm12 : figB seed deal x % 12 < 12 := Nat.mod_lt _ (by decide)
          have hbs : ∀ i < 12, 65 ≤ bases.getD i 0 ∧ bases.getD i 0 ≤ 120432 ∧ (bases.map fun n : Nat => PV.int n)[i]? = some (.int (bases.getD i 0 : Nat)) := by
            intro i hi
            match i, hi with
            | 0, _ | 1, _ | 2, _ | 3, _ | 4, _ | 5, _ | 6, _ | 7, _ | 8, _ | 9, _ | 10, _ | 11, _ => exact ⟨by decide, by decide, rfl⟩
          obtain ⟨g1, g2, g3⟩ := hbs _ hm12
          walk_at "app_"
          · walk_at "callB_"
            · refine evL_cons' (p := .int ((bases.getD (figB seed deal x % 12) 0 : Nat) + (pack[x] : Int) - 97)) rfl ?_ (by walk_at "evl_")
              with_reducible apply ev_sb
              · with_reducible apply ev_add
                · refine ev_sub (by walk_at "ev_") (ev_modN (n := 12) (by walk_at "ev_") (ev_intc rfl) (by decide)) (sub_lst (p := .int (bases.getD (figB seed deal x % 12) 0 : Nat)) (by omega) (by omega) ((congrArg (fun k => (bases.map fun n : Nat => PV.int n)[k]?) (Int.toNat_natCast _)).trans g3))
                · walk_at "callB_"
                  · exact evL_cons' rfl (ev_sub (by walk_at "ev_") (by walk_at "ev_") (sub_str (n := pack[x]) (by omega) (by omega) (by simpa using hget))) evL_nil
                  · exact b_ord
                  · omega
              · walk_at "ev_"
            · refine b_chr (by omega) (by omega)
            · omega
          · exact OPut.here
          · rw [List.length_map]; omega
          refine run_nil_then (run_nil_then ?_)
          walk_at "aug_"
          refine run_nil fun X s st => ⟨_, ?_, _, X, ⟨x + 1, l ++ u ++ [bases.getD (figB seed deal x % 12) 0 + pack[x] - 97], some (.int (figB seed deal x : Nat)), rfl, hx', rfl, ?_, ?_⟩, ?_⟩
          · omega
          · rw [← he, hsp]; simp
          · simp at hlu ⊢; omega
          · have e5 : ((bases.getD (figB seed deal x % 12) 0 : Nat) : Int) + (pack[x] : Int) - 97 = ((bases.getD (figB seed deal x % 12) 0 + pack[x] - 97 : Nat) : Int) := by omega
            rw [e5] at st
            simpa using st
    · have hx' : ¬ x < pack.length := by have := of_decide_eq_false hx; omega
      have e1 : spellB seed deal pack x = [] := by rw [spellB, dif_neg hx']
      rw [e1, List.append_nil] at he
      subst he
      refine rn_loose (rn_ret hf ?_)
      exact ev_ow hN (by walk_at "at_") List.mem_cons_self rfl
end Mine
end partB3

section partB4
open PySem PySem.W PyProof.Rows
set_option maxRecDepth 100000
set_option linter.unusedVariables false
namespace Mine

/-- a display's value is new -/
theorem list_new {W : Wd} {c : Fc} {X : Addr → Prop} {a : AS} {s : Shared} {es : List Expr} {ps : List PV} {pos p : Pos} (x : St W c X a s) (he : EvL W c a p es ps) (hl : ps.length ≤ sizeLine) (hp : p = pos) {Q E : Value → Shared → Prop}
    (h : ∀ D xs s', Kp s s' → s.heap.get? D = none → PlainL s'.heap D xs → RepL s'.heap (a.Y X) ps xs.toList → Q (.ref D) s') : wpAny W.M c.A (eval (.List es pos) c.env) Q E s := by
  subst hp
  rw [arm_eval_List]
  refine wpAny_bind (wpAny_standAt (wpAny_bind (he.go X s x _ _ fun vs s₁ k₁ r₁ => ?_)))
  refine wpAny_newList (h s₁.heap.objs.size _ _ (k₁.tr kp_heap) ?_ ⟨_, _, Heap.get?_push_size _ rfl, rfl, rfl, rfl⟩ (by simpa using r₁.keeps kp_heap)) (by rw [← r₁.length]; exact hl)
  exact kp_new k₁ (new_at s₁)

noncomputable abbrev gB (W : Wd) (env : Env) (D : Addr) (A : Around) (hb : Heap) (w n : Nat) : GCtx :=
  { W := W, env := env, D := D, it := fun k => ((([w, 0, 1] : List Nat).getD k 0 : Nat) : Int), m := 1, N := n, A := A.in1, hb := hb }
theorem gB_yv {W : Wd} {env : Env} {D : Addr} {A : Around} {hb : Heap} {w n : Nat} (k : Nat) : (gB W env D A hb w n).yv k = (w : Nat) := by
  by_cases h : k = 0
  · subst h; rw [GCtx.yv, if_pos (by show (0 : Nat) < 1; decide)]; rfl
  · rw [GCtx.yv, if_neg (by show ¬ k < 1; omega)]; rfl
theorem gB_ok {W : Wd} {env : Env} {D L : Addr} {c : Fc} {P r} {w n : Nat} (ok : c.Ok W) (ge : GEnv env L) (hG : GFun W P r) (hD : D ≠ L) (hL : c.s₀.heap.get? L = none) (hw : 0 < w ∧ w < 127) : GOk (gB W env D c.A c.s₀.heap w n) := by
  refine ⟨ge.sc.kind, ge.sc.co, ge.sc.k1, ge.sc.k2, ge.sc.k3, ge.sc.k4, ge.gl, ok.g0, hG.cm, by show D ≠ env.locals; rw [ge.lo]; exact hD, by show c.s₀.heap.get? env.locals = none; rw [ge.lo]; exact hL, fun k hk => ?_, .inl rfl, fun _ => Nat.succ_pos _, ok.hd⟩
  have : k = 0 := by have h : k < 1 := hk; omega
  subst this
  show ((w : Nat) : Int) ≠ 0 ∧ ((w : Nat) : Int) ≠ 127
  omega

/-- a loop over the generator of a written row [w, 0, 1], left by a break -/
theorem rn_forgen {W : Wd} {c : Fc} {x : Str} {px pf pl pos pos' : Pos} {e1 e2 e3 : Expr} {P : Nat → Pos} {r : List Stmt} {body rest : List Stmt} {post : Post} {N gl : List Str} {σ : List (Addr × List PV)} {K : List (Addr × Obj)} {ρ : List (Option PV)} {w n : Nat}
    (hfs : ∀ v, foldedSetIterable (.Call (.Name nGi pf) [.List [e1, e2, e3] pl] [] pos') c.env v = pure v)
    (he : eval (.Call (.Name nGi pf) [.List [e1, e2, e3] pl] [] pos') c.env = (do callWith pos' (← eval (.Name nGi pf) c.env) [] (backTo pos' (starEach [.List [e1, e2, e3] pl] c.env)) (backToKw pos' (keywordEach [] c.env))))
    (hst : starEach [.List [e1, e2, e3] pl] c.env = (false, eval (.List [e1, e2, e3] pl) c.env) :: starEach [] c.env)
    (hf : c.Fr) (hN : c.N = N) (hgl : c.gl = gl) (hx : nGi ∈ gl) (hG : GFun W P r) (hw : 0 < w ∧ w < 127) (hn : 0 < n) (hel : EvL W c ⟨σ, K, ρ, false⟩ pl [e1, e2, e3] [.int (w : Nat), .int ((0 : Nat) : Int), .int ((1 : Nat) : Int)])
    (Inv : Nat → List (Addr × List PV) → List (Option PV) → Prop) (h0 : Inv 0 σ ρ)
    (turn : ∀ i gs σ K ρ, i < n → Inv i σ ρ → ∃ ρ', Put N ρ x (.int (w : Nat)) ρ' ∧ Run W (c.at gs) ⟨σ, K, ρ', false⟩ body (fun f s => match f with
      | .next => ∃ σ₂ ρ₂ X, i + 1 < n ∧ Inv (i + 1) σ₂ ρ₂ ∧ St W (c.at gs) X ⟨σ₂, K, ρ₂, false⟩ s
      | .cont => False
      | .brk => ∃ σ₂ ρ₂ X, Inv n σ₂ ρ₂ ∧ St W (c.at gs) X ⟨σ₂, K, ρ₂, false⟩ s
      | .ret v => False))
    (fin : ∀ gs σ K ρ, GPre c.s₀.gens gs → Inv n σ ρ → Run W (c.at gs) ⟨σ, K, ρ, false⟩ rest post) :
    Run W c ⟨σ, K, ρ, false⟩ (.For (.Name x px) (.Call (.Name nGi pf) [.List [e1, e2, e3] pl] [] pos') body [] pos :: rest) post := .mk fun X s st E => by
  obtain ⟨f, hmg, hfd, hcall⟩ := gen_call hG
  refine cons_of (wpAny_For (Call_ (he := he) (Calls.Name_function_global st.ok.fn (st.ok.gm nGi (hgl ▸ hx)) (Calls.loadGlobal_global (env := c.env) (mg := W.mg) (by rw [st.ok.gg]; exact W.ns _ st.g) hmg ?_) (st.ok.db.2 nGi (hgl ▸ hx)))) hfs)
  obtain ⟨o, fd, ho, hd⟩ := hfd _ st.g
  refine callWith_def (o := o) (fd := fd) hd ?_ (he := hst)
  refine args_cons (he := hst) (list_new st hel (by show (3 : Nat) ≤ 16777216; decide) rfl fun D xs s₁ k₁ hD0 hp hr => ?_)
  obtain ⟨oD, nD, eD, rD⟩ := id hp
  obtain ⟨st₁, _, _, hDK, hDc⟩ := st.take k₁ hD0 eD
  refine args_nil ⟨k₁.get ho, hcall st₁.g (by have := st.ok.rm.1; omega) fun env L G s₂ hnew => ?_⟩
  obtain ⟨ge, ⟨h₂, tk₂, rfl⟩, ⟨mm, hns, hmm⟩, hgen, hkeep, nL, nG⟩ := hnew
  refine wpAny_pyIter_gen hgen ?_
  have hLG : L ≠ G := fun e => by
    obtain ⟨o1, _, _, e1, hdd, _⟩ := hns
    obtain ⟨o2, _, _, e2, _, hd2, _⟩ := hgen
    rw [e, e2] at e1; cases e1
    rw [hd2] at hdd; cases hdd
  have hDL : D ≠ L := fun e => by rw [e, nL] at eD; cases eD
  obtain ⟨oL, es, ep, hoL, d1, d2, d3⟩ := hns
  obtain ⟨oG, nm, qn, hoG, c1, c2, c3⟩ := hgen
  have kk1 : ∀ q ∈ (D, oD) :: K, s₁.heap.get? q.1 = some q.2 := fun q hq => (st₁.kk q hq).2
  have hgs : s₁.gens = c.s₀.gens := st₁.gens_eq
  have st₂ := st₁.moveK hf.fr [] [L, G] (h' := h₂) (tk := tk₂) (gs := s₁.gens.push (.fresh (.func (gBody P r) env))) (fun b hb => by cases hb) (fun b hb => by
      simp only [List.mem_cons, List.not_mem_nil, or_false] at hb
      rcases hb with rfl | rfl
      · exact nL
      · exact nG) (fun b o _ e => hkeep b o e) (fun b hb => by
      rcases hb with hb | hb
      · cases hb
      · simp only [List.mem_cons, List.not_mem_nil, or_false] at hb
        rcases hb with rfl | rfl
        · show (h₂.get? b).isSome = true; rw [hoL]; rfl
        · show (h₂.get? b).isSome = true; rw [hoG]; rfl) (((D, oD) :: K) ++ [(L, oL), (G, oG)]) (fun q hq => by
      rcases List.mem_append.mp hq with hq | hq
      · exact ⟨.inl (List.mem_map.mpr ⟨q, hq, rfl⟩), hkeep _ _ (kk1 q hq)⟩
      · simp only [List.mem_cons, List.not_mem_nil, or_false] at hq
        rcases hq with rfl | rfl
        · exact ⟨.inr (by simp), hoL⟩
        · exact ⟨.inr (by simp), hoG⟩)
  let g : GCtx := gB W env D c.A c.s₀.heap w n
  have hLc : c.s₀.heap.get? L = none := by
    cases e : c.s₀.heap.get? L with
    | none => rfl
    | some o => rw [st₁.keep _ _ e] at nL; cases nL
  have ok : GOk g := gB_ok st.ok ge hG hDL hLc hw
  have gL : g.L = L := ge.lo
  have xsD : ∀ k, k ≤ 1 → ∃ t, xs[k]? = some (.int (g.it k) t) := fun k hk => by
    have hp' : ([PV.int (w : Nat), PV.int ((0 : Nat) : Int), PV.int ((1 : Nat) : Int)])[k]? = some (.int (g.it k)) := by
      match k, hk with
      | 0, _ => rfl
      | 1, _ => rfl
    obtain ⟨v, hv, rv⟩ := hr.get hp'
    simp only [Rep] at rv
    obtain ⟨t, rfl⟩ := rv
    exact ⟨t, by simpa using hv⟩
  refine codeAny_forLoop (fun m s' => ∃ i gs σ₁ Kg ρ₁ X₁ I, m = n + 1 - i ∧ i < n ∧ Inv i σ₁ ρ₁ ∧ St W (c.at gs) X₁ ⟨σ₁, ((D, oD) :: K) ++ Kg, ρ₁, false⟩ s' ∧ GHas g P r G c.s₀.gens.size i I Kg gs ∧ (∀ q ∈ (D, oD) :: K, q.1 ∉ Kg.map (·.1)) ∧ (i ≠ 0 → I ≠ G) ∧ GPre c.s₀.gens gs) ?_ (n + 1)
    ⟨0, _, σ, [(L, oL), (G, oG)], ρ, _, G, rfl, hn, h0, st₂, ?_, ?_, fun h => absurd rfl h, ?_⟩ (by intro _; rfl)
  · rintro m s' ⟨i, gs, σ₁, Kg, ρ₁, X₁, I, rfl, hi, hinv, st', hgh, hF, hIG, hpre⟩
    obtain ⟨gs1, hgs1, hgs2⟩ := hgh.gs
    have kk' : ∀ q ∈ Kg, s'.heap.get? q.1 = some q.2 := fun q hq => (st'.kk q (List.mem_append_right _ hq)).2
    obtain ⟨hgen', hgheap⟩ := hgh.heap s'.heap kk'
    have hD' : s'.heap.get? D = some oD := (st'.kk (D, oD) (List.mem_append_left _ List.mem_cons_self)).2
    have hgs' : s'.gens = gs := st'.gens_eq
    refine gen_next (g := g) (A := c.A) ok rfl (by have := st.ok.rm.1; omega) hgen' (by rw [hgs']; exact hgs1) hgs2 hgheap (fun hle => ?_) (by show (s'.heap.get? D).isSome = true; rw [hD']; rfl) (fun b o e => st'.keep b o e) hi ?_ ?_
    · obtain ⟨t, ht⟩ := xsD i hle
      exact ⟨xs, t, ⟨oD, hD', rD.1, nD, rD.2.2⟩, ht⟩
    · intro t I' h' tk' gens' gs'' _ ht hbare i1 i2 hk hst' hh'
      have hI'G : I' ≠ G := fun e => by
        by_cases h0 : i = 0
        · obtain ⟨o, _, _, ho, _⟩ := hgen'
          rw [← e, i2 h0] at ho; cases ho
        · exact hIG h0 (by rw [← i1 h0]; exact e)
      obtain ⟨⟨X', st₃⟩, gh, kkeys⟩ := st'.turn (K := Kg) ((D, oD) :: K) hF hf.fr hgh hk i1 i2 (fun _ => hI'G) (by rw [gL]; exact hLG) ht hst' hh' (tk := tk')
      have hpre' : GPre c.s₀.gens gens' := ⟨fun hx => ht.bare hbare (hgs' ▸ hpre.1 hx), fun p q hq => by
        have hp' : p ≠ c.s₀.gens.size := fun e1 => by rw [e1, Array.getElem?_eq_none (Nat.le_refl _)] at hq; cases hq
        rw [ht.other p hp', hgs']; exact hpre.2 p q hq⟩
      have hF' : ∀ q ∈ (D, oD) :: K, q.1 ∉ (nextK i I' h' Kg).map (·.1) := fun q hq hm => by
        have e0 := (st'.kk q (List.mem_append_left _ hq)).2
        by_cases h0 : i = 0
        · unfold nextK at hm
          rw [if_pos h0, List.map_cons, reK_keys] at hm
          rcases List.mem_cons.mp hm with e | hm
          · rw [e, i2 h0] at e0; cases e0
          · exact hF q hq hm
        · rw [kkeys h0] at hm; exact hF q hq hm
      obtain ⟨ρ', hput, hrun⟩ := turn i gens' σ₁ (((D, oD) :: K) ++ nextK i I' h' Kg) ρ₁ hi hinv
      have hyv : g.yv i = (w : Nat) := gB_yv i
      refine wpAny_assign_Name (store_name st₃ ((hf.at _).sto x) (hN ▸ hput) (by rw [hyv]; simp only [Rep]; exact ⟨t, rfl⟩) fun s₄ st₄ _ => ?_)
      refine wpAny_mono (hrun.go _ s₄ st₄ _) (fun fl s₅ hpost => ?_) fun _ _ e => e
      cases fl with
      | next =>
        obtain ⟨σ₂, ρ₂, X₂, q1, q2, q3⟩ := hpost
        exact ⟨n + 1 - (i + 1), by omega, i + 1, gens', σ₂, _, ρ₂, X₂, I', rfl, q1, q2, q3, gh, hF', fun _ => hI'G, hpre'⟩
      | brk =>
        obtain ⟨σ₂, ρ₂, X₂, q2, q3⟩ := hpost
        exact fun E' => (fin gens' σ₂ _ ρ₂ hpre' q2).go _ _ q3 E'
      | cont => exact hpost.elim
      | ret v => exact hpost.elim
    · intro hm h127
      have hm' : i = 1 := hm
      subst hm'
      have : g.it 1 = 0 := rfl
      rw [this] at h127; cases h127
  · refine ⟨⟨_, by rw [← hgs]; exact Array.getElem?_push_size .., rfl, .inl ⟨rfl, rfl⟩⟩, by rw [gL]; simp, fun h => absurd rfl h, by simp, fun h hq => ⟨?_, ?_⟩⟩
    · rw [← hgs]
      exact ⟨oG, _, _, hq (G, oG) (by simp), c1, c2, c3⟩
    · unfold GCtx.GHeap
      rw [if_pos rfl]
      refine ⟨mm, ⟨oL, es, ep, ?_, d1, d2, d3⟩, hmm⟩
      rw [gL]; exact hq (L, oL) (by simp)
  · intro q hq hm
    have e0 := kk1 q hq
    simp only [List.map_cons, List.map_nil, List.mem_cons, List.not_mem_nil, or_false] at hm
    rcases hm with e | e
    · rw [e, nL] at e0; cases e0
    · rw [e, nG] at e0; cases e0
  · rw [← hgs]; exact GPre.push rfl
end Mine
end partB4

section partB6
open PySem PySem.W PyProof.Rows
set_option maxRecDepth 100000
set_option linter.unusedVariables false
namespace Mine

noncomputable def FunG (W : Wd) (name : Str) (k : Nat) (ps : List PV) (r : PV) : Prop :=
  ∃ f, W.mg name = some (.ref f) ∧ (∀ h, W.g h → ∃ o fd, h.get? f = some o ∧ o.data = .func fd) ∧
    ∀ s A X vals, W.g s.heap → Room A k → A.handled = none → (∀ b, X b → (s.heap.get? b).isSome = true) → RepL s.heap X ps vals →
      ∀ (Q : Value → Shared → Prop) (E : Value → Shared → Prop), (∀ v s' gs, GPre s.gens gs → Kp { s with gens := gs } s' → Rep s'.heap X r v → Q v s') → wpAny W.M A (PySem.call (.ref f) vals) Q E s

theorem fun_introG {W : Wd} {name : Str} {params : Arguments} {body : List Stmt} {scope : Scope} {k : Nat} {ps : List PV} {r : PV} (O gl N : List Str) (ρ : List (Option PV)) (hd : HasDef W name params body scope)
    (hsc : scopeOk scope (params.args.map (·.arg) ++ O) gl = true) (hlen : (params.args.map (·.arg)).length = ps.length)
    (hbind : ∀ pm cd doc vals, vals.length = ps.length → bindArgs (PySem.Calls.docDef name params body scope pm cd doc) ⟨vals, []⟩ = pure ((params.args.map (·.arg)).zip vals))
    (hN' : params.args.map (·.arg) ++ O = N) (hρ' : ps.map some ++ (O.map fun _ => none) = ρ)
    (hb : ∀ c : Fc, c.Fr → c.k = k → c.N = N → c.gl = gl → c.env.scope = scope →
      Run W c ⟨[], [], ρ, false⟩ body (fun f s => ∃ v, f = .ret v ∧ Rep s.heap c.X₀ r v ∧ ∃ gs, GPre c.s₀.gens gs ∧ Kp (c.at gs).s₀ s)) : FunG W name (k + 1) ps r := by
  obtain ⟨f, hmg, hf⟩ := id hd
  refine ⟨f, hmg, fun h hg => ?_, fun s A X vals hg hr hA hX hvals Q E hQ => ?_⟩
  · obtain ⟨o, pm, cd, doc, ho, hdt, _⟩ := hf h hg
    exact ⟨o, _, ho, hdt⟩
  · refine fun_post O gl N ρ hd hsc hlen hbind hN' hρ' hg hr hA hX hvals (post := fun f s' => ∃ v, f = .ret v ∧ Rep s'.heap X r v ∧ ∃ gs, GPre s.gens gs ∧ Kp { s with gens := gs } s') (fun c h1 h2 h3 h4 h5 h6 h7 => ?_) hmg fun fl s' hp => ?_
    · subst h6 h7
      exact hb c h1 h2 h3 h4 h5
    · obtain ⟨v, rfl, h1, gs, h2, h3⟩ := hp
      exact ⟨v, rfl, hQ v s' gs h2 h3 h1⟩

theorem evG_cl {W : Wd} {c : Fc} {a : AS} {x : Str} {pos pos' : Pos} {e : Expr} {es : List Expr} {ps : List PV} {r : PV} {k : Nat} {gl : List Str} 
    (he : eval (.Call (.Name x pos') (e :: es) [] pos) c.env = (do callWith pos (← eval (.Name x pos') c.env) [] (backTo pos (starEach (e :: es) c.env)) (backToKw pos (keywordEach [] c.env))))
    (hst : starEach (e :: es) c.env = (false, eval e c.env) :: starEach es c.env) (hgl : c.gl = gl) (hx : x ∈ gl) (ha : EvL W c a pos (e :: es) ps) (hf : FunG W x k ps r) (hr : k ≤ c.k) :
    EvG W c a (.Call (.Name x pos') (e :: es) [] pos) r := .mk fun X s x₁ Q E h => by
  obtain ⟨f, hmg, hfd, hc⟩ := hf
  have hx' : x ∈ c.gl := hgl ▸ hx
  refine Call_ (he := he) (Calls.Name_function_global x₁.ok.fn (x₁.ok.gm x hx') (Calls.loadGlobal_global (env := c.env) (mg := W.mg) (by rw [x₁.ok.gg]; exact W.ns _ x₁.g) hmg ?_) (x₁.ok.db.2 x hx'))
  obtain ⟨o, fd, ho, hd⟩ := hfd _ x₁.g
  refine callWith_def (o := o) (fd := fd) hd (ha.go X s x₁ _ _ fun vs s₁ k₁ r₁ => ⟨k₁.get ho, hc s₁ c.A (a.Y X) vs (x₁.keeps k₁).g (x₁.ok.rm.le hr) x₁.ok.hd (x₁.keeps k₁).yd r₁ _ _ fun v s₂ gs hg k₂ r₂ => h v s₂ gs (k₁.gens_eq ▸ hg) (k₁.trG k₂) r₂⟩) (he := hst)

theorem run_break {W : Wd} {c : Fc} {a : AS} {pos : Pos} {rest : List Stmt} {post : Post} (h : ∀ X s, St W c X a s → post .brk s) : Run W c a (.Break pos :: rest) post := .mk fun X s st E =>
  cons_of (show wpAny W.M c.A (exec (.Break pos) c.env) (Then W c rest post) E s from wpAny_bind (wpAny_standAt (wpAny_pure (h X s st))))

/-- a text cut in rows of one length -/
noncomputable def cutB (w m : Nat) (text : List Nat) : List (List Nat) := (List.range m).map fun j => (text.drop (j * w)).take w

theorem rowsB_ok {W : Wd} (hd : HasDef W (Str.ofString "_law_rows") (fparams (stAt progA 17)) (fbody (stAt progA 17)) (fscope (stAt progA 17))) (hlen : BN W (Str.ofString "len") "len") {P : Nat → Pos} {r : List Stmt} (hG : GFun W P r)
    (w m : Nat) (text : List Nat) (hw : 0 < w ∧ w < 127) (hm : text.length = m * w) (hml : m ≤ 1000) :
    FunG W (Str.ofString "_law_rows") 9 [.str text, .int w] (.lst ((cutB w m text).map .str)) := by
  refine fun_introG (k := 8) [Str.ofString "rows", Str.ofString "at", Str.ofString "size"] [Str.ofString "_grouping_intervals", Str.ofString "len"] [Str.ofString "text", Str.ofString "width", Str.ofString "rows", Str.ofString "at", Str.ofString "size"]
    [some (.str text), some (.int w), none, none, none] hd ?_ ?_ ?_ rfl rfl ?_
  · decide +kernel
  · rfl
  · intro pm cd doc vals hl
    match vals, hl with
    | [v, u], _ => rfl
  · intro c hf hk hN hgl hsc
    conv in fbody _ => whnf
    have hz : sizeLine = 16777216 := rfl
    have htl : text.length ≤ sizeLine := by
      have : m * w ≤ 1000 * 126 := Nat.mul_le_mul hml (by omega)
      omega
    have lenT : ∀ {c' : Fc} {a : AS} {p1 p2 p3 : Pos}, c'.N = [Str.ofString "text", Str.ofString "width", Str.ofString "rows", Str.ofString "at", Str.ofString "size"] → c'.gl = [Str.ofString "_grouping_intervals", Str.ofString "len"] → 8 ≤ c'.k → At [Str.ofString "text", Str.ofString "width", Str.ofString "rows", Str.ofString "at", Str.ofString "size"] a.ρ (Str.ofString "text") (.str text) →
        Ev W c' a (.Call (.Name (Str.ofString "len") p1) [.Name (Str.ofString "text") p2] [] p3) (.int (text.length : Nat)) := fun h1 h2 h3 h4 => by
      walk_at "callB_"
      · exact evL_cons' rfl (ev_nm h1 h4) evL_nil
      · exact b_lens htl
      · omega
    refine rn_newlist hf hN fun b hb1 hb2 => ⟨_, by walk_at "put_", ?_⟩
    walk_at "asg_"
    refine rn_forgen (P := P) (r := r) (w := w) (n := m + 1) (fun _ => rfl) rfl rfl hf hN hgl (by walk_at "mem_") hG hw (Nat.succ_pos _) (evL_cons' rfl (by walk_at "ev_") (evL_cons' rfl (ev_intc rfl) (evL_cons' rfl (ev_intc rfl) evL_nil)))
      (fun i σ ρ => ∃ (j : Nat) (sz : Option PV), j = min i m ∧ σ = [(b, ((cutB w m text).take j).map .str)] ∧ ρ = [some (.str text), some (.int w), some (.raw (.ref b)), some (.int (j * w : Nat)), sz]) ⟨0, none, by simp, by simp, by simp⟩ ?_ ?_
    · rintro i gs σ K ρ hi ⟨j, sz, rfl, rfl, rfl⟩
      refine ⟨_, by walk_at "put_", ?_⟩
      have hfg := hf.at gs
      have hj : min i m = i := by omega
      rw [hj]
      refine rn_if (b := decide (text.length ≤ i * w)) ?_ (fun h => ?_) (fun h => ?_)
      · refine evB_as (evB_c (by with_unfolding_all rfl) (by walk_at "ev_") (lenT hN hgl (by show 8 ≤ c.k; omega) (by walk_at "at_")) cmp_ge) (decide_eq_decide.mpr (by omega))
      · have h' := of_decide_eq_true h
        have him : i = m := by
          rw [hm] at h'
          have := Nat.le_of_mul_le_mul_right h' hw.1
          omega
        subst him
        exact run_break fun X s st => ⟨_, _, X, ⟨i, _, by omega, rfl, rfl⟩, st⟩
      · have h' := of_decide_eq_false h
        have him : i < m := by
          rw [hm] at h'
          exact Nat.lt_of_mul_lt_mul_right (by omega : i * w < m * w)
        have hcl : (cutB w m text).length = m := by simp [cutB]
        refine run_nil_then ?_
        walk_at "app_"
        · refine ev_as (q := .str ((text.drop (i * w)).take w)) (ev_slice_str (lo := some ((i * w : Nat) : Int)) (hi := some ((i * w + w : Nat) : Int)) (by walk_at "ev_") (evP_some (by walk_at "ev_")) (evP_some (ev_as (by walk_at "ev_") (congrArg PV.int (Int.natCast_add _ _).symm))) htl) ?_
          rw [sl_nat, Nat.add_sub_cancel_left]
        · exact OPut.here
        · rw [List.length_map, List.length_take]; omega
        walk_at "aug_"
        refine run_nil fun X s st => ⟨_, _, X, by omega, ⟨i + 1, some (.int (w : Nat)), by omega, rfl, rfl⟩, ?_⟩
        have e1 : (cutB w m text).take (i + 1) = (cutB w m text).take i ++ [(text.drop (i * w)).take w] := by
          rw [List.take_add_one, List.getElem?_eq_getElem (by omega)]
          simp [cutB]
        rw [e1, List.map_append, Nat.succ_mul, Int.natCast_add]
        exact st
    · rintro gs σ K ρ hpre ⟨j, sz, rfl, rfl, rfl⟩
      have hfg := hf.at gs
      have hj : min (m + 1) m = m := by omega
      rw [hj, List.take_of_length_le (by simp [cutB])]
      refine run_mono (rn_loose (rn_ret (c := c.at gs) hfg (p := .lst ((cutB w m text).map .str)) (ev_if (b := false) ?_ (fun h => by cases h) (fun _ => ev_ow hN (by walk_at "at_") List.mem_cons_self rfl)))) (fun f s hp => ?_)
      · refine evB_as (evB_c (by with_unfolding_all rfl) (by walk_at "ev_") (lenT hN hgl (by show 8 ≤ c.k; omega) (by walk_at "at_")) cmp_lt) ?_
        rw [hm]; simp
      · obtain ⟨v, rfl, h1, h2⟩ := hp
        exact ⟨v, rfl, h1, gs, hpre, h2⟩
end Mine
end partB6

section partB7
open PySem PySem.W PyProof.Rows
set_option maxRecDepth 100000
set_option linter.unusedVariables false
namespace Mine
/-- the order of the columns -/
noncomputable def oth (p g : Nat) : List Nat := (List.range p).filter fun i => decide (i ≠ g)
noncomputable def laidP (p g place turn : Nat) : List Nat :=
  let o := (oth p g).drop (turn % (oth p g).length) ++ (oth p g).take (turn % (oth p g).length)
  o.take place ++ [g] ++ o.drop place
noncomputable abbrev Ints (l : List Nat) : List PV := l.map fun n : Nat => PV.int n
theorem Ints_drop (l : List Nat) (n : Nat) : Ints (l.drop n) = (Ints l).drop n := List.map_drop
theorem Ints_take (l : List Nat) (n : Nat) : Ints (l.take n) = (Ints l).take n := List.map_take
theorem Ints_app (l m : List Nat) : Ints (l ++ m) = Ints l ++ Ints m := List.map_append

theorem oth_len (p g : Nat) : (oth p g).length ≤ p := by
  unfold oth
  exact Nat.le_trans (List.length_filter_le _ _) (by simp)

theorem laid_ok {W : Wd} (hd : HasDef W (Str.ofString "_law_laid") (fparams (stAt progA 18)) (fbody (stAt progA 18)) (fscope (stAt progA 18))) (hlen : BN W (Str.ofString "len") "len") (hrng : W.mg (Str.ofString "range") = none ∧ W.mb (Str.ofString "range") = some (.type "range"))
    (p g place turn : Nat) (hp : p ≤ 1000) (ho : (oth p g).length ≠ 0) :
    Fun W (Str.ofString "_law_laid") 9 [.int p, .int g, .int place, .int turn] (.lst (Ints (laidP p g place turn))) := by
  refine fun_intro (k := 8) [Str.ofString "others", Str.ofString "cut"] [Str.ofString "range", Str.ofString "len"] [Str.ofString "piles", Str.ofString "grown", Str.ofString "place", Str.ofString "turn", Str.ofString "others", Str.ofString "cut"]
    [some (.int p), some (.int g), some (.int place), some (.int turn), none, none] hd ?_ ?_ ?_ rfl rfl ?_
  · decide +kernel
  · rfl
  · intro pm cd doc vals hl
    match vals, hl with
    | [v, u, w, x], _ => rfl
  · intro c hf hk hN hgl hsc
    conv in fbody _ => whnf
    have hz : sizeLine = 16777216 := rfl
    have hol := oth_len p g
    refine rn_comp (one := false) (N := [Str.ofString "piles", Str.ofString "grown", Str.ofString "place", Str.ofString "turn", Str.ofString "others", Str.ofString "cut"]) (sc := fscope (stAt progA 18)) (caps := [Str.ofString "grown"]) (gl' := []) (capρ := [some (.int g)]) (tst := fun i => decide (i ≠ g)) (n := p) (item := fun i => .int (i : Nat)) (el := fun i => .int (i : Nat)) (fun _ => rfl) hf hN hsc (by decide +kernel) (by decide +kernel) ?_ (Caps.cons (by walk_at "at_") Caps.nil) ?_ ?_ (by walk_at "put_") ?_
    · exact evI_rangeN rfl rfl hgl (by walk_at "mem_") hrng (by walk_at "ev_") (by omega)
    · intro c' h1 h2 h3 h4 i σ K hi hq
      refine tst_one (evB_as (evB_c (by with_unfolding_all rfl) (ev_nm h1 (by walk_at "at_")) (ev_nm h1 (by walk_at "at_")) cmp_ne) ?_)
      exact decide_eq_decide.mpr (by omega)
    · intro c' h1 h2 h3 h4 i σ K hi ht hq
      exact ev_nm h1 (by walk_at "at_")
    show Run W c ⟨[], [], [some (.int p), some (.int g), some (.int place), some (.int turn), some (.lst (Ints (oth p g))), none], false⟩ _ _
    walk_at "asg0_"
    · refine ev_modN (x := turn) (n := (oth p g).length) (by walk_at "ev_") ?_ ho
      walk_at "callB_"
      · walk_at "evl_"
      · have := b_lenl (W := W) (l := Ints (oth p g)) (by simp; omega)
        rwa [List.length_map] at this
      · omega
    · walk_at "put_"
    walk_at "asg0_"
    · refine ev_as (q := .lst (Ints ((oth p g).drop (turn % (oth p g).length) ++ (oth p g).take (turn % (oth p g).length)))) (ev_bin (p := .lst (Ints ((oth p g).drop (turn % (oth p g).length)))) (q := .lst (Ints ((oth p g).take (turn % (oth p g).length)))) ?_ ?_ (bin_addl ?_)) ?_
      · refine ev_as (ev_slice_lst (lo := some ((turn % (oth p g).length : Nat) : Int)) (hi := none) (by walk_at "ev_") (evP_some (by walk_at "ev_")) evP_none (by simp; omega)) ?_
        rw [sl_from, Ints_drop]
      · refine ev_as (ev_slice_lst (lo := none) (hi := some ((turn % (oth p g).length : Nat) : Int)) (by walk_at "ev_") evP_none (evP_some (by walk_at "ev_")) (by simp; omega)) ?_
        rw [sl_to, Ints_take]
      · simp; omega
      · rw [Ints_app]
    · walk_at "put_"
    generalize hO : (oth p g).drop (turn % (oth p g).length) ++ (oth p g).take (turn % (oth p g).length) = O
    have hO' : O.length ≤ p := by rw [← hO]; simp; omega
    have e : laidP p g place turn = O.take place ++ [g] ++ O.drop place := by rw [← hO]; rfl
    rw [e]
    refine rn_ret hf ?_
    refine ev_as (ev_bin (p := .lst (Ints (O.take place ++ [g]))) (q := .lst (Ints (O.drop place))) ?_ ?_ (bin_addl ?_)) ?_
    · refine ev_as (ev_bin (p := .lst (Ints (O.take place))) (q := .lst (Ints [g])) ?_ (ev_list' (ps := [.int g]) (by walk_at "evl_") (by show 1 ≤ 16777216; decide)) (bin_addl ?_)) ?_
      · refine ev_as (ev_slice_lst (lo := none) (hi := some (place : Int)) (by walk_at "ev_") evP_none (evP_some (by walk_at "ev_")) (by simp; omega)) ?_
        rw [sl_to, Ints_take]
      · simp; omega
      · rw [Ints_app]
    · refine ev_as (ev_slice_lst (lo := some (place : Int)) (hi := none) (by walk_at "ev_") (evP_some (by walk_at "ev_")) evP_none (by simp; omega)) ?_
      rw [sl_from, Ints_drop]
    · simp; omega
    · rw [Ints_app (O.take place ++ [g])]
end Mine
end partB7

section partB8
set_option maxRecDepth 100000
namespace Mine
/-- Gergonne: the deals, in plain lists -/
noncomputable def colP (p m : Nat) (pack : List Nat) (k : Nat) : List Nat := (List.range m).map fun j => pack.getD (j * p + k) 0
noncomputable def nextP (p m : Nat) (order pack : List Nat) : List Nat := (order.map (colP p m pack)).flatten
noncomputable def packT (p m : Nat) (o : Nat → List Nat) (x : List Nat) : Nat → List Nat
  | 0 => x
  | t + 1 => nextP p m (o t) (packT p m o x t)
noncomputable def posT (p m : Nat) (o : Nat → List Nat) : Nat → Nat → Nat
  | 0, k => k
  | t + 1, k => (o t).idxOf (posT p m o t k % p) * m + posT p m o t k / p
noncomputable def sumT (p : Nat) (o : Nat → List Nat) (k : Nat) : Nat → Nat
  | 0 => 0
  | t + 1 => sumT p o k t + (o t).idxOf (k / p ^ t % p) * p ^ t

structure OrdOk (p : Nat) (o : List Nat) : Prop where
  len : o.length = p
  nd : o.Nodup
  lt : ∀ x ∈ o, x < p
  all : ∀ x, x < p → x ∈ o

theorem colP_len {p m k : Nat} {pack : List Nat} : (colP p m pack k).length = m := by simp [colP]
theorem flat_getD {m : Nat} : ∀ {L : List (List Nat)} (i j : Nat), (∀ l ∈ L, l.length = m) → j < m → i < L.length → L.flatten.getD (i * m + j) 0 = (L.getD i []).getD j 0
  | l :: L, 0, j, h, hj, hi => by
    have hl : l.length = m := h l List.mem_cons_self
    simp only [List.flatten_cons, List.getD_eq_getElem?_getD, Nat.zero_mul, Nat.zero_add, List.getElem?_cons_zero, Option.getD_some]
    rw [List.getElem?_append_left (by omega)]
  | l :: L, i + 1, j, h, hj, hi => by
    have hl : l.length = m := h l List.mem_cons_self
    have ih := flat_getD (L := L) i j (fun l hl => h l (List.mem_cons_of_mem _ hl)) hj (by simpa using hi)
    simp only [List.getD_eq_getElem?_getD] at ih ⊢
    simp only [List.flatten_cons, List.getElem?_cons_succ]
    rw [List.getElem?_append_right (by rw [hl, Nat.succ_mul]; omega), hl, ← ih]
    congr 2
    rw [Nat.succ_mul]; omega
theorem flat_lenm {m : Nat} : ∀ {L : List (List Nat)}, (∀ l ∈ L, l.length = m) → L.flatten.length = L.length * m
  | [], _ => by simp
  | l :: L, h => by
    rw [List.flatten_cons, List.length_append, flat_lenm (fun l hl => h l (List.mem_cons_of_mem _ hl)), h l List.mem_cons_self, List.length_cons, Nat.succ_mul, Nat.add_comm]
theorem nextP_len {p m : Nat} {o pack : List Nat} (h : o.length = p) : (nextP p m o pack).length = p * m := by
  rw [nextP, flat_lenm (m := m), List.length_map, h]
  intro l hl
  obtain ⟨k, _, rfl⟩ := List.mem_map.mp hl
  exact colP_len
theorem nextP_get {p m i j : Nat} {o pack : List Nat} (h : o.length = p) (hi : i < p) (hj : j < m) : (nextP p m o pack).getD (i * m + j) 0 = pack.getD (j * p + o.getD i 0) 0 := by
  rw [nextP, flat_getD i j ?_ hj (by simpa [h] using hi)]
  · have hi' : i < o.length := by omega
    simp [List.getD_eq_getElem?_getD, hi', colP, hj]
  · intro l hl
    obtain ⟨k, _, rfl⟩ := List.mem_map.mp hl
    exact colP_len

section
variable {p m : Nat} {o : Nat → List Nat} {x : List Nat}
theorem packT_len (ho : ∀ t, OrdOk p (o t)) (hx : x.length = p * m) : ∀ t, (packT p m o x t).length = p * m
  | 0 => hx
  | t + 1 => nextP_len (ho t).len
theorem idx_lt (ho : ∀ t, OrdOk p (o t)) (hp : 0 < p) (t q : Nat) : (o t).idxOf (q % p) < p := by
  have h := List.idxOf_lt_length_iff.mpr ((ho t).all _ (Nat.mod_lt q hp))
  rwa [(ho t).len] at h
theorem div_lt (hp : 0 < p) {q : Nat} (h : q < p * m) : q / p < m := Nat.div_lt_of_lt_mul h
theorem posT_lt (ho : ∀ t, OrdOk p (o t)) (hp : 0 < p) {k : Nat} (hk : k < p * m) : ∀ t, posT p m o t k < p * m
  | 0 => hk
  | t + 1 => by
    have h1 := idx_lt ho hp t (posT p m o t k)
    have h2 := div_lt hp (posT_lt ho hp hk t)
    have h3 : ((o t).idxOf (posT p m o t k % p) + 1) * m ≤ p * m := Nat.mul_le_mul_right _ h1
    rw [Nat.succ_mul] at h3
    show (o t).idxOf (posT p m o t k % p) * m + posT p m o t k / p < p * m
    omega
theorem packT_pos (ho : ∀ t, OrdOk p (o t)) (hp : 0 < p) {k : Nat} (hk : k < p * m) : ∀ t, (packT p m o x t).getD (posT p m o t k) 0 = x.getD k 0
  | 0 => rfl
  | t + 1 => by
    have h1 := idx_lt ho hp t (posT p m o t k)
    have h2 := div_lt hp (posT_lt ho hp hk t)
    show (nextP p m (o t) (packT p m o x t)).getD ((o t).idxOf (posT p m o t k % p) * m + posT p m o t k / p) 0 = _
    rw [nextP_get (ho t).len h1 h2, ← packT_pos ho hp hk t]
    congr 1
    have h3 : (o t).idxOf (posT p m o t k % p) < (o t).length := by rw [(ho t).len]; exact h1
    rw [List.getD_eq_getElem?_getD, List.getElem?_eq_getElem h3, Option.getD_some, List.getElem_idxOf h3, Nat.mul_comm]
    exact Nat.div_add_mod _ _
theorem posT_surj (ho : ∀ t, OrdOk p (o t)) (hp : 0 < p) : ∀ t q, q < p * m → ∃ k, k < p * m ∧ posT p m o t k = q
  | 0, q, h => ⟨q, h, rfl⟩
  | t + 1, q, h => by
    have hm : 0 < m := Nat.pos_of_ne_zero fun e => by subst e; simp at h
    have hi : q / m < p := Nat.div_lt_of_lt_mul (by rwa [Nat.mul_comm] at h)
    have hj : q % m < m := Nat.mod_lt _ hm
    have hi' : q / m < (o t).length := by rw [(ho t).len]; exact hi
    have hc : (o t)[q / m] < p := (ho t).lt _ (List.getElem_mem hi')
    have hlt : q % m * p + (o t)[q / m] < p * m := by
      have : (q % m + 1) * p ≤ m * p := Nat.mul_le_mul_right _ hj
      rw [Nat.succ_mul] at this
      rw [Nat.mul_comm p m]; omega
    obtain ⟨k, hk, e⟩ := posT_surj ho hp t _ hlt
    refine ⟨k, hk, ?_⟩
    show (o t).idxOf (posT p m o t k % p) * m + posT p m o t k / p = q
    have e1 : (q % m * p + (o t)[q / m]) % p = (o t)[q / m] := by
      rw [Nat.mul_comm, Nat.mul_add_mod, Nat.mod_eq_of_lt hc]
    have e2 : (q % m * p + (o t)[q / m]) / p = q % m := by
      rw [Nat.mul_comm, Nat.mul_add_div hp, Nat.div_eq_of_lt hc, Nat.add_zero]
    rw [e, e1, e2, (ho t).nd.idxOf_getElem, Nat.mul_comm]
    exact Nat.div_add_mod _ _
theorem packT_all (ho : ∀ t, OrdOk p (o t)) (hp : 0 < p) (hx : x.length = p * m) {P : Nat → Prop} (h : ∀ c ∈ x, P c) (t : Nat) : ∀ c ∈ packT p m o x t, P c := by
  intro c hc
  obtain ⟨q, hq, rfl⟩ := List.getElem_of_mem hc
  have hl := packT_len ho hx t
  obtain ⟨k, hk, e⟩ := posT_surj (m := m) ho hp t q (by omega)
  have := packT_pos (x := x) ho hp hk t
  rw [e, List.getD_eq_getElem?_getD, List.getElem?_eq_getElem hq, List.getD_eq_getElem?_getD, List.getElem?_eq_getElem (by omega)] at this
  simp only [Option.getD_some] at this
  rw [this]
  exact h _ (List.getElem_mem _)
/-- the dot lies in one place -/
theorem packT_dot (ho : ∀ t, OrdOk p (o t)) (hp : 0 < p) {f : Nat} (hf : f < p * m) (hx : ∀ k, k < p * m → (x.getD k 0 = 46 ↔ k = f)) (t q : Nat) (hq : q < p * m) : (packT p m o x t).getD q 0 = 46 ↔ q = posT p m o t f := by
  obtain ⟨k, hk, e⟩ := posT_surj (m := m) ho hp t q hq
  rw [← e, packT_pos ho hp hk t]
  constructor
  · intro h; rw [(hx k hk).mp h]
  · intro h
    have := packT_pos (x := x) ho hp hk t
    rw [h, packT_pos ho hp hf t] at this
    rw [← this]
    exact (hx f hf).mpr rfl
theorem posT_closed (hp : 0 < p) (d : Nat) (hm : m = p ^ (d - 1)) (k : Nat) : ∀ t, t ≤ d → posT p m o t k = k / p ^ t + p ^ (d - t) * sumT p o k t ∧ (t < d → posT p m o t k % p = k / p ^ t % p)
  | 0, h => by
    refine ⟨by simp [posT, sumT], fun _ => by simp [posT]⟩
  | t + 1, h => by
    obtain ⟨e1, e2⟩ := posT_closed hp d hm k t (by omega)
    have e3 := e2 (by omega)
    have main : posT p m o (t + 1) k = k / p ^ (t + 1) + p ^ (d - (t + 1)) * sumT p o k (t + 1) := by
      show (o t).idxOf (posT p m o t k % p) * m + posT p m o t k / p = _
      rw [e3, e1]
      have hd : d - t = (d - (t + 1)) + 1 := by omega
      have e4 : p ^ (d - t) * sumT p o k t = p * (p ^ (d - (t + 1)) * sumT p o k t) := by
        rw [hd, Nat.pow_succ, Nat.mul_comm (p ^ (d - (t + 1))) p, Nat.mul_assoc]
      have e5 : m = p ^ (d - (t + 1)) * p ^ t := by
        rw [hm, ← Nat.pow_add]; congr 1; omega
      rw [e4, Nat.add_mul_div_left _ _ hp, Nat.div_div_eq_div_mul, ← Nat.pow_succ]
      show _ = _ + p ^ (d - (t + 1)) * (sumT p o k t + (o t).idxOf (k / p ^ t % p) * p ^ t)
      have e6 : (o t).idxOf (k / p ^ t % p) * m = p ^ (d - (t + 1)) * ((o t).idxOf (k / p ^ t % p) * p ^ t) := by rw [e5]; exact Nat.mul_left_comm _ _ _
      rw [Nat.mul_add, e6]
      exact (Nat.add_comm _ _).trans (Nat.add_assoc _ _ _)
    refine ⟨main, fun h' => ?_⟩
    rw [main]
    have hd : d - (t + 1) = (d - (t + 1) - 1) + 1 := by omega
    have e7 : p ^ (d - (t + 1)) * sumT p o k (t + 1) = p * (p ^ (d - (t + 1) - 1) * sumT p o k (t + 1)) := by
      rw [← Nat.mul_assoc, Nat.mul_comm p, ← Nat.pow_succ]
      exact congrArg (fun z => p ^ z * sumT p o k (t + 1)) hd
    rw [e7, Nat.add_mul_mod_self_left]
end
theorem sumT_list (p : Nat) (o : Nat → List Nat) (k : Nat) : ∀ d, ((List.range d).map fun t => (o t).idxOf (k / p ^ t % p) * p ^ t).sum = sumT p o k d
  | 0 => rfl
  | d + 1 => by
    rw [List.range_succ, List.map_append, List.sum_append, sumT_list p o k d]; simp [sumT]

/-- a count of one thing -/
theorem cnt_none {m : Nat} {f : Nat → Nat} (h : ∀ j, j < m → f j ≠ 46) : ((List.range m).map f).count 46 = 0 := by
  rw [List.count_eq_zero]
  intro hm
  obtain ⟨j, hj, e⟩ := List.mem_map.mp hm
  exact h j (List.mem_range.mp hj) e
theorem cnt_one {f : Nat → Nat} {j0 : Nat} : ∀ {m : Nat}, (∀ j, j < m → (f j = 46 ↔ j = j0)) → j0 < m → ((List.range m).map f).count 46 = 1
  | m + 1, h, hj => by
    rw [List.range_succ, List.map_append, List.count_append]
    by_cases e : j0 = m
    · subst e
      rw [cnt_none fun j hj e => by have := (h j (by omega)).mp e; omega]
      have : f j0 = 46 := (h j0 (by omega)).mpr rfl
      simp [this]
    · rw [cnt_one (fun j hj => h j (by omega)) (by omega)]
      have : ¬ f m = 46 := fun e' => e ((h m (by omega)).mp e').symm
      simp [this]
theorem col_dot {p m q0 k : Nat} {pack : List Nat} (hp : 0 < p) (h0 : q0 < p * m) (hk : k < p) (h : ∀ q, q < p * m → (pack.getD q 0 = 46 ↔ q = q0)) : (colP p m pack k).count 46 = if k = q0 % p then 1 else 0 := by
  have hlt : ∀ j, j < m → j * p + k < p * m := fun j hj => by
    have : (j + 1) * p ≤ m * p := Nat.mul_le_mul_right _ hj
    rw [Nat.succ_mul] at this
    rw [Nat.mul_comm p m]; omega
  split
  · rename_i e
    refine cnt_one (j0 := q0 / p) (fun j hj => (h _ (hlt j hj)).trans ⟨fun e' => ?_, fun e' => ?_⟩) (Nat.div_lt_of_lt_mul h0)
    · rw [← e', Nat.mul_comm, Nat.mul_add_div hp, Nat.div_eq_of_lt hk, Nat.add_zero]
    · rw [e', e, Nat.mul_comm]; exact Nat.div_add_mod _ _
  · rename_i e
    refine cnt_none fun j hj e' => e ?_
    rw [← (h _ (hlt j hj)).mp e', Nat.mul_comm, Nat.mul_add_mod, Nat.mod_eq_of_lt hk]

theorem laid_chk : ([2, 3, 4].all fun p => (List.range p).all fun g => (List.range p).all fun a => (List.range 4).all fun t => decide ((laidP p g a t).length = p) && decide (laidP p g a t).Nodup && ((laidP p g a t).all fun x => decide (x < p)) && ((List.range p).all fun x => decide (x ∈ laidP p g a t)) && decide ((oth p g).length ≠ 0)) = true := by decide +kernel
theorem laid_ord {p g a t : Nat} (hp : p ∈ [2, 3, 4]) (hg : g < p) (ha : a < p) (ht : t < 4) : OrdOk p (laidP p g a t) ∧ (oth p g).length ≠ 0 := by
  have h := laid_chk
  rw [List.all_eq_true] at h
  have h := h p hp
  rw [List.all_eq_true] at h
  have h := h g (List.mem_range.mpr hg)
  rw [List.all_eq_true] at h
  have h := h a (List.mem_range.mpr ha)
  rw [List.all_eq_true] at h
  have h := h t (List.mem_range.mpr ht)
  simp only [Bool.and_eq_true, decide_eq_true_eq, List.all_eq_true] at h
  exact ⟨⟨h.1.1.1.1, h.1.1.1.2, h.1.1.2, fun x hx => h.1.2 x (List.mem_range.mpr hx)⟩, h.2⟩
/-- the counts of the columns, in order -/
noncomputable def oneAt (p r : Nat) : List Nat := (List.range p).map fun k => if k = r then 1 else 0
theorem one_chk : ([2, 3, 4].all fun p => (List.range p).all fun r => decide ((List.replicate (p - 1) 0 ++ [1]).Perm (oneAt p r)) && decide ((oneAt p r).idxOf 1 = r)) = true := by decide +kernel
theorem one_ok {p r : Nat} (hp : p ∈ [2, 3, 4]) (hr : r < p) : (List.replicate (p - 1) 0 ++ [1]).Perm (oneAt p r) ∧ (oneAt p r).idxOf 1 = r := by
  have h := one_chk
  rw [List.all_eq_true] at h
  have h := h p hp
  rw [List.all_eq_true] at h
  have h := h r (List.mem_range.mpr hr)
  simpa using h
end Mine
end partB8

section partB9
set_option maxRecDepth 100000
namespace Mine
/-- the letters, the tables -/
noncomputable def letters : List Nat := [97, 98, 99, 100, 101, 102, 104, 105, 107, 108, 110, 111, 115, 116, 117, 122]
noncomputable def isB1 (n : Nat) : Bool := b1.contains n || (decide (65024 ≤ n) && decide (n < 65040))
noncomputable def usedTab : List (Nat × List Nat) := (46, [46]) :: (pairsL.map fun x => (x.2, x.1)) ++ (List.range 12).flatMap fun i => letters.map fun L => (bases.getD i 0 + L - 97, [L])
noncomputable def foldB (n : Nat) : List Nat := ((usedTab.find? fun x => x.1 == n).map (·.2)).getD []
noncomputable def prepB (n : Nat) : List Nat := if isB1 n then [] else foldB n
theorem used_chk : (usedTab.all fun x => !isB1 x.1 && foldB x.1 == x.2) = true := by decide +kernel
theorem used_fold {n : Nat} {r : List Nat} (h : (n, r) ∈ usedTab) : isB1 n = false ∧ foldB n = r ∧ prepB n = r := by
  have := List.all_eq_true.mp used_chk _ h
  simp only [Bool.and_eq_true, Bool.not_eq_true', beq_iff_eq] at this
  exact ⟨this.1, this.2, by rw [prepB, this.1]; exact this.2⟩
theorem used_dot : (46, [46]) ∈ usedTab := List.mem_append_left _ List.mem_cons_self
theorem used_pair {k : List Nat} {v : Nat} (h : pairOf k = some v) : (v, k) ∈ usedTab := by
  unfold pairOf at h
  obtain ⟨x, hx, rfl⟩ := Option.map_eq_some_iff.mp h
  have h1 := List.mem_of_find?_eq_some hx
  have h2 := List.find?_some hx
  have h3 : x.1 = k := by simpa using h2
  refine List.mem_append_left _ (List.mem_cons_of_mem _ (List.mem_map.mpr ⟨x, h1, ?_⟩))
  rw [h3]
theorem used_base {i L : Nat} (hi : i < 12) (hL : L ∈ letters) : (bases.getD i 0 + L - 97, [L]) ∈ usedTab :=
  List.mem_append_right _ (List.mem_flatMap.mpr ⟨i, List.mem_range.mpr hi, List.mem_map.mpr ⟨L, hL, rfl⟩⟩)
theorem unseen_b1 (n : Nat) : isB1 (unseen n) = true := by
  unfold unseen
  have h : n % 27 < 27 := Nat.mod_lt _ (by decide)
  generalize n % 27 = k at h
  revert k
  decide

theorem spellB_used {seed deal : Nat} (pack : List Nat) (hp : ∀ n ∈ pack, n = 46 ∨ n ∈ letters) : ∀ (d k : Nat), pack.length - k ≤ d → ∀ n ∈ spellB seed deal pack k, isB1 n = true ∨ ∃ r, (n, r) ∈ usedTab := by
  intro d
  induction d with
  | zero =>
    intro k hk n hn
    rw [spellB, dif_neg (by omega)] at hn
    cases hn
  | succ d ih =>
    intro k hk n hn
    by_cases h : k < pack.length
    · rw [spellB, dif_pos h] at hn
      rcases List.mem_append.mp hn with hn | hn
      · split at hn
        · rw [List.mem_singleton.mp hn]; exact .inl (unseen_b1 _)
        · cases hn
      · split at hn
        · rcases List.mem_append.mp hn with hn | hn
          · rw [List.mem_singleton.mp hn]; exact .inr ⟨_, used_dot⟩
          · exact ih (k + 1) (by omega) n hn
        · rename_i h46
          split at hn
          · rename_i v hv
            split at hv
            · rcases List.mem_append.mp hn with hn | hn
              · rw [List.mem_singleton.mp hn]; exact .inr ⟨_, used_pair hv⟩
              · exact ih (k + 2) (by omega) n hn
            · cases hv
          · rcases List.mem_append.mp hn with hn | hn
            · rw [List.mem_singleton.mp hn]
              refine .inr ⟨_, used_base (Nat.mod_lt _ (by decide)) ?_⟩
              exact (hp _ (List.getElem_mem h)).resolve_left h46
            · exact ih (k + 1) (by omega) n hn
    · rw [spellB, dif_neg h] at hn; cases hn

theorem spellB_prep {seed deal : Nat} (pack : List Nat) (hp : ∀ n ∈ pack, n = 46 ∨ n ∈ letters) : ∀ (d k : Nat), pack.length - k ≤ d → ((spellB seed deal pack k).map prepB).flatten = pack.drop k := by
  intro d
  induction d with
  | zero =>
    intro k hk
    rw [spellB, dif_neg (by omega), List.drop_of_length_le (by omega)]; rfl
  | succ d ih =>
    intro k hk
    by_cases h : k < pack.length
    · have hd : pack.drop k = pack[k] :: pack.drop (k + 1) := List.drop_eq_getElem_cons h
      rw [spellB, dif_pos h, List.map_append, List.flatten_append]
      have e0 : ((if (k + deal + figB seed deal k) % 5 = 0 then [unseen (k + seed)] else []).map prepB).flatten = [] := by
        split
        · simp [prepB, unseen_b1]
        · rfl
      rw [e0, List.nil_append]
      split
      · rename_i h46
        rw [List.map_append, List.flatten_append, ih (k + 1) (by omega), hd, h46]
        simp [(used_fold used_dot).2.2]
      · rename_i h46
        split
        · rename_i v hv
          split at hv
          · rw [List.map_append, List.flatten_append, ih (k + 2) (by omega)]
            have e2 : pack.drop k = (pack.drop k).take 2 ++ pack.drop (k + 2) := by
              rw [← List.drop_drop]; exact (List.take_append_drop 2 _).symm
            have e1 := (used_fold (used_pair hv)).2.2
            rw [List.map_cons, e1]
            refine Eq.trans ?_ e2.symm
            simp
          · cases hv
        · rw [List.map_append, List.flatten_append, ih (k + 1) (by omega), hd]
          have e1 := (used_fold (used_base (i := figB seed deal k % 12) (Nat.mod_lt _ (by decide)) ((hp _ (List.getElem_mem h)).resolve_left h46))).2.2
          rw [List.map_cons, e1]; rfl
    · rw [spellB, dif_neg h, List.drop_of_length_le (by omega)]; rfl

theorem spellB_len (seed deal : Nat) (pack : List Nat) : ∀ (d k : Nat), pack.length - k ≤ d → (spellB seed deal pack k).length ≤ 2 * (pack.length - k) := by
  intro d
  induction d with
  | zero => intro k hk; rw [spellB, dif_neg (by omega)]; simp
  | succ d ih =>
    intro k hk
    by_cases h : k < pack.length
    · rw [spellB, dif_pos h]
      have h1 := ih (k + 1) (by omega)
      have h2 := ih (k + 2) (by omega)
      rw [List.length_append]
      have h3 : (if (k + deal + figB seed deal k) % 5 = 0 then [unseen (k + seed)] else []).length ≤ 1 := by split <;> simp
      refine Nat.le_trans (Nat.add_le_add h3 (?_ : _ ≤ 2 * (pack.length - k) - 1)) (by omega)
      split
      · rw [List.length_append]; simp; omega
      · split
        · rw [List.length_append]; simp; omega
        · rw [List.length_append]; simp; omega
    · rw [spellB, dif_neg h]; simp

/-- the rows' columns -/
theorem cut_col {p m : Nat} {pack : List Nat} (hx : pack.length = m * p) (k : Nat) (hk : k < p) : ((cutB p m pack).map fun r => (r.drop k).take 1).flatten = colP p m pack k := by
  have e : ((cutB p m pack).map fun r => (r.drop k).take 1) = (List.range m).map fun j => [pack.getD (j * p + k) 0] := by
    rw [cutB, List.map_map]
    refine List.map_congr_left fun j hj => ?_
    have hj := List.mem_range.mp hj
    have hlt : j * p + k < pack.length := by
      have : (j + 1) * p ≤ m * p := Nat.mul_le_mul_right _ hj
      rw [Nat.succ_mul] at this
      omega
    have e1 : ((pack.drop (j * p)).take p).drop k = ((pack.drop (j * p)).drop k).take (p - k) := by rw [List.drop_take]
    show (((pack.drop (j * p)).take p).drop k).take 1 = _
    rw [e1, List.drop_drop, List.take_take, List.drop_eq_getElem_cons hlt, List.getD_eq_getElem?_getD, List.getElem?_eq_getElem hlt]
    have : min 1 (p - k) = 1 := by omega
    rw [this]; rfl
  rw [e, colP]
  generalize List.range m = L
  induction L with
  | nil => rfl
  | cons a L ih => rw [List.map_cons, List.flatten_cons, ih]; rfl
/-- what a column grows to -/
theorem col_grow : ∀ (col : List Nat), ((col.map fun c => [c]).flatMap fun r => dotted r ++ [13, 10]).length = 3 * col.length + col.count 46
  | [] => rfl
  | c :: col => by
    rw [List.map_cons, List.flatMap_cons, List.length_append, col_grow col, List.count_cons, List.length_cons, List.length_append]
    by_cases e : c = 46
    · subst e; simp [dotted]; omega
    · simp [dotted, e]; omega
end Mine
end partB9

section partB10
open PySem PySem.W PyProof.Rows
set_option maxRecDepth 100000
set_option linter.unusedVariables false
namespace Mine
noncomputable def dfltB : List Nat := [25, 4, 4525701749, 4083113696, 5]
noncomputable def cutN (l : List Int) : List Nat := (l.take 5).map fun x => (x % 10 ^ 40).toNat
noncomputable def numsB (l : List Int) : List Nat := cutN l ++ dfltB.drop (cutN l).length
theorem numsB_len (l : List Int) : (numsB l).length = 5 := by
  simp [numsB, dfltB, cutN]; omega
noncomputable def nB (l : List Int) (i : Nat) : Nat := (numsB l).getD i 0
noncomputable def shapes : List (Nat × Nat) := [(3, 2), (2, 3), (4, 2), (2, 4), (3, 3)]
noncomputable def shB (l : List Int) : Nat × Nat := shapes.getD (nB l 0 % 5) (0, 0)
noncomputable def pB (l : List Int) : Nat := (shB l).1
noncomputable def dB (l : List Int) : Nat := (shB l).2
noncomputable def ctB (l : List Int) : Nat := pB l ^ dB l
noncomputable def wishB (l : List Int) : Nat := nB l 0 / 5 % ctB l
noncomputable def firstB (l : List Int) : Nat := nB l 1 % ctB l
noncomputable def cardsB (l : List Int) : List Nat := (List.range (ctB l)).map fun k => letters.getD (nB l 2 / 16 ^ k % 16) 0
noncomputable def drawnB (l : List Int) : List Nat := (cardsB l).take (firstB l) ++ [46] ++ (cardsB l).drop (firstB l + 1)
noncomputable abbrev Strs (l : List Nat) : List PV := l.map fun n : Nat => PV.str [n]
theorem Strs_drop (l : List Nat) (n : Nat) : Strs (l.drop n) = (Strs l).drop n := List.map_drop
theorem Strs_take (l : List Nat) (n : Nat) : Strs (l.take n) = (Strs l).take n := List.map_take
theorem Strs_app (l m : List Nat) : Strs (l ++ m) = Strs l ++ Strs m := List.map_append
theorem shapes_chk : ∀ s ∈ shapes, s.1 ∈ [2, 3, 4] ∧ 0 < s.1 ∧ s.1 ≤ 4 ∧ 2 ≤ s.2 ∧ s.2 ≤ 4 ∧ 0 < s.1 ^ s.2 ∧ s.1 ^ s.2 ≤ 27 ∧ s.1 ^ s.2 = s.1 * s.1 ^ (s.2 - 1) := by decide
theorem shB_mem (l : List Int) : shB l ∈ shapes := by
  have h : nB l 0 % 5 < shapes.length := Nat.mod_lt _ (by decide)
  rw [shB, getD_nat _ _ _ h]
  exact List.getElem_mem h
theorem shB_facts (l : List Int) : pB l ∈ [2, 3, 4] ∧ 0 < pB l ∧ pB l ≤ 4 ∧ 2 ≤ dB l ∧ dB l ≤ 4 ∧ 0 < ctB l ∧ ctB l ≤ 27 ∧ ctB l = pB l * pB l ^ (dB l - 1) := shapes_chk _ (shB_mem l)
theorem cardsB_len (l : List Int) : (cardsB l).length = ctB l := by simp [cardsB]
theorem firstB_lt (l : List Int) : firstB l < ctB l := Nat.mod_lt _ (shB_facts l).2.2.2.2.2.1
theorem drawnB_len (l : List Int) : (drawnB l).length = ctB l := by
  have := firstB_lt l
  simp [drawnB, cardsB_len]; omega
theorem let_mem (n : Nat) : letters.getD (n % 16) 0 ∈ letters := by
  have h : n % 16 < letters.length := Nat.mod_lt _ (by decide)
  rw [getD_nat _ _ _ h]; exact List.getElem_mem h
theorem cardsB_mem (l : List Int) : ∀ c ∈ cardsB l, c ∈ letters := by
  intro c hc
  obtain ⟨k, _, rfl⟩ := List.mem_map.mp hc
  exact let_mem _
theorem drawnB_mem (l : List Int) : ∀ c ∈ drawnB l, c = 46 ∨ c ∈ letters := by
  intro c hc
  rcases List.mem_append.mp hc with hc | hc
  · rcases List.mem_append.mp hc with hc | hc
    · exact .inr (cardsB_mem l c (List.mem_of_mem_take hc))
    · exact .inl (List.mem_singleton.mp hc)
  · exact .inr (cardsB_mem l c (List.mem_of_mem_drop hc))
theorem letters_ok : ∀ c ∈ letters, c ≠ 46 ∧ c ≠ 10 ∧ c ≠ 13 ∧ 97 ≤ c ∧ c ≤ 122 := by decide
theorem drawnB_dot (l : List Int) : ∀ k, k < ctB l → ((drawnB l).getD k 0 = 46 ↔ k = firstB l) := by
  intro k hk
  have hf := firstB_lt l
  have hc := cardsB_len l
  have ht : ((cardsB l).take (firstB l)).length = firstB l := by simp [hc]; omega
  have hno : ∀ c ∈ cardsB l, c ≠ 46 := fun c h => (letters_ok c (cardsB_mem l c h)).1
  unfold drawnB
  rw [List.getD_eq_getElem?_getD]
  by_cases h1 : k < firstB l
  · rw [List.append_assoc, List.getElem?_append_left (by omega), List.getElem?_take_of_lt h1, List.getElem?_eq_getElem (by omega)]
    refine ⟨fun h => absurd h (hno _ (List.getElem_mem _)), fun h => by omega⟩
  · by_cases h2 : k = firstB l
    · subst h2
      rw [List.append_assoc, List.getElem?_append_right (by omega), ht, Nat.sub_self]
      simp
    · rw [List.getElem?_append_right (by simp [ht]; omega), List.getElem?_drop, List.length_append, ht]
      simp only [List.length_singleton]
      rw [List.getElem?_eq_getElem (by omega)]
      exact ⟨fun h => absurd h (hno _ (List.getElem_mem _)), fun h => absurd h h2⟩

noncomputable abbrev N2 : List Str := [Str.ofString "script", Str.ofString "numbers", Str.ofString "piles", Str.ofString "deals", Str.ofString "count", Str.ofString "wish", Str.ofString "first", Str.ofString "cards", Str.ofString "drawn", Str.ofString "pack", Str.ofString "answers", Str.ofString "deal", Str.ofString "heard",
  Str.ofString "rows", Str.ofString "columns", Str.ofString "end", Str.ofString "more", Str.ofString "order", Str.ofString "orders", Str.ofString "places"]
noncomputable abbrev gl2 : List Str := [Str.ofString "len", Str.ofString "range", Str.ofString "_law_spelled", Str.ofString "_law_rows", Str.ofString "sorted", Str.ofString "_law_laid"]

theorem ev_numB {W : Wd} {c : Fc} {a : AS} {N : List Str} (l : List Int) (i : Nat) (hi : i < 5) (hN : c.N = N) {p1 p2 p3 : Pos} {k : Nat} {j : Int} (hj : j = (i : Int)) (h : At N a.ρ (Str.ofString "numbers") (.lst (Ints (numsB l)))) :
    Ev W c a (.Subscript (.Name (Str.ofString "numbers") p1) (.Constant (.int j) k p2) p3) (.int (nB l i : Nat)) := by
  subst hj
  refine ev_sub (ev_nm hN h) (ev_intc rfl) (sub_lst (by omega) (by omega) ?_)
  have h' : i < (numsB l).length := by rw [numsB_len]; exact hi
  rw [Int.toNat_natCast, List.getElem?_map, List.getElem?_eq_getElem h', nB, getD_nat _ _ _ h']; rfl

theorem phaseA {W : Wd} {c : Fc} (hf : c.Fr) (hN : c.N = N2) (hgl : c.gl = gl2) (hsc : c.env.scope = fscope (stAt progA 19)) (hlen : BN W (Str.ofString "len") "len") (l : List Int) (hl : l.length ≤ sizeLine) {post : Post} {r2 r3 r4 r5 r6 r7 r8 r9 : Option PV} {rr : List (Option PV)}
    (cont : Run W c ⟨[], [], some (.lst (l.map .int)) :: some (.lst (Ints (numsB l))) :: some (.int (pB l : Nat)) :: some (.int (dB l : Nat)) :: some (.int (ctB l : Nat)) :: some (.int (wishB l : Nat)) :: some (.int (firstB l : Nat)) :: r7 :: r8 :: r9 :: rr, false⟩ ((fbody (stAt progA 19)).drop 6) post) :
    Run W c ⟨[], [], some (.lst (l.map .int)) :: none :: r2 :: r3 :: r4 :: r5 :: r6 :: r7 :: r8 :: r9 :: rr, false⟩ (fbody (stAt progA 19)) post := by
  conv in fbody _ => whnf
  have hz : sizeLine = 16777216 := rfl
  refine rn_assign (sw_false hsc (by decide +kernel)) hf hN (p := .lst (Ints (cutN l))) ?_ (by walk_at "put_") ?_
  · refine ev_as (ev_comp (one := false) (N := N2) (sc := fscope (stAt progA 19)) (caps := []) (gl' := []) (capρ := []) (tst := fun _ => true) (n := ((l.take 5).map PV.int).length) (item := fun i => ((l.take 5).map PV.int).getD i .none) (el := fun i => .int (((cutN l).getD i 0 : Nat))) (fun _ => rfl) hN hsc (by decide +kernel) ?_ Caps.nil ?_ ?_) ?_
    · refine evI_lst (ev_as (q := .lst ((l.take 5).map PV.int)) (ev_slice_lst (lo := none) (hi := some ((5 : Nat) : Int)) (by walk_at "ev_") evP_none (evP_some (ev_intc rfl)) (by simpa using hl)) ?_) ?_ ?_
      · rw [sl_to, List.map_take]
      · intro p hp
        obtain ⟨i, _, rfl⟩ := List.mem_map.mp hp
        rfl
      · simp; omega
    · intro c' h1 h2 h3 h4 i σ K hi hq
      exact tst_nil
    · intro c' h1 h2 h3 h4 i σ K hi ht hq
      have hi' : i < (l.take 5).length := by simpa using hi
      have e1 : ((l.take 5).map PV.int).getD i .none = .int ((l.take 5)[i]) := getD_map _ _ _ _ hi'
      rw [e1]
      refine ev_as (ev_mod (ev_nm h1 (by walk_at "at_")) (ev_pow (x := 10) (n := 40) (by walk_at "ev_") (by walk_at "ev_") (by decide) (by decide +kernel)) (by decide)) ?_
      have e2 : (cutN l).getD i 0 = ((l.take 5)[i] % 10 ^ 40).toNat := getD_map _ _ _ _ hi'
      rw [e2]
      refine congrArg PV.int ?_
      rw [Int.fmod_eq_emod_of_nonneg _ (by decide)]
      rw [Int.toNat_of_nonneg (Int.emod_nonneg _ (by decide))]
      rfl
    · refine congrArg PV.lst ?_
      rw [compRes_all, show Ints (cutN l) = _ from (range_getD (cutN l) 0 (fun n : Nat => PV.int n)).symm]
      simp [cutN]
  walk_at "asg0_"
  · refine ev_as (q := .lst (Ints (numsB l))) (ev_bin (p := .lst (Ints (cutN l))) (q := .lst (Ints (dfltB.drop (cutN l).length))) (by walk_at "ev_") ?_ (bin_addl ?_)) ?_
    · refine ev_as (ev_slice_lst (l := Ints dfltB) (lo := some (((cutN l).length : Nat) : Int)) (hi := none) ?_ (evP_some ?_) evP_none (by decide)) ?_
      · refine ev_list' ?_ (by decide)
        exact evL_cons' rfl (ev_intc rfl) (evL_cons' rfl (ev_intc rfl) (evL_cons' rfl (ev_intc rfl) (evL_cons' rfl (ev_intc rfl) (evL_cons' rfl (ev_intc rfl) evL_nil))))
      · walk_at "callB_"
        · walk_at "evl_"
        · have := b_lenl (W := W) (l := Ints (cutN l)) (by simp [cutN]; omega)
          rwa [List.length_map] at this
        · omega
      · rw [sl_from, Ints_drop]
    · simp [cutN, dfltB]; omega
    · rw [numsB, Ints_app]
  · walk_at "put_"
  have hs := shB_facts l
  refine rn_unpack2 (p := .int (pB l : Nat)) (q := .int (dB l : Nat)) rfl rfl hf hN ?_ (by walk_at "put_") (by walk_at "put_") ?_
  · refine ev_sub (p := .lst (shapes.map fun s => .tup [.int (s.1 : Nat), .int (s.2 : Nat)])) ?_ (ev_modN (n := 5) (ev_numB l 0 (by decide) hN rfl (by walk_at "at_")) (ev_intc rfl) (by decide)) (sub_lst (by omega) (by omega) ?_)
    · refine ev_list' ?_ (by decide)
      have tp : ∀ {a : AS} {i j : Int} {k k1 k2 : Nat} {p q r : Pos} {x y : Nat}, i = (x : Int) → j = (y : Int) → Ev W c a (.Tuple [.Constant (.int i) k1 p, .Constant (.int j) k2 q] k r) (.tup [.int (x : Nat), .int (y : Nat)]) := fun hi hj =>
        ev_tuple' (evL_cons' rfl (ev_intc hi) (evL_cons' rfl (ev_intc hj) evL_nil)) (by show 2 ≤ 16777216; decide)
      exact evL_cons' rfl (tp rfl rfl) (evL_cons' rfl (tp rfl rfl) (evL_cons' rfl (tp rfl rfl) (evL_cons' rfl (tp rfl rfl) (evL_cons' rfl (tp rfl rfl) evL_nil))))
    · have h : nB l 0 % 5 < shapes.length := Nat.mod_lt _ (by decide)
      rw [Int.toNat_natCast, List.getElem?_map, List.getElem?_eq_getElem h, pB, dB, shB, getD_nat _ _ _ h]; rfl
  walk_at "asg0_"
  · refine ev_as (q := .int (ctB l : Nat)) (ev_powN (x := pB l) (n := dB l) (by walk_at "ev_") (by walk_at "ev_") ?_) rfl
    have h1 := hs.2.2.1
    have h2 := hs.2.2.2.2.1
    generalize pB l = x at *
    generalize dB l = y at *
    have : x = 0 ∨ x = 1 ∨ x = 2 ∨ x = 3 ∨ x = 4 := by omega
    have hb : Builtin.Int.intBits (x : Nat) ≤ 3 := by rcases this with rfl | rfl | rfl | rfl | rfl <;> decide +kernel
    have : (Builtin.Int.intBits (x : Nat) : Int) * (y : Int) ≤ 3 * 4 := by
      have : ((Builtin.Int.intBits (x : Nat) * y : Nat) : Int) ≤ ((3 * 4 : Nat) : Int) := Int.ofNat_le.mpr (Nat.mul_le_mul hb h2)
      simpa using this
    omega
  · walk_at "put_"
  walk_at "asg0_"
  · exact ev_as (q := .int (wishB l : Nat)) (ev_modN (n := ctB l) (ev_divN (n := 5) (ev_numB l 0 (by decide) hN rfl (by walk_at "at_")) (ev_intc rfl) (by decide) (by decide +kernel)) (by walk_at "ev_") (by omega)) rfl
  · walk_at "put_"
  walk_at "asg0_"
  · exact ev_as (q := .int (firstB l : Nat)) (ev_modN (n := ctB l) (ev_numB l 1 (by decide) hN rfl (by walk_at "at_")) (by walk_at "ev_") (by omega)) rfl
  · walk_at "put_"
  exact cont
end Mine
end partB10

section partB11
open PySem PySem.W PyProof.Rows
set_option maxRecDepth 100000
set_option linter.unusedVariables false
namespace Mine
theorem flat1 (L : List Nat) : (L.map fun n => [n]).flatten = L := by
  induction L with
  | nil => rfl
  | cons a L ih => rw [List.map_cons, List.flatten_cons, ih]; rfl
theorem Strs_map (L : List Nat) : (L.map fun n => [n]).map PV.str = Strs L := by rw [List.map_map]; rfl
theorem getD_ct {α : Type} (l : List α) (d : α) (f : Nat → α) (n i : Nat) (hl : l = (List.range n).map f) (hi : i < n) : l.getD i d = f i := by
  subst hl
  simp [List.getD_eq_getElem?_getD, hi]

theorem ev_join1 {W : Wd} {c : Fc} {a : AS} {o e : Expr} {apos pos : Pos} {l : List Nat} (hbase : attributeBase o (Str.ofString "join") c.env (eval o c.env) = eval o c.env) (hst : starEach [e] c.env = [(false, eval e c.env)]) (hline : (apos.endLine == pos.line) = true)
    (ho : Ev W c a o (.str [])) (he : Ev W c a e (.lst (Strs l))) (hsz : l.length ≤ sizeLine) :
    Ev W c a (.Call (.Attribute o (Str.ofString "join") apos) [e] [] pos) (.str l) := by
  have := ev_join (l := l.map fun n => [n]) hbase hst hline ho (ev_as he (congrArg PV.lst (Strs_map l).symm)) (by rw [flat1]; exact hsz)
  rwa [flat1] at this

theorem phaseB {W : Wd} {c : Fc} (hf : c.Fr) (hN : c.N = N2) (hgl : c.gl = gl2) (hsc : c.env.scope = fscope (stAt progA 19)) (hrng : W.mg (Str.ofString "range") = none ∧ W.mb (Str.ofString "range") = some (.type "range")) (l : List Int) {post : Post} {r0 r2 r3 r5 r9 : Option PV} {rr : List (Option PV)}
    (cont : ∀ b, Run W c ⟨[(b, [])], [], r0 :: some (.lst (Ints (numsB l))) :: r2 :: r3 :: some (.int (ctB l : Nat)) :: r5 :: some (.int (firstB l : Nat)) :: some (.lst (Strs (cardsB l))) :: some (.lst (Strs (drawnB l))) :: some (.str (drawnB l)) :: some (.raw (.ref b)) :: rr, false⟩ ((fbody (stAt progA 19)).drop 10) post) {r7 r8 r10 : Option PV} :
    Run W c ⟨[], [], r0 :: some (.lst (Ints (numsB l))) :: r2 :: r3 :: some (.int (ctB l : Nat)) :: r5 :: some (.int (firstB l : Nat)) :: r7 :: r8 :: r9 :: r10 :: rr, false⟩ ((fbody (stAt progA 19)).drop 6) post := by
  conv in List.drop 6 _ => whnf
  have hz : sizeLine = 16777216 := rfl
  have hs := shB_facts l
  have hcl := cardsB_len l
  have hdl := drawnB_len l
  have hft := firstB_lt l
  refine rn_comp (one := false) (N := N2) (sc := fscope (stAt progA 19)) (caps := [Str.ofString "numbers"]) (gl' := []) (capρ := [some (.lst (Ints (numsB l)))]) (tst := fun _ => true) (n := ctB l) (item := fun i => .int (i : Nat)) (el := fun i => .str [(cardsB l).getD i 0]) (fun _ => rfl) hf hN hsc (by decide +kernel) (by decide +kernel) ?_ (Caps.cons (by walk_at "at_") Caps.nil) ?_ ?_ (by walk_at "put_") ?_
  · exact evI_rangeN rfl rfl hgl (by walk_at "mem_") hrng (by walk_at "ev_") (by omega)
  · intro c' h1 h2 h3 h4 i σ K hi hq
    exact tst_nil
  · intro c' h1 h2 h3 h4 i σ K hi ht hq
    rw [getD_ct (cardsB l) 0 (fun k => letters.getD (nB l 2 / 16 ^ k % 16) 0) (ctB l) i rfl hi]
    refine ev_sub (ev_strl (l := letters) (by decide +kernel)) (ev_modN (n := 16) (ev_divN (n := 16 ^ i) (ev_numB l 2 (by decide) h1 rfl (by walk_at "at_")) (ev_powN (x := 16) (n := i) (ev_intc rfl) (ev_nm h1 (by walk_at "at_")) ?_) (by have := Nat.pow_pos (n := i) (show 0 < 16 by decide); omega) ?_) (ev_intc rfl) (by decide)) (sub_str (n := letters.getD (nB l 2 / 16 ^ i % 16) 0) (by omega) (by omega) ?_)
    · have : Builtin.Int.intBits ((16 : Nat) : Int) = 5 := by decide +kernel
      rw [this]
      omega
    · have h16 : (16 : Nat) ^ i = 2 ^ (4 * i) := by rw [Nat.pow_mul]
      rw [h16, Nat.log2_two_pow]
      omega
    · have h : nB l 2 / 16 ^ i % 16 < letters.length := Nat.mod_lt _ (by decide)
      rw [Int.toNat_natCast, getD_nat _ _ _ h, List.getElem?_eq_getElem h]
  have e0 : compRes (ctB l) (fun _ => true) (fun i => PV.str [(cardsB l).getD i 0]) = Strs (cardsB l) := by
    have := range_getD (cardsB l) 0 (fun n : Nat => PV.str [n])
    rw [hcl] at this
    rw [compRes_all]; exact this
  rw [e0]
  have hdot : (Str.ofString ".").cps.toList = [46] := by decide +kernel
  walk_at "asg0_"
  · refine ev_as (q := .lst (Strs (drawnB l))) (ev_bin (p := .lst (Strs ((cardsB l).take (firstB l) ++ [46]))) (q := .lst (Strs ((cardsB l).drop (firstB l + 1)))) ?_ ?_ (bin_addl ?_)) ?_
    · refine ev_as (ev_bin (p := .lst (Strs ((cardsB l).take (firstB l)))) (q := .lst (Strs [46])) ?_ (ev_list' (ps := [.str [46]]) (evL_cons' rfl (ev_strl hdot) evL_nil) (by show 1 ≤ 16777216; decide)) (bin_addl ?_)) ?_
      · refine ev_as (ev_slice_lst (lo := none) (hi := some ((firstB l : Nat) : Int)) (by walk_at "ev_") evP_none (evP_some (by walk_at "ev_")) (by simp; omega)) ?_
        rw [sl_to, Strs_take]
      · simp; omega
      · rw [Strs_app]
    · refine ev_as (ev_slice_lst (lo := some ((firstB l + 1 : Nat) : Int)) (hi := none) (by walk_at "ev_") (evP_some (ev_as (q := .int ((firstB l + 1 : Nat) : Int)) (ev_add (y := 1) (by walk_at "ev_") (by walk_at "ev_")) (congrArg PV.int (Int.natCast_add _ 1).symm))) evP_none (by simp; omega)) ?_
      rw [sl_from, Strs_drop]
    · simp; omega
    · rw [drawnB, Strs_app (_ ++ _)]
  · walk_at "put_"
  walk_at "asg0_"
  · exact ev_join1 (l := drawnB l) rfl rfl rfl (ev_strl (l := []) (by decide +kernel)) (by walk_at "ev_") (by omega)
  · walk_at "put_"
  refine rn_newlist hf hN fun b hb1 hb2 => ⟨_, by walk_at "put_", ?_⟩
  exact cont b
end Mine
end partB11

section partB12
open PySem PySem.W PyProof.Rows
set_option maxRecDepth 100000
set_option linter.unusedVariables false
namespace Mine
noncomputable def loopBody : Stmt → List Stmt
  | .For _ _ b _ _ => b
  | _ => []
noncomputable abbrev bodyB : List Stmt := loopBody ((fbody (stAt progA 19)).getD 10 (.Pass ⟨0, 0, 0, 0⟩))

/-- what the law needs of the world -/
structure WorldB (W : Wd) : Prop where
  len : BN W (Str.ofString "len") "len"
  srt : BN W (Str.ofString "sorted") "sorted"
  sum : BN W (Str.ofString "sum") "sum"
  rng : W.mg (Str.ofString "range") = none ∧ W.mb (Str.ofString "range") = some (.type "range")
  spelled : ∀ (seed deal : Nat) (pack : List Nat), pack.length ≤ 1000 → (∀ n ∈ pack, n = 46 ∨ n ∈ letters) → Fun W (Str.ofString "_law_spelled") 9 [.str pack, .int seed, .int deal] (.lst (Strs (spellB seed deal pack 0)))
  rows : ∀ (w m : Nat) (text : List Nat), 0 < w ∧ w < 127 → text.length = m * w → m ≤ 1000 → FunG W (Str.ofString "_law_rows") 9 [.str text, .int w] (.lst ((cutB w m text).map .str))
  laid : ∀ p g place turn : Nat, p ≤ 1000 → (oth p g).length ≠ 0 → Fun W (Str.ofString "_law_laid") 9 [.int p, .int g, .int place, .int turn] (.lst (Ints (laidP p g place turn)))
  inb1 : ∀ n : Nat, Fun W (Str.ofString "in_table_b1") 5 [.str [n]] (.bool (isB1 n))
  b3 : ∀ n r, (n, r) ∈ usedTab → Fun W (Str.ofString "map_table_b3") 5 [.str [n]] (.str r)
  quote : ∀ (L : List (List Nat)) (e : List Nat), (e = [10] ∨ e = [13] ∨ e = [13, 10]) → (∀ r ∈ L, ∀ c ∈ r, c ≠ 10 ∧ c ≠ 13) → L.flatten.length + 3 * L.length ≤ 100000 → Fun W (Str.ofString "quotedata") 5 [.str (L.flatMap (· ++ e))] (.str (L.flatMap (fun r => dotted r ++ [13, 10])))

section
variable {W : Wd} {c : Fc} {a : AS}
theorem ev_powS {l r pos} {p t : Nat} (hl : Ev W c a l (.int p)) (hr : Ev W c a r (.int t)) (hp : p ≤ 4) (ht : t ≤ 4) : Ev W c a (.BinOp l .Pow r pos) (.int ((p ^ t : Nat) : Int)) := by
  refine ev_powN hl hr ?_
  have : p = 0 ∨ p = 1 ∨ p = 2 ∨ p = 3 ∨ p = 4 := by omega
  have hb : Builtin.Int.intBits (p : Nat) ≤ 3 := by rcases this with rfl | rfl | rfl | rfl | rfl <;> decide +kernel
  have : ((Builtin.Int.intBits (p : Nat) * t : Nat) : Int) ≤ ((3 * 4 : Nat) : Int) := Int.ofNat_le.mpr (Nat.mul_le_mul hb ht)
  have h2 : (Builtin.Int.intBits (p : Nat) : Int) * (t : Int) ≤ 12 := by simpa using this
  omega
theorem ev_dig {e1 e2 e3 e4 p1 p2 p3} {x p t q : Nat} (hx : Ev W c a e1 (.int x)) (h2 : Ev W c a e2 (.int p)) (h3 : Ev W c a e3 (.int t)) (h4 : Ev W c a e4 (.int q)) (hp0 : 0 < p) (hp : p ≤ 4) (ht : t ≤ 4) (hq : q ≠ 0) :
    Ev W c a (.BinOp (.BinOp e1 .FloorDiv (.BinOp e2 .Pow e3 p1) p2) .Mod e4 p3) (.int ((x / p ^ t % q : Nat) : Int)) := by
  have h5 : p ^ t ≤ 4 ^ 4 := Nat.le_trans (Nat.pow_le_pow_left hp t) (Nat.pow_le_pow_right (by decide) ht)
  have h6 : 0 < p ^ t := Nat.pow_pos hp0
  refine ev_modN (ev_divN hx (ev_powS h2 h3 hp ht) (by omega) ?_) h4 hq
  have : (p ^ t).log2 ≤ p ^ t := Nat.log2_le_self _
  omega
end

theorem stepHeard {W : Wd} (w : WorldB W) {c : Fc} (hf : c.Fr) (hk : 9 ≤ c.k) (hN : c.N = N2) (hgl : c.gl = gl2) (hsc : c.env.scope = fscope (stAt progA 19)) (l : List Int) (t : Nat) (pk : List Nat) (hp : pk.length ≤ 1000) (hm : ∀ n ∈ pk, n = 46 ∨ n ∈ letters) {post : Post} {σ : List (Addr × List PV)} {K : List (Addr × Obj)} {r0 r2 r3 r4 r5 r6 r7 r8 r10 r12 : Option PV} {rr : List (Option PV)}
    (cont : Run W c ⟨σ, K, r0 :: some (.lst (Ints (numsB l))) :: r2 :: r3 :: r4 :: r5 :: r6 :: r7 :: r8 :: some (.str pk) :: r10 :: some (.int t) :: some (.str pk) :: rr, false⟩ (bodyB.drop 1) post) :
    Run W c ⟨σ, K, r0 :: some (.lst (Ints (numsB l))) :: r2 :: r3 :: r4 :: r5 :: r6 :: r7 :: r8 :: some (.str pk) :: r10 :: some (.int t) :: r12 :: rr, false⟩ bodyB post := by
  conv in bodyB => whnf
  have hz : sizeLine = 16777216 := rfl
  generalize hS : spellB (nB l 3) t pk 0 = S
  have hprep := spellB_prep (seed := nB l 3) (deal := t) pk hm _ 0 (Nat.le_refl _)
  have hSl := spellB_len (nB l 3) t pk _ 0 (Nat.le_refl _)
  have hu := spellB_used (seed := nB l 3) (deal := t) pk hm _ 0 (Nat.le_refl _)
  rw [hS] at hprep hSl hu
  rw [List.drop_zero] at hprep
  walk_at "asg0_"
  · refine ev_as (q := .str pk) (ev_join (l := S.map prepB) rfl rfl rfl (ev_strl (l := []) (by decide +kernel)) ?_ ?_) ?_
    · refine ev_as (ev_comp (N := N2) (sc := fscope (stAt progA 19)) (caps := []) (gl' := [Str.ofString "in_table_b1", Str.ofString "map_table_b3"]) (capρ := []) (tst := fun _ => true) (n := (Strs S).length) (one := false)
        (item := fun i => (Strs S).getD i .none) (el := fun i => .str (prepB (S.getD i 0))) (fun _ => rfl) hN hsc (by decide +kernel) (evI_lst ?_ (fun p hp => ?_) ?_) Caps.nil ?_ ?_) ?_
      · walk_at "call_"
        · refine evL_cons' rfl (by walk_at "ev_") (evL_cons' rfl (ev_numB l 3 (by decide) hN rfl (by walk_at "at_")) (evL_cons' rfl (by walk_at "ev_") evL_nil))
        · have := w.spelled (nB l 3) t pk hp hm
          rwa [hS] at this
        · omega
      · obtain ⟨i, _, rfl⟩ := List.mem_map.mp hp
        rfl
      · rw [List.length_map]; omega
      · intro c' h1 h2 h3 h4 i σ K hi hq
        exact tst_nil
      · intro c' h1 h2 h3 h4 i σ K hi ht hq
        have hi' : i < S.length := by simpa using hi
        have e1 : (Strs S).getD i .none = .str [S[i]] := getD_map _ _ _ _ hi'
        rw [e1, getD_nat _ _ _ hi']
        have hu := hu _ (List.getElem_mem hi')
        generalize S[i] = n at hu
        refine ev_if (b := isB1 n) ?_ (fun hb => ?_) (fun hb => ?_)
        · refine evB_p (p := .bool (isB1 n)) (fun _ => rfl) ?_ rfl
          walk_at "call_"
          · walk_at "evl_"
          · exact w.inb1 n
          · omega
        · rw [prepB, hb]; exact ev_strl (l := []) (by decide +kernel)
        · rcases hu with h | ⟨r, hr⟩
          · rw [hb] at h; cases h
          · rw [(used_fold hr).2.2]
            walk_at "call_"
            · walk_at "evl_"
            · exact w.b3 n r hr
            · omega
      · rw [compRes_all, ← range_getD S 0 (fun n => prepB n), List.map_map]
        simp
    · rw [hprep]; omega
    · rw [hprep]
  · walk_at "put_"
  exact cont
end Mine
end partB12

section partB13
open PySem PySem.W PyProof.Rows
set_option maxRecDepth 100000
set_option linter.unusedVariables false
namespace Mine

theorem stepRows {W : Wd} (w : WorldB W) {c : Fc} (hf : c.Fr) (hk : 9 ≤ c.k) (hN : c.N = N2) (hgl : c.gl = gl2) (l : List Int) (pk : List Nat) (m : Nat) (hp : pk.length = m * pB l) (hm : m ≤ 1000) {post : Post} {σ : List (Addr × List PV)} {K : List (Addr × Obj)} {r0 r1 r3 r4 r5 r6 r7 r8 r9 r10 r11 r13 : Option PV} {rr : List (Option PV)}
    (cont : ∀ gs, GPre c.s₀.gens gs → Run W (c.at gs) ⟨σ, K, r0 :: r1 :: some (.int (pB l : Nat)) :: r3 :: r4 :: r5 :: r6 :: r7 :: r8 :: r9 :: r10 :: r11 :: some (.str pk) :: some (.lst ((cutB (pB l) m pk).map .str)) :: rr, false⟩ (bodyB.drop 2) post) :
    Run W c ⟨σ, K, r0 :: r1 :: some (.int (pB l : Nat)) :: r3 :: r4 :: r5 :: r6 :: r7 :: r8 :: r9 :: r10 :: r11 :: some (.str pk) :: r13 :: rr, false⟩ (bodyB.drop 1) post := by
  conv in List.drop 1 _ => whnf
  have hs := shB_facts l
  refine rn_assignG rfl hf hN (evG_cl rfl rfl hgl (by walk_at "mem_") ?_ (w.rows (pB l) m pk ⟨hs.2.1, by omega⟩ hp hm) (by omega)) (by walk_at "put_") cont
  walk_at "evl_"

theorem stepCols {W : Wd} (w : WorldB W) {c : Fc} (hf : c.Fr) (hk : 9 ≤ c.k) (hN : c.N = N2) (hgl : c.gl = gl2) (hsc : c.env.scope = fscope (stAt progA 19)) (l : List Int) (pk : List Nat) (m : Nat) (hp : pk.length = m * pB l) (hm : m ≤ 1000) {post : Post} {σ : List (Addr × List PV)} {K : List (Addr × Obj)} {r0 r1 r3 r4 r5 r6 r7 r8 r9 r10 r11 r12 r14 : Option PV} {rr : List (Option PV)}
    (cont : Run W c ⟨σ, K, r0 :: r1 :: some (.int (pB l : Nat)) :: r3 :: r4 :: r5 :: r6 :: r7 :: r8 :: r9 :: r10 :: r11 :: r12 :: some (.lst ((cutB (pB l) m pk).map .str)) :: some (.lst ((List.range (pB l)).map fun k => .str (colP (pB l) m pk k))) :: rr, false⟩ (bodyB.drop 3) post) :
    Run W c ⟨σ, K, r0 :: r1 :: some (.int (pB l : Nat)) :: r3 :: r4 :: r5 :: r6 :: r7 :: r8 :: r9 :: r10 :: r11 :: r12 :: some (.lst ((cutB (pB l) m pk).map .str)) :: r14 :: rr, false⟩ (bodyB.drop 2) post := by
  conv in List.drop 2 _ => whnf
  have hz : sizeLine = 16777216 := rfl
  have hs := shB_facts l
  have hcl : (cutB (pB l) m pk).length = m := by simp [cutB]
  refine rn_assign (sw_false hsc (by decide +kernel)) hf hN (p := .lst ((List.range (pB l)).map fun k => .str (colP (pB l) m pk k))) ?_ (by walk_at "put_") cont
  refine ev_as (ev_comp (N := N2) (sc := fscope (stAt progA 19)) (caps := [Str.ofString "rows"]) (gl' := []) (capρ := [some (.lst ((cutB (pB l) m pk).map .str))]) (tst := fun _ => true) (n := pB l) (one := false)
    (item := fun i => .int (i : Nat)) (el := fun i => .str (colP (pB l) m pk i)) (fun _ => rfl) hN hsc (by decide +kernel) ?_ (Caps.cons (by walk_at "at_") Caps.nil) ?_ ?_) ?_
  · exact evI_rangeN rfl rfl hgl (by walk_at "mem_") w.rng (by walk_at "ev_") (by omega)
  · intro c' h1 h2 h3 h4 i σ K hi hq
    exact tst_nil
  · intro c' h1 h2 h3 h4 i σ K hi ht hq
    have e := cut_col (p := pB l) (m := m) (pack := pk) hp i hi
    refine ev_as (ev_join (l := (cutB (pB l) m pk).map fun r => (r.drop i).take 1) rfl rfl rfl (ev_strl (l := []) (by decide +kernel)) ?_ ?_) (congrArg PV.str e)
    · refine ev_as (ev_comp (c := c') (N := [Str.ofString "k", Str.ofString "rows"]) (hsc := h4.trans (rel_eq hsc)) (caps := [Str.ofString "k"]) (gl' := []) (capρ := [some (.int (i : Nat))]) (tst := fun _ => true) (n := ((cutB (pB l) m pk).map PV.str).length) (one := false)
        (item := fun j => ((cutB (pB l) m pk).map PV.str).getD j .none) (el := fun j => .str ((((cutB (pB l) m pk).getD j []).drop i).take 1)) (fun _ => rfl) h1 (by decide +kernel) ?_ (Caps.cons (by walk_at "at_") Caps.nil) ?_ ?_) ?_
      · refine evI_lst (ev_nm h1 (by walk_at "at_")) (fun p hp => ?_) (by rw [List.length_map, hcl]; omega)
        obtain ⟨j, _, rfl⟩ := List.mem_map.mp hp
        rfl
      · intro c2 g1 g2 g3 g4 j σ K hj hq
        exact tst_nil
      · intro c2 g1 g2 g3 g4 j σ K hj ht hq
        have hj' : j < (cutB (pB l) m pk).length := by simpa using hj
        have e1 : ((cutB (pB l) m pk).map PV.str).getD j .none = .str ((cutB (pB l) m pk)[j]) := getD_map _ _ _ _ hj'
        rw [e1, getD_nat _ _ _ hj']
        have hrl : (cutB (pB l) m pk)[j].length ≤ pB l := by simp [cutB]; omega
        refine ev_as (ev_slice_str (lo := some ((i : Nat) : Int)) (hi := some ((i + 1 : Nat) : Int)) (ev_nm g1 (by walk_at "at_")) (evP_some (ev_nm g1 (by walk_at "at_"))) (evP_some (ev_as (ev_add (y := 1) (ev_nm g1 (by walk_at "at_")) (by walk_at "ev_")) (congrArg PV.int (Int.natCast_add _ 1).symm))) (by omega)) ?_
        rw [sl_nat]
        congr 2
        omega
      · rw [compRes_all, List.length_map, List.map_map]
        exact congrArg PV.lst (range_getD (cutB (pB l) m pk) [] (fun r => PV.str ((r.drop i).take 1)))
    · rw [e, colP_len]; omega
  · rw [compRes_all]
end Mine
end partB13

section partB14
open PySem PySem.W PyProof.Rows
set_option maxRecDepth 100000
set_option linter.unusedVariables false
namespace Mine
theorem flatE (e : List Nat) (col : List Nat) : (col.map fun ch => [ch] ++ e).flatten = (col.map fun ch => [ch]).flatMap (· ++ e) := by
  rw [List.flatMap_def, List.map_map]; rfl
theorem ends_or {e : List Nat} (h : e ∈ ends) : e = [10] ∨ e = [13] ∨ e = [13, 10] := by simpa [ends] using h
theorem flat_const (col : List Nat) : (col.map fun ch => [ch]).flatten.length = col.length := by rw [flat1]

noncomputable def endB (l : List Int) (t : Nat) : List Nat := ends.getD ((t + nB l 4) % 3) []
theorem endB_mem (l : List Int) (t : Nat) : endB l t ∈ ends := by
  have h : (t + nB l 4) % 3 < ends.length := Nat.mod_lt _ (by decide)
  rw [endB, getD_nat _ _ _ h]; exact List.getElem_mem h

theorem stepEnd {W : Wd} {c : Fc} (hf : c.Fr) (hN : c.N = N2) (l : List Int) (t : Nat) {post : Post} {σ : List (Addr × List PV)} {K : List (Addr × Obj)} {r0 r2 r3 r4 r5 r6 r7 r8 r9 r10 r12 r13 r14 r15 : Option PV} {rr : List (Option PV)}
    (cont : Run W c ⟨σ, K, r0 :: some (.lst (Ints (numsB l))) :: r2 :: r3 :: r4 :: r5 :: r6 :: r7 :: r8 :: r9 :: r10 :: some (.int t) :: r12 :: r13 :: r14 :: some (.str (endB l t)) :: rr, false⟩ (bodyB.drop 4) post) :
    Run W c ⟨σ, K, r0 :: some (.lst (Ints (numsB l))) :: r2 :: r3 :: r4 :: r5 :: r6 :: r7 :: r8 :: r9 :: r10 :: some (.int t) :: r12 :: r13 :: r14 :: r15 :: rr, false⟩ (bodyB.drop 3) post := by
  conv in List.drop 3 _ => whnf
  walk_at "asg0_"
  · refine ev_sub (p := .lst (ends.map .str)) (q := .int (((t + nB l 4) % 3 : Nat) : Int)) ?_ ?_ (sub_lst (p := .str (endB l t)) (by omega) (by omega) ?_)
    · refine ev_list' ?_ (by decide)
      exact evL_cons' rfl (ev_strl (by decide +kernel)) (evL_cons' rfl (ev_strl (by decide +kernel)) (evL_cons' rfl (ev_strl (by decide +kernel)) evL_nil))
    · exact ev_modN (n := 3) (ev_as (ev_add (by walk_at "ev_") (ev_numB l 4 (by decide) hN rfl (by walk_at "at_"))) (congrArg PV.int (Int.natCast_add _ _).symm)) (ev_intc rfl) (by decide)
    · have h : (t + nB l 4) % 3 < ends.length := Nat.mod_lt _ (by decide)
      show (ends.map PV.str)[(t + nB l 4) % 3]? = some (.str (endB l t))
      rw [List.getElem?_map, List.getElem?_eq_getElem h, endB, getD_nat _ _ _ h]; rfl
  · walk_at "put_"
  exact cont

/-- what a column says -/
theorem ev_more {W : Wd} (w : WorldB W) {c : Fc} (hk : 9 ≤ c.k) {sc : Scope} (hsc : c.env.scope = sc) {N gl : List Str} (hN : c.N = N) (hgl : c.gl = gl) {σ : List (Addr × List PV)} {K : List (Addr × Obj)} {ρ : List (Option PV)} {col e : List Nat} (he : e ∈ ends) (hcol : ∀ ch ∈ col, ch ≠ 10 ∧ ch ≠ 13) (hlen : col.length ≤ 1000)
    (h1 : Str.ofString "len" ∈ gl) (h2 : Str.ofString "quotedata" ∈ gl) (hc : At N ρ (Str.ofString "column") (.str col)) (hen : At N ρ (Str.ofString "end") (.str e)) {inner : Scope} {x : Str} (hx : x = Str.ofString "card") (hok : compOk sc inner x [Str.ofString "end"] [] = true)
    {p1 p2 p3 p4 p5 p6 p7 p8 p9 p10 q1 q2 q3 q4 q5 q6 q7 q8 q9 : Pos} {k1 k2 : Nat} (hl : (p5.endLine == p6.line) = true) :
    Ev W c ⟨σ, K, ρ, false⟩ (.BinOp (.Call (.Name (Str.ofString "len") p1) [.Call (.Name (Str.ofString "quotedata") p2) [.Call (.Attribute (.Constant (.str (Str.ofString "")) k1 p3) (Str.ofString "join") p5)
      [.ListComp (.BinOp (.Name x q1) .Add (.Name (Str.ofString "end") q2) q3) [⟨.Name x q4, .Name (Str.ofString "column") q5, [], 0⟩] inner q6] [] p6] [] p7] [] p8) .Sub
      (.BinOp (.Constant (.int 3) k2 q7) .Mult (.Call (.Name (Str.ofString "len") q8) [.Name (Str.ofString "column") q9] [] p4) p9) p10) (.int (col.count 46 : Nat)) := by
  subst hx
  have hz : sizeLine = 16777216 := rfl
  have hg := col_grow col
  have hcnt := List.count_le_length (a := 46) (l := col)
  have hE := ends_or he
  have hel : e.length ≤ 2 := by rcases hE with rfl | rfl | rfl <;> simp
  have hb : Builtin.Int.intBits ((3 : Nat) : Int) = 2 := by decide +kernel
  refine ev_as (ev_sb (x := ((3 * col.length + col.count 46 : Nat) : Int)) (y := ((3 * col.length : Nat) : Int)) ?_ ?_) (congrArg PV.int (by omega))
  · have hlenf : ((col.map fun c => [c]).flatMap fun r => dotted r ++ [13, 10]).length ≤ sizeLine := by rw [hg]; omega
    refine ev_clB rfl rfl rfl hgl h1 w.len ?_ ?_ ?_ (k := 0) (ps := [.str ((col.map fun c => [c]).flatMap fun r => dotted r ++ [13, 10])])
    · refine evL_cons' rfl (p := .str ((col.map fun c => [c]).flatMap fun r => dotted r ++ [13, 10])) ?_ evL_nil
      refine ev_cl (k := 5) (ps := [.str ((col.map fun ch => [ch]).flatMap (· ++ e))]) rfl rfl hgl h2 ?_ ?_ ?_
      · refine evL_cons' rfl (p := .str ((col.map fun ch => [ch]).flatMap (· ++ e))) ?_ evL_nil
        refine ev_as (ev_join (l := col.map fun ch => [ch] ++ e) rfl rfl hl (ev_strl (l := []) (by decide +kernel)) ?_ ?_) (congrArg PV.str (flatE e col))
        · refine ev_as (ev_comp (hsc := hsc) (N := N) (caps := [Str.ofString "end"]) (gl' := []) (capρ := [some (.str e)]) (tst := fun _ => true) (n := col.length) (one := false)
            (item := fun j => .str [col.getD j 0]) (el := fun j => .str ([col.getD j 0] ++ e)) (fun _ => rfl) hN hok (evI_str (ev_nm hN hc) (by omega)) (Caps.cons hen Caps.nil) ?_ ?_) ?_
          · intro c2 g1 g2 g3 g4 j σ K hj hq
            exact tst_nil
          · intro c2 g1 g2 g3 g4 j σ K hj ht hq
            exact ev_bin (ev_nm g1 (by walk_at "at_")) (ev_nm g1 (by walk_at "at_")) (bin_adds (by simp; omega))
          · rw [compRes_all, List.map_map]
            exact congrArg PV.lst (range_getD col 0 (fun ch => PV.str ([ch] ++ e)))
        · rw [flatE]
          have := sum_le_of (l := col.map fun ch => [ch] ++ e) (B := 3) (fun x hx => by
            obtain ⟨ch, _, rfl⟩ := List.mem_map.mp hx
            simp; omega)
          rw [flatE, List.length_map] at this
          omega
      · refine w.quote (col.map fun ch => [ch]) e hE (fun r hr => ?_) (by rw [flat_const, List.length_map]; omega)
        obtain ⟨ch, hch, rfl⟩ := List.mem_map.mp hr
        intro d hd
        rw [List.mem_singleton.mp hd]; exact hcol ch hch
      · omega
    · have := b_lens (W := W) hlenf
      rwa [hg] at this
    · omega
  · refine ev_as (ev_bin (p := .int 3) (q := .int ((col.length : Nat) : Int)) (ev_intc rfl) ?_ (bin_mul (IntMulOk.of_left (by decide +kernel)))) (congrArg PV.int (by omega))
    refine ev_clB rfl rfl rfl hgl h1 w.len ?_ ?_ ?_ (k := 0) (ps := [.str col])
    · exact evL_cons' rfl (ev_nm hN hc) evL_nil
    · exact b_lens (by omega)
    · omega
end Mine
end partB14

section partB15
open PySem PySem.W PyProof.Rows
set_option maxRecDepth 100000
set_option linter.unusedVariables false
namespace Mine
theorem one_chk2 : ([2, 3, 4].all fun p => (List.range p).all fun r => decide ((NL (oneAt p r)).idxOf (1 : Int) = r) && decide ((1 : Int) ∈ NL (oneAt p r)) && decide ((NL (List.replicate (p - 1) 0 ++ [1])).Pairwise (· ≤ ·)) && decide ((oneAt p r).length = p)) = true := by decide +kernel
theorem one_ok2 {p r : Nat} (hp : p ∈ [2, 3, 4]) (hr : r < p) : (NL (oneAt p r)).idxOf (1 : Int) = r ∧ (1 : Int) ∈ NL (oneAt p r) ∧ (NL (List.replicate (p - 1) 0 ++ [1])).Pairwise (· ≤ ·) ∧ (oneAt p r).length = p := by
  have h := one_chk2
  rw [List.all_eq_true] at h
  have h := h p hp
  rw [List.all_eq_true] at h
  have h := h r (List.mem_range.mpr hr)
  simp only [Bool.and_eq_true, decide_eq_true_eq] at h
  exact ⟨h.1.1.1, h.1.1.2, h.1.2, h.2⟩
theorem zeros_one {p : Nat} (hp : p ∈ [2, 3, 4]) : (List.replicate (p - 1) [PV.int 0]).flatten ++ [PV.int 1] = (NL (List.replicate (p - 1) 0 ++ [1])).map PV.int := by
  have : p = 2 ∨ p = 3 ∨ p = 4 := by simpa using hp
  rcases this with rfl | rfl | rfl <;> rfl

theorem stepMore {W : Wd} (w : WorldB W) {c : Fc} (hf : c.Fr) (hk : 9 ≤ c.k) (hN : c.N = N2) (hgl : c.gl = gl2) (hsc : c.env.scope = fscope (stAt progA 19)) (l : List Int) (t r : Nat) {C : Nat → List Nat} (hC : ∀ k, k < pB l → (C k).count 46 = if k = r then 1 else 0) (hch : ∀ k, k < pB l → ∀ ch ∈ C k, ch ≠ 10 ∧ ch ≠ 13) (hcl : ∀ k, k < pB l → (C k).length ≤ 1000)
    {post : Post} {σ : List (Addr × List PV)} {K : List (Addr × Obj)} {r0 r1 r2 r3 r4 r5 r6 r7 r8 r9 r10 r11 r12 r13 r16 : Option PV} {rr : List (Option PV)}
    (cont : Run W c ⟨σ, K, r0 :: r1 :: r2 :: r3 :: r4 :: r5 :: r6 :: r7 :: r8 :: r9 :: r10 :: r11 :: r12 :: r13 :: some (.lst ((List.range (pB l)).map fun k => .str (C k))) :: some (.str (endB l t)) :: some (.lst (Ints (oneAt (pB l) r))) :: rr, false⟩ (bodyB.drop 5) post) :
    Run W c ⟨σ, K, r0 :: r1 :: r2 :: r3 :: r4 :: r5 :: r6 :: r7 :: r8 :: r9 :: r10 :: r11 :: r12 :: r13 :: some (.lst ((List.range (pB l)).map fun k => .str (C k))) :: some (.str (endB l t)) :: r16 :: rr, false⟩ (bodyB.drop 4) post := by
  conv in List.drop 4 _ => whnf
  have hz : sizeLine = 16777216 := rfl
  have hs := shB_facts l
  have eM : compRes ((List.range (pB l)).map fun k => PV.str (C k)).length (fun _ => true) (fun i => PV.int ((C i).count 46 : Nat)) = Ints (oneAt (pB l) r) := by
    rw [compRes_all, List.length_map, List.length_range, oneAt]
    show _ = List.map (fun n : Nat => PV.int n) (List.map (fun k => if k = r then 1 else 0) (List.range (pB l)))
    rw [List.map_map]
    refine List.map_congr_left fun k hk => ?_
    rw [hC k (List.mem_range.mp hk)]; rfl
  refine rn_comp (one := false) (N := N2) (sc := fscope (stAt progA 19)) (caps := [Str.ofString "end"]) (gl' := [Str.ofString "len", Str.ofString "quotedata"]) (capρ := [some (.str (endB l t))]) (tst := fun _ => true) (n := ((List.range (pB l)).map fun k => PV.str (C k)).length) (item := fun i => ((List.range (pB l)).map fun k => PV.str (C k)).getD i .none) (el := fun i => .int ((C i).count 46 : Nat)) (fun _ => rfl) hf hN hsc (by decide +kernel) (by decide +kernel) ?_ (Caps.cons (by walk_at "at_") Caps.nil) ?_ ?_ (by rw [eM]; walk_at "put_") cont
  · refine evI_lst (by walk_at "ev_") (fun p hp => ?_) (by rw [List.length_map, List.length_range]; omega)
    obtain ⟨i, _, rfl⟩ := List.mem_map.mp hp
    rfl
  · intro c' h1 h2 h3 h4 i σ K hi hq
    exact tst_nil
  · intro c' h1 h2 h3 h4 i σ K hi ht hq
    have hi' : i < pB l := by simpa using hi
    have e1 : ((List.range (pB l)).map fun k => PV.str (C k)).getD i .none = .str (C i) := getD_ct _ _ _ _ _ rfl hi'
    rw [e1]
    exact ev_more w (h3 ▸ hk) (h4.trans (rel_eq hsc)) h1 h2 (endB_mem l t) (hch i hi') (hcl i hi') (by walk_at "mem_") (by walk_at "mem_") (by walk_at "at_") (by walk_at "at_") rfl (by decide +kernel) rfl

theorem stepIf {W : Wd} (w : WorldB W) {c : Fc} (hf : c.Fr) (hk : 9 ≤ c.k) (hN : c.N = N2) (hgl : c.gl = gl2) (l : List Int) (r : Nat) (hr : r < pB l)
    {post : Post} {σ : List (Addr × List PV)} {K : List (Addr × Obj)} {r0 r1 r3 r4 r5 r6 r7 r8 r9 r10 r11 r12 r13 r14 r15 : Option PV} {rr : List (Option PV)}
    (cont : Run W c ⟨σ, K, r0 :: r1 :: some (.int (pB l : Nat)) :: r3 :: r4 :: r5 :: r6 :: r7 :: r8 :: r9 :: r10 :: r11 :: r12 :: r13 :: r14 :: r15 :: some (.lst (Ints (oneAt (pB l) r))) :: rr, false⟩ (bodyB.drop 6) post) :
    Run W c ⟨σ, K, r0 :: r1 :: some (.int (pB l : Nat)) :: r3 :: r4 :: r5 :: r6 :: r7 :: r8 :: r9 :: r10 :: r11 :: r12 :: r13 :: r14 :: r15 :: some (.lst (Ints (oneAt (pB l) r))) :: rr, false⟩ (bodyB.drop 5) post := by
  conv in List.drop 5 _ => whnf
  have hsb := w.srt
  have hz : sizeLine = 16777216 := rfl
  have hs := shB_facts l
  obtain ⟨o1, o2⟩ := one_ok hs.1 hr
  obtain ⟨o3, o4, o5, o6⟩ := one_ok2 hs.1 hr
  refine rn_if (b := false) (evB_as (evB_c (by with_unfolding_all rfl) (p := .lst ((NL (List.replicate (pB l - 1) 0 ++ [1])).map .int)) (q := .lst ((NL (List.replicate (pB l - 1) 0 ++ [1])).map .int)) ?_ ?_ cmp_neli) (by simp)) (fun h => by cases h) (fun _ => run_nil_then cont)
  · walk_at "callB_"
    · exact evL_cons' rfl (p := .lst ((NL (oneAt (pB l) r)).map .int)) (ev_as (q := .lst ((NL (oneAt (pB l) r)).map .int)) (by walk_at "ev_") (congrArg PV.lst (NL_pv _).symm)) evL_nil
    · exact b_sorted (by rw [List.length_map, o6]; omega) (o1.map _) o5
    · omega
  · refine ev_as (ev_bin (p := .lst (List.replicate (pB l - 1) [PV.int 0]).flatten) (q := .lst [.int 1]) ?_ (ev_list' (ps := [.int 1]) (by walk_at "evl_") (by show 1 ≤ 16777216; decide)) (bin_addl ?_)) (congrArg PV.lst (zeros_one hs.1))
    · refine ev_bin (p := .lst [.int 0]) (q := .int ((pB l - 1 : Nat) : Int)) (ev_list' (ps := [.int 0]) (by walk_at "evl_") (by show 1 ≤ 16777216; decide)) ?_ (bin_mull (by simp; omega) (by omega))
      exact ev_as (ev_sb (x := (pB l : Nat)) (y := 1) (by walk_at "ev_") (by walk_at "ev_")) (congrArg PV.int (by omega))
    · have := congrArg List.length (zeros_one hs.1)
      rw [List.length_append, List.length_map, List.length_map] at this
      rw [this]
      simp; omega
end Mine
end partB15

section partB16
open PySem PySem.W PyProof.Rows
set_option maxRecDepth 100000
set_option linter.unusedVariables false
namespace Mine

theorem stepLast {W : Wd} (w : WorldB W) {c : Fc} (hf : c.Fr) (hk : 9 ≤ c.k) (hN : c.N = N2) (hgl : c.gl = gl2) (hsc : c.env.scope = fscope (stAt progA 19)) (l : List Int) (t r m : Nat) (ht : t ≤ 4) (hr : r < pB l) (hm : m ≤ 1000) (pk A : List Nat) (hA : A.length ≤ 1000) {b : Addr}
    (ord : List Nat) (hord : ord = laidP (pB l) r (wishB l / pB l ^ t % pB l) (nB l 4 / 4 ^ t % 4)) (hoo : OrdOk (pB l) ord) (hoth : (oth (pB l) r).length ≠ 0)
    {post : Post} {K : List (Addr × Obj)} {r0 r3 r4 r6 r7 r8 r9 r12 r13 r15 r17 : Option PV} {rr : List (Option PV)}
    (hpost : ∀ X s, St W c X ⟨[(b, Ints (A ++ [r]))], K, r0 :: some (.lst (Ints (numsB l))) :: some (.int (pB l : Nat)) :: r3 :: r4 :: some (.int (wishB l : Nat)) :: r6 :: r7 :: r8 :: some (.str (nextP (pB l) m ord pk)) :: some (.raw (.ref b)) :: some (.int t) :: r12 :: r13 :: some (.lst ((List.range (pB l)).map fun k => .str (colP (pB l) m pk k))) :: r15 :: some (.lst (Ints (oneAt (pB l) r))) :: some (.lst (Ints ord)) :: rr, false⟩ s → post .next s) :
    Run W c ⟨[(b, Ints A)], K, r0 :: some (.lst (Ints (numsB l))) :: some (.int (pB l : Nat)) :: r3 :: r4 :: some (.int (wishB l : Nat)) :: r6 :: r7 :: r8 :: r9 :: some (.raw (.ref b)) :: some (.int t) :: r12 :: r13 :: some (.lst ((List.range (pB l)).map fun k => .str (colP (pB l) m pk k))) :: r15 :: some (.lst (Ints (oneAt (pB l) r))) :: r17 :: rr, false⟩ (bodyB.drop 6) post := by
  conv in List.drop 6 _ => whnf
  have hz : sizeLine = 16777216 := rfl
  have hs := shB_facts l
  obtain ⟨o3, o4, o5, o6⟩ := one_ok2 hs.1 hr
  walk_at "app_"
  · refine ev_as (ev_index (l := NL (oneAt (pB l) r)) (k := 1) rfl rfl rfl (ev_as (by walk_at "ev_") (congrArg PV.lst (NL_pv _).symm)) (by walk_at "ev_") o4 (by rw [List.length_map, o6]; omega)) (congrArg (fun n : Nat => PV.int n) o3)
  · exact OPut.here
  · rw [List.length_map]; omega
  have eA : Ints A ++ [PV.int ((r : Nat) : Int)] = Ints (A ++ [r]) := by rw [Ints_app]; rfl
  rw [eA]
  walk_at "asg0_"
  · walk_at "call_"
    · refine evL_cons' rfl (by walk_at "ev_") (evL_cons' rfl (p := .int (r : Nat)) ?_ (evL_cons' rfl (p := .int ((wishB l / pB l ^ t % pB l : Nat) : Int)) (ev_dig (by walk_at "ev_") (by walk_at "ev_") (by walk_at "ev_") (by walk_at "ev_") hs.2.1 hs.2.2.1 ht (by omega)) (evL_cons' rfl (p := .int ((nB l 4 / 4 ^ t % 4 : Nat) : Int)) ?_ evL_nil)))
      · refine ev_lo (ev_sub (p := .lst (Ints (A ++ [r]))) (q := .int (-1)) (ev_ow hN (by walk_at "at_") (by walk_at "mem_") rfl) (ev_negE (by walk_at "ev_")) (sub_lst_neg (by decide) (by simp; omega) (by decide) ?_)) rfl
        have e0 : (Ints (A ++ [r])).length = A.length + 1 := by simp
        have e1 : (-1 + ((Ints (A ++ [r])).length : Int)).toNat = A.length := by rw [e0]; omega
        rw [e1, Ints_app, List.getElem?_append_right (by simp)]
        simp
      · exact ev_dig (ev_numB l 4 (by decide) hN rfl (by walk_at "at_")) (ev_intc rfl) (by walk_at "ev_") (ev_intc rfl) (by decide) (by decide) ht (by decide)
    · have := w.laid (pB l) r (wishB l / pB l ^ t % pB l) (nB l 4 / 4 ^ t % 4) (by omega) hoth
      rwa [← hord] at this
    · omega
  · walk_at "put_"
  walk_at "asg0_"
  · refine ev_join (l := ord.map (colP (pB l) m pk)) rfl rfl rfl (ev_strl (l := []) (by decide +kernel)) ?_ ?_
    · refine ev_as (ev_comp (N := N2) (sc := fscope (stAt progA 19)) (caps := [Str.ofString "columns"]) (gl' := []) (capρ := [some (.lst ((List.range (pB l)).map fun k => .str (colP (pB l) m pk k)))]) (tst := fun _ => true) (n := (Ints ord).length) (one := false)
        (item := fun i => (Ints ord).getD i .none) (el := fun i => .str (colP (pB l) m pk (ord.getD i 0))) (fun _ => rfl) hN hsc (by decide +kernel) (evI_lst (by walk_at "ev_") (fun p hp => ?_) ?_) (Caps.cons (by walk_at "at_") Caps.nil) ?_ ?_) ?_
      · obtain ⟨i, _, rfl⟩ := List.mem_map.mp hp
        rfl
      · rw [List.length_map, hoo.len]; omega
      · intro c' h1 h2 h3 h4 i σ K hi hq
        exact tst_nil
      · intro c' h1 h2 h3 h4 i σ K hi ht hq
        have hi' : i < ord.length := by simpa using hi
        have e1 : (Ints ord).getD i .none = .int (ord[i] : Nat) := getD_map _ _ _ _ hi'
        rw [e1, getD_nat _ _ _ hi']
        have hlt := hoo.lt _ (List.getElem_mem hi')
        refine ev_sub (ev_nm h1 (by walk_at "at_")) (ev_nm h1 (by walk_at "at_")) (sub_lst (by omega) (by omega) ?_)
        rw [Int.toNat_natCast, List.getElem?_map, List.getElem?_eq_getElem (by simpa using hlt), List.getElem_range]; rfl
      · rw [compRes_all, List.length_map, List.map_map]
        exact congrArg PV.lst (range_getD ord 0 (fun k => PV.str (colP (pB l) m pk k)))
    · have := nextP_len (m := m) (pack := pk) hoo.len
      rw [nextP] at this
      rw [this]
      have : pB l * m ≤ 4 * 1000 := Nat.mul_le_mul hs.2.2.1 hm
      omega
  · walk_at "put_"
  exact run_nil hpost
end Mine
end partB16

section partB17
open PySem PySem.W PyProof.Rows
set_option maxRecDepth 100000
set_option linter.unusedVariables false
namespace Mine
noncomputable def mB (l : List Int) : Nat := pB l ^ (dB l - 1)
noncomputable def ansB (l : List Int) (t : Nat) : Nat := firstB l / pB l ^ t % pB l
noncomputable def ordB (l : List Int) (t : Nat) : List Nat := laidP (pB l) (ansB l t) (wishB l / pB l ^ t % pB l) (nB l 4 / 4 ^ t % 4)
noncomputable def pkB (l : List Int) (t : Nat) : List Nat := packT (pB l) (mB l) (ordB l) (drawnB l) t
theorem ansB_lt (l : List Int) (t : Nat) : ansB l t < pB l := Nat.mod_lt _ (shB_facts l).2.1
theorem ordB_ok (l : List Int) (t : Nat) : OrdOk (pB l) (ordB l t) ∧ (oth (pB l) (ansB l t)).length ≠ 0 :=
  laid_ord (shB_facts l).1 (ansB_lt l t) (Nat.mod_lt _ (shB_facts l).2.1) (Nat.mod_lt _ (by decide))
theorem ctB_eq (l : List Int) : ctB l = pB l * mB l := (shB_facts l).2.2.2.2.2.2.2
theorem mB_le (l : List Int) : mB l ≤ 27 := by
  have h1 := ctB_eq l
  have h2 := (shB_facts l).2.2.2.2.2.2.1
  have h3 := (shB_facts l).2.1
  have : 1 * mB l ≤ pB l * mB l := Nat.mul_le_mul_right _ h3
  omega
theorem pkB_len (l : List Int) (t : Nat) : (pkB l t).length = pB l * mB l := packT_len (fun t => (ordB_ok l t).1) ((drawnB_len l).trans (ctB_eq l)) t
theorem pkB_mem (l : List Int) (t : Nat) : ∀ c ∈ pkB l t, c = 46 ∨ c ∈ letters := packT_all (fun t => (ordB_ok l t).1) (shB_facts l).2.1 ((drawnB_len l).trans (ctB_eq l)) (drawnB_mem l) t
theorem colB_cnt (l : List Int) (t : Nat) (ht : t < dB l) (k : Nat) (hk : k < pB l) : (colP (pB l) (mB l) (pkB l t) k).count 46 = if k = ansB l t then 1 else 0 := by
  have hs := shB_facts l
  have hf : firstB l < pB l * mB l := by rw [← ctB_eq]; exact firstB_lt l
  have h := col_dot (pack := pkB l t) hs.2.1 (posT_lt (o := ordB l) (fun t => (ordB_ok l t).1) hs.2.1 hf t) hk
    (fun q hq => packT_dot (fun t => (ordB_ok l t).1) hs.2.1 hf (fun k hk => drawnB_dot l k (by rw [ctB_eq]; exact hk)) t q hq)
  have e := (posT_closed (m := mB l) (o := ordB l) hs.2.1 (dB l) rfl (firstB l) t (by omega)).2 ht
  rw [h, e]
  rfl
theorem colB_ch (l : List Int) (t : Nat) (k : Nat) (hk : k < pB l) : ∀ ch ∈ colP (pB l) (mB l) (pkB l t) k, ch ≠ 10 ∧ ch ≠ 13 := by
  intro ch h
  obtain ⟨j, hj, rfl⟩ := List.mem_map.mp h
  have hj := List.mem_range.mp hj
  have hl := pkB_len l t
  have hlt : j * pB l + k < (pkB l t).length := by
    have : (j + 1) * pB l ≤ mB l * pB l := Nat.mul_le_mul_right _ hj
    rw [Nat.succ_mul] at this
    rw [hl, Nat.mul_comm (pB l)]; omega
  rw [getD_nat _ _ _ hlt]
  rcases pkB_mem l t _ (List.getElem_mem hlt) with h | h
  · rw [h]; decide
  · exact ⟨(letters_ok _ h).2.1, (letters_ok _ h).2.2.1⟩

theorem phaseC {W : Wd} (w : WorldB W) {c : Fc} (hf : c.Fr) (hk : 9 ≤ c.k) (hN : c.N = N2) (hgl : c.gl = gl2) (hsc : c.env.scope = fscope (stAt progA 19)) (l : List Int) {b : Addr} {post : Post} {r0 : Option PV}
    (cont : ∀ gs r11 r12 r13 r14 r15 r16 r17, GPre c.s₀.gens gs → Run W (c.at gs) ⟨[(b, Ints ((List.range (dB l)).map (ansB l)))], [], [r0, some (.lst (Ints (numsB l))), some (.int (pB l : Nat)), some (.int (dB l : Nat)), some (.int (ctB l : Nat)), some (.int (wishB l : Nat)), some (.int (firstB l : Nat)), some (.lst (Strs (cardsB l))), some (.lst (Strs (drawnB l))), some (.str (pkB l (dB l))), some (.raw (.ref b)), r11, r12, r13, r14, r15, r16, r17, none, none], false⟩ ((fbody (stAt progA 19)).drop 11) post) :
    Run W c ⟨[(b, [])], [], [r0, some (.lst (Ints (numsB l))), some (.int (pB l : Nat)), some (.int (dB l : Nat)), some (.int (ctB l : Nat)), some (.int (wishB l : Nat)), some (.int (firstB l : Nat)), some (.lst (Strs (cardsB l))), some (.lst (Strs (drawnB l))), some (.str (drawnB l)), some (.raw (.ref b)), none, none, none, none, none, none, none, none, none], false⟩ ((fbody (stAt progA 19)).drop 10) post := by
  conv in List.drop 10 _ => whnf
  have hz : sizeLine = 16777216 := rfl
  have hs := shB_facts l
  have hm := mB_le l
  refine rn_forG (c := c) (gs₀ := c.s₀.gens) (N := N2) (n := dB l) (item := fun i => .int (i : Nat)) (fun _ => rfl) hf hN ?_
    (fun j gs σ K ρ => ∃ r11 r12 r13 r14 r15 r16 r17, σ = [(b, Ints ((List.range j).map (ansB l)))] ∧ K = [] ∧
      ρ = [r0, some (.lst (Ints (numsB l))), some (.int (pB l : Nat)), some (.int (dB l : Nat)), some (.int (ctB l : Nat)), some (.int (wishB l : Nat)), some (.int (firstB l : Nat)), some (.lst (Strs (cardsB l))), some (.lst (Strs (drawnB l))), some (.str (pkB l j)), some (.raw (.ref b)), r11, r12, r13, r14, r15, r16, r17, none, none] ∧ GPre c.s₀.gens gs)
    ⟨none, none, none, none, none, none, none, rfl, rfl, rfl, GPre.refl _⟩ ?_ ?_
  · exact evI_rangeN (c := c.at c.s₀.gens) rfl rfl hgl (by walk_at "mem_") w.rng (by walk_at "ev_") (by omega)
  · rintro t gs σ K ρ F ht ⟨r11, r12, r13, r14, r15, r16, r17, rfl, rfl, rfl, hpre⟩ hF
    refine ⟨_, by walk_at "put_", ?_⟩
    have hfg := hf.at gs
    have hpl := pkB_len l t
    have hpm : (pkB l t).length = mB l * pB l := by rw [hpl, Nat.mul_comm]
    have hp1 : (pkB l t).length ≤ 1000 := by
      rw [hpl, ← ctB_eq]; omega
    refine stepHeard (c := c.at gs) w hfg hk hN hgl hsc l t (pkB l t) hp1 (pkB_mem l t) ?_
    refine stepRows (c := c.at gs) w hfg hk hN hgl l (pkB l t) (mB l) hpm (by omega) fun gs2 hpre2 => ?_
    rw [Fc.at_at]
    have hf2 := hf.at gs2
    refine stepCols (c := c.at gs2) w hf2 hk hN hgl hsc l (pkB l t) (mB l) hpm (by omega) ?_
    refine stepEnd (c := c.at gs2) hf2 hN l t ?_
    refine stepMore (c := c.at gs2) w hf2 hk hN hgl hsc l t (ansB l t) (C := colP (pB l) (mB l) (pkB l t)) (colB_cnt l t ht) (colB_ch l t) (fun k hk => by rw [colP_len]; omega) ?_
    refine stepIf (c := c.at gs2) w hf2 hk hN hgl l (ansB l t) (ansB_lt l t) ?_
    refine stepLast (c := c.at gs2) w hf2 hk hN hgl hsc l t (ansB l t) (mB l) (by omega) (ansB_lt l t) (by omega) (pkB l t) ((List.range t).map (ansB l)) (by simp; omega) (ordB l t) rfl (ordB_ok l t).1 (ordB_ok l t).2 ?_
    intro X s st
    refine ⟨gs2, _, [], _, X, ⟨_, _, _, _, _, _, _, ?_, rfl, rfl, hpre.tr hpre2⟩, rfl, st⟩
    rw [List.range_succ, List.map_append]; rfl
  · rintro gs σ K ρ ⟨r11, r12, r13, r14, r15, r16, r17, rfl, rfl, rfl, hpre⟩
    exact cont gs _ _ _ _ _ _ _ hpre
end Mine
end partB17

section partB18
open PySem PySem.W PyProof.Rows
set_option maxRecDepth 100000
set_option linter.unusedVariables false
namespace Mine
theorem idx_NL (x : Nat) : ∀ L : List Nat, (NL L).idxOf ((x : Nat) : Int) = L.idxOf x
  | [] => rfl
  | a :: L => by
    show (((a : Nat) : Int) :: NL L).idxOf _ = _
    rw [List.idxOf_cons, List.idxOf_cons, idx_NL x L]
    have : (((a : Nat) : Int) == ((x : Nat) : Int)) = (a == x) := by
      rw [Bool.eq_iff_iff]
      simp only [beq_iff_eq]
      omega
    rw [this]
theorem mem_NL {x : Nat} {L : List Nat} (h : x ∈ L) : ((x : Nat) : Int) ∈ NL L := List.mem_map.mpr ⟨x, h, rfl⟩
theorem NL_sum : ∀ L : List Nat, (NL L).sum = ((L.sum : Nat) : Int)
  | [] => rfl
  | a :: L => by
    show ((a : Nat) : Int) + (NL L).sum = _
    rw [NL_sum L, List.sum_cons]; omega
theorem sum_bound {B : Nat} : ∀ (L : List Nat), (∀ x ∈ L, x ≤ B) → L.sum ≤ L.length * B
  | [], _ => by simp
  | a :: L, h => by
    have := sum_bound L fun x hx => h x (List.mem_cons_of_mem _ hx)
    have := h a List.mem_cons_self
    rw [List.sum_cons, List.length_cons, Nat.succ_mul]; omega
theorem NL_fit {L : List Nat} (h : ∀ x ∈ L, x ≤ 4096) (hl : L.length ≤ 16) : ∀ j, j < (NL L).length → InLong ((NL L).getD j 0) ∧ InLong (((NL L).take (j + 1)).sum) := by
  intro j hj
  have hj' : j < L.length := by simpa using hj
  have e1 : (NL L).getD j 0 = ((L[j] : Nat) : Int) := getD_map _ _ _ _ hj'
  have e2 : (NL L).take (j + 1) = NL (L.take (j + 1)) := List.map_take.symm
  have h1 := h _ (List.getElem_mem hj')
  have h2 := sum_bound (L.take (j + 1)) fun x hx => h x (List.mem_of_mem_take hx)
  have h3 : (L.take (j + 1)).length ≤ 16 := Nat.le_trans (List.length_take_le _ _) (by omega)
  have h4 : (L.take (j + 1)).length * 4096 ≤ 16 * 4096 := Nat.mul_le_mul_right _ h3
  rw [e1, e2, NL_sum]
  unfold InLong
  omega
noncomputable def plB (l : List Int) (k : Nat) : Nat := sumT (pB l) (ordB l) k (dB l)
theorem plB_pos (l : List Int) (k : Nat) (hk : k < ctB l) : plB l k = posT (pB l) (mB l) (ordB l) (dB l) k := by
  have h := (posT_closed (m := mB l) (o := ordB l) (shB_facts l).2.1 (dB l) rfl k (dB l) (Nat.le_refl _)).1
  rw [h, Nat.sub_self, Nat.pow_zero, Nat.one_mul, Nat.div_eq_of_lt (by exact hk), Nat.zero_add]; rfl
theorem pl_ok (l : List Int) : (List.range (ctB l)).map (fun k => (pkB l (dB l)).getD (plB l k) 0) = drawnB l := by
  have hd := drawnB_len l
  refine List.ext_getElem (by simp [hd]) fun k h1 h2 => ?_
  have hk : k < ctB l := by simpa using h1
  rw [List.getElem_map, List.getElem_range, plB_pos l k hk]
  have := packT_pos (x := drawnB l) (m := mB l) (fun t => (ordB_ok l t).1) (shB_facts l).2.1 (k := k) (by rw [← ctB_eq]; exact hk) (dB l)
  rw [getD_nat _ _ _ h2] at this
  exact this
theorem plB_lt (l : List Int) (k : Nat) (hk : k < ctB l) : plB l k < (pkB l (dB l)).length := by
  rw [plB_pos l k hk, pkB_len]
  exact posT_lt (fun t => (ordB_ok l t).1) (shB_facts l).2.1 (by rw [← ctB_eq]; exact hk) (dB l)

theorem stepChk {W : Wd} (w : WorldB W) {c : Fc} (hf : c.Fr) (hk : 9 ≤ c.k) (hN : c.N = N2) (hgl : c.gl = gl2) (hsc : c.env.scope = fscope (stAt progA 19)) (l : List Int) {b : Addr} {post : Post} {r0 r1 r5 r7 r8 : Option PV} {rr : List (Option PV)}
    (cont : Run W c ⟨[(b, Ints ((List.range (dB l)).map (ansB l)))], [], r0 :: r1 :: some (.int (pB l : Nat)) :: some (.int (dB l : Nat)) :: some (.int (ctB l : Nat)) :: r5 :: some (.int (firstB l : Nat)) :: r7 :: r8 :: some (.str (pkB l (dB l))) :: some (.raw (.ref b)) :: rr, false⟩ ((fbody (stAt progA 19)).drop 12) post) :
    Run W c ⟨[(b, Ints ((List.range (dB l)).map (ansB l)))], [], r0 :: r1 :: some (.int (pB l : Nat)) :: some (.int (dB l : Nat)) :: some (.int (ctB l : Nat)) :: r5 :: some (.int (firstB l : Nat)) :: r7 :: r8 :: some (.str (pkB l (dB l))) :: some (.raw (.ref b)) :: rr, false⟩ ((fbody (stAt progA 19)).drop 11) post := by
  conv in List.drop 11 _ => whnf
  have hz : sizeLine = 16777216 := rfl
  have hlb := w.len
  have hs := shB_facts l
  have hpl := pkB_len l (dB l)
  have hct := ctB_eq l
  refine rn_if (b := false) (evB_lo (evB_as (evB_or2 (b := false) (b' := false) ?_ fun _ => ?_) rfl)) (fun h => by cases h) (fun _ => run_nil_then cont)
  · refine evB_as (evB_c (by with_unfolding_all rfl) (p := .lst ((NL ((List.range (dB l)).map (ansB l))).map .int)) (q := .lst ((NL ((List.range (dB l)).map (ansB l))).map .int)) ?_ ?_ cmp_neli) (by simp)
    · rw [NL_pv]; exact ev_ow hN (by walk_at "at_") List.mem_cons_self rfl
    · refine ev_as (ev_comp (N := N2) (sc := fscope (stAt progA 19)) (caps := [Str.ofString "first", Str.ofString "piles"]) (gl' := []) (capρ := [some (.int (firstB l : Nat)), some (.int (pB l : Nat))]) (tst := fun _ => true) (n := dB l) (one := false)
        (item := fun i => .int (i : Nat)) (el := fun i => .int (ansB l i : Nat)) (fun _ => rfl) hN hsc (by decide +kernel) ?_ (Caps.cons (by walk_at "at_") (Caps.cons (by walk_at "at_") Caps.nil)) ?_ ?_) ?_
      · exact evI_rangeN rfl rfl hgl (by walk_at "mem_") w.rng (by walk_at "ev_") (by omega)
      · intro c' h1 h2 h3 h4 i σ K hi hq
        exact tst_nil
      · intro c' h1 h2 h3 h4 i σ K hi ht hq
        exact ev_dig (ev_nm h1 (by walk_at "at_")) (ev_nm h1 (by walk_at "at_")) (ev_nm h1 (by walk_at "at_")) (ev_nm h1 (by walk_at "at_")) hs.2.1 hs.2.2.1 (by omega) (by omega)
      · rw [compRes_all, NL_pv, List.map_map]; rfl
  · refine evB_as (evB_c (by with_unfolding_all rfl) (p := .int ((pkB l (dB l)).length : Nat)) (q := .int (ctB l : Nat)) ?_ (by walk_at "ev_") cmp_ne) (by simp; omega)
    walk_at "callB_"
    · walk_at "evl_"
    · exact b_lens (by omega)
    · omega

theorem stepOrders {W : Wd} (w : WorldB W) {c : Fc} (hf : c.Fr) (hk : 9 ≤ c.k) (hN : c.N = N2) (hgl : c.gl = gl2) (hsc : c.env.scope = fscope (stAt progA 19)) (l : List Int) {σ : List (Addr × List PV)} {K : List (Addr × Obj)} {post : Post} {r0 r4 r7 r8 r9 r10 r11 r12 r13 r14 r15 r16 r17 r18 : Option PV} {rr : List (Option PV)}
    (cont : Run W c ⟨σ, K, r0 :: some (.lst (Ints (numsB l))) :: some (.int (pB l : Nat)) :: some (.int (dB l : Nat)) :: r4 :: some (.int (wishB l : Nat)) :: some (.int (firstB l : Nat)) :: r7 :: r8 :: r9 :: r10 :: r11 :: r12 :: r13 :: r14 :: r15 :: r16 :: r17 :: some (.lst ((List.range (dB l)).map fun t => .lst (Ints (ordB l t)))) :: rr, false⟩ ((fbody (stAt progA 19)).drop 13) post) :
    Run W c ⟨σ, K, r0 :: some (.lst (Ints (numsB l))) :: some (.int (pB l : Nat)) :: some (.int (dB l : Nat)) :: r4 :: some (.int (wishB l : Nat)) :: some (.int (firstB l : Nat)) :: r7 :: r8 :: r9 :: r10 :: r11 :: r12 :: r13 :: r14 :: r15 :: r16 :: r17 :: r18 :: rr, false⟩ ((fbody (stAt progA 19)).drop 12) post := by
  conv in List.drop 12 _ => whnf
  have hz : sizeLine = 16777216 := rfl
  have hs := shB_facts l
  refine rn_assign (sw_false hsc (by decide +kernel)) hf hN (p := .lst ((List.range (dB l)).map fun t => .lst (Ints (ordB l t)))) ?_ (by walk_at "put_") cont
  refine ev_as (ev_comp (N := N2) (sc := fscope (stAt progA 19)) (caps := [Str.ofString "first", Str.ofString "numbers", Str.ofString "piles", Str.ofString "wish"]) (gl' := [Str.ofString "_law_laid"]) (capρ := [some (.int (firstB l : Nat)), some (.lst (Ints (numsB l))), some (.int (pB l : Nat)), some (.int (wishB l : Nat))]) (tst := fun _ => true) (n := dB l) (one := false)
    (item := fun i => .int (i : Nat)) (el := fun t => .lst (Ints (ordB l t))) (fun _ => rfl) hN hsc (by decide +kernel) ?_ (Caps.cons (by walk_at "at_") (Caps.cons (by walk_at "at_") (Caps.cons (by walk_at "at_") (Caps.cons (by walk_at "at_") Caps.nil)))) ?_ ?_) ?_
  · exact evI_rangeN rfl rfl hgl (by walk_at "mem_") w.rng (by walk_at "ev_") (by omega)
  · intro c' h1 h2 h3 h4 i σ K hi hq
    exact tst_nil
  · intro c' h1 h2 h3 h4 i σ K hi ht hq
    have h2' : c'.gl = [Str.ofString "_law_laid"] := h2
    walk_at "call_"
    · refine evL_cons' rfl (ev_nm h1 (by walk_at "at_")) (evL_cons' rfl (p := .int (ansB l i : Nat)) (ev_dig (ev_nm h1 (by walk_at "at_")) (ev_nm h1 (by walk_at "at_")) (ev_nm h1 (by walk_at "at_")) (ev_nm h1 (by walk_at "at_")) hs.2.1 hs.2.2.1 (by omega) (by omega)) (evL_cons' rfl (p := .int ((wishB l / pB l ^ i % pB l : Nat) : Int)) (ev_dig (ev_nm h1 (by walk_at "at_")) (ev_nm h1 (by walk_at "at_")) (ev_nm h1 (by walk_at "at_")) (ev_nm h1 (by walk_at "at_")) hs.2.1 hs.2.2.1 (by omega) (by omega)) (evL_cons' rfl (p := .int ((nB l 4 / 4 ^ i % 4 : Nat) : Int)) ?_ evL_nil)))
      exact ev_dig (ev_numB l 4 (by decide) h1 rfl (by walk_at "at_")) (ev_intc rfl) (ev_nm h1 (by walk_at "at_")) (ev_intc rfl) (by decide) (by decide) (by omega) (by decide)
    · exact w.laid (pB l) (ansB l i) (wishB l / pB l ^ i % pB l) (nB l 4 / 4 ^ i % 4) (by omega) (ordB_ok l i).2
    · omega
  · rw [compRes_all]
end Mine
end partB18

section partB19
open PySem PySem.W PyProof.Rows
set_option maxRecDepth 100000
set_option linter.unusedVariables false
namespace Mine

theorem stepPlaces {W : Wd} (w : WorldB W) {c : Fc} (hf : c.Fr) (hk : 9 ≤ c.k) (hN : c.N = N2) (hgl : c.gl = gl2) (hsc : c.env.scope = fscope (stAt progA 19)) (l : List Int) {σ : List (Addr × List PV)} {K : List (Addr × Obj)} {post : Post} {r0 r1 r5 r6 r7 r8 r9 r10 r11 r12 r13 r14 r15 r16 r17 r19 : Option PV}
    (cont : Run W c ⟨σ, K, [r0, r1, some (.int (pB l : Nat)), some (.int (dB l : Nat)), some (.int (ctB l : Nat)), r5, r6, r7, r8, r9, r10, r11, r12, r13, r14, r15, r16, r17, some (.lst ((List.range (dB l)).map fun t => .lst (Ints (ordB l t)))), some (.lst (Ints ((List.range (ctB l)).map (plB l))))], false⟩ ((fbody (stAt progA 19)).drop 14) post) :
    Run W c ⟨σ, K, [r0, r1, some (.int (pB l : Nat)), some (.int (dB l : Nat)), some (.int (ctB l : Nat)), r5, r6, r7, r8, r9, r10, r11, r12, r13, r14, r15, r16, r17, some (.lst ((List.range (dB l)).map fun t => .lst (Ints (ordB l t)))), r19], false⟩ ((fbody (stAt progA 19)).drop 13) post := by
  conv in List.drop 13 _ => whnf
  have hz : sizeLine = 16777216 := rfl
  have hs := shB_facts l
  have hsm := w.sum
  have eP : compRes (ctB l) (fun _ => true) (fun k => PV.int (plB l k : Nat)) = Ints ((List.range (ctB l)).map (plB l)) := by
    rw [compRes_all]
    show _ = List.map (fun n : Nat => PV.int n) (List.map (plB l) (List.range (ctB l)))
    rw [List.map_map]; rfl
  refine rn_comp (one := false) (N := N2) (sc := fscope (stAt progA 19)) (caps := [Str.ofString "deals", Str.ofString "orders", Str.ofString "piles"]) (gl' := [Str.ofString "sum", Str.ofString "range"]) (capρ := [some (.int (dB l : Nat)), some (.lst ((List.range (dB l)).map fun t => .lst (Ints (ordB l t)))), some (.int (pB l : Nat))]) (tst := fun _ => true) (n := ctB l) (item := fun i => .int (i : Nat)) (el := fun k => .int (plB l k : Nat)) (fun _ => rfl) hf hN hsc (by decide +kernel) (by decide +kernel) ?_ (Caps.cons (by walk_at "at_") (Caps.cons (by walk_at "at_") (Caps.cons (by walk_at "at_") Caps.nil))) ?_ ?_ (by rw [eP]; walk_at "put_") cont
  · exact evI_rangeN rfl rfl hgl (by walk_at "mem_") w.rng (by walk_at "ev_") (by omega)
  · intro c' h1 h2 h3 h4 i σ K hi hq
    exact tst_nil
  · intro c' h1 h2 h3 h4 k σ K hk' ht hq
    generalize hL : (List.range (dB l)).map (fun t => (ordB l t).idxOf (k / pB l ^ t % pB l) * pB l ^ t) = L
    have hLs : L.sum = plB l k := by rw [← hL]; exact sumT_list _ _ _ _
    have hLl : L.length = dB l := by rw [← hL]; simp
    have hLe : ∀ x ∈ L, x ≤ 4096 := by
      intro x hx
      rw [← hL] at hx
      obtain ⟨t, ht, rfl⟩ := List.mem_map.mp hx
      have ht := List.mem_range.mp ht
      have h1 := idx_lt (fun t => (ordB_ok l t).1) hs.2.1 t (k / pB l ^ t)
      have h5 : pB l ^ t ≤ 4 ^ 4 := Nat.le_trans (Nat.pow_le_pow_left hs.2.2.1 t) (Nat.pow_le_pow_right (by decide) (by omega))
      have : (ordB l t).idxOf (k / pB l ^ t % pB l) * pB l ^ t ≤ 4 * 4 ^ 4 := Nat.mul_le_mul (by omega) h5
      omega
    have hres : (NL L).sum = ((plB l k : Nat) : Int) := by rw [NL_sum, hLs]
    refine ev_as (p := .int (NL L).sum) (q := .int (plB l k : Nat)) ?_ (congrArg PV.int hres)
    walk_at "callB_"
    · refine evL_cons' rfl (p := .lst ((NL L).map .int)) ?_ evL_nil
      refine ev_as (ev_comp (c := c') (N := [Str.ofString "k", Str.ofString "deals", Str.ofString "orders", Str.ofString "piles"]) (hsc := h4.trans (rel_eq hsc)) (caps := [Str.ofString "k", Str.ofString "orders", Str.ofString "piles"]) (gl' := []) (capρ := [some (.int (k : Nat)), some (.lst ((List.range (dB l)).map fun t => .lst (Ints (ordB l t)))), some (.int (pB l : Nat))]) (tst := fun _ => true) (n := dB l) (one := false)
        (item := fun i => .int (i : Nat)) (el := fun t => .int ((ordB l t).idxOf (k / pB l ^ t % pB l) * pB l ^ t : Nat)) (fun _ => rfl) h1 (by decide +kernel) ?_ (Caps.cons (by walk_at "at_") (Caps.cons (by walk_at "at_") (Caps.cons (by walk_at "at_") Caps.nil))) ?_ ?_) ?_
      · exact evI_rangeN rfl rfl h2 (by walk_at "mem_") w.rng (ev_nm h1 (by walk_at "at_")) (by omega)
      · intro c2 g1 g2 g3 g4 j σ K hj hq
        exact tst_nil
      · intro c2 g1 g2 g3 g4 t σ K ht hh hq
        have hoo := (ordB_ok l t).1
        have hil := idx_lt (fun t => (ordB_ok l t).1) hs.2.1 t (k / pB l ^ t)
        have hmem := hoo.all _ (Nat.mod_lt (k / pB l ^ t) hs.2.1)
        refine ev_as (ev_bin (p := .int ((ordB l t).idxOf (k / pB l ^ t % pB l) : Nat)) (q := .int ((pB l ^ t : Nat) : Int)) ?_ (ev_powS (ev_nm g1 (by walk_at "at_")) (ev_nm g1 (by walk_at "at_")) hs.2.2.1 (by omega)) (bin_mul (IntMulOk.of_left ?_))) (congrArg PV.int (Int.natCast_mul _ _).symm)
        · refine ev_as (ev_index (l := NL (ordB l t)) (k := ((k / pB l ^ t % pB l : Nat) : Int)) rfl rfl rfl (ev_as (p := .lst (Ints (ordB l t))) (ev_sub (ev_nm g1 (by walk_at "at_")) (ev_nm g1 (by walk_at "at_")) (sub_lst (by omega) (by omega) ?_)) (congrArg PV.lst (NL_pv _).symm)) ?_ (mem_NL hmem) (by rw [List.length_map, hoo.len]; omega)) (congrArg (fun n : Nat => PV.int n) (idx_NL _ _))
          · rw [Int.toNat_natCast, List.getElem?_map, List.getElem?_eq_getElem (by simpa using ht), List.getElem_range]; rfl
          · exact ev_dig (ev_nm g1 (by walk_at "at_")) (ev_nm g1 (by walk_at "at_")) (ev_nm g1 (by walk_at "at_")) (ev_nm g1 (by walk_at "at_")) hs.2.1 hs.2.2.1 (by omega) (by omega)
        · generalize (ordB l t).idxOf (k / pB l ^ t % pB l) = x at hil
          have : x = 0 ∨ x = 1 ∨ x = 2 ∨ x = 3 := by omega
          rcases this with rfl | rfl | rfl | rfl <;> decide +kernel
      · rw [compRes_all, NL_pv, ← hL, List.map_map]; rfl
    · exact b_sum (NL_fit hLe (by omega))
    · omega

theorem stepRet {W : Wd} (w : WorldB W) {c : Fc} (hf : c.Fr) (hN : c.N = N2) (hsc : c.env.scope = fscope (stAt progA 19)) (l : List Int) {σ : List (Addr × List PV)} {K : List (Addr × Obj)} {r0 r1 r2 r3 r4 r5 r6 r7 r10 r11 r12 r13 r14 r15 r16 r17 r18 : Option PV} :
    Run W c ⟨σ, K, [r0, r1, r2, r3, r4, r5, r6, r7, some (.lst (Strs (drawnB l))), some (.str (pkB l (dB l))), r10, r11, r12, r13, r14, r15, r16, r17, r18, some (.lst (Ints ((List.range (ctB l)).map (plB l))))], false⟩ ((fbody (stAt progA 19)).drop 14) (fun f s => f = .ret (.bool true) ∧ Kp c.s₀ s) := by
  conv in List.drop 14 _ => whnf
  have hz : sizeLine = 16777216 := rfl
  have hs := shB_facts l
  refine run_mono (rn_ret hf (p := .bool true) ?_) (fun f s hp => ?_)
  · refine ev_as (ev_c (by with_unfolding_all rfl) (p := .lst (((drawnB l).map fun n => [n]).map .str)) (q := .lst (((drawnB l).map fun n => [n]).map .str)) ?_ ?_ cmp_eqls) (by simp)
    · rw [Strs_map]
      refine ev_as (ev_comp (N := N2) (sc := fscope (stAt progA 19)) (caps := [Str.ofString "pack"]) (gl' := []) (capρ := [some (.str (pkB l (dB l)))]) (tst := fun _ => true) (n := (Ints ((List.range (ctB l)).map (plB l))).length) (one := false)
        (item := fun i => (Ints ((List.range (ctB l)).map (plB l))).getD i .none) (el := fun i => .str [(drawnB l).getD i 0]) (fun _ => rfl) hN hsc (by decide +kernel) (evI_lst (by walk_at "ev_") (fun p hp => ?_) ?_) (Caps.cons (by walk_at "at_") Caps.nil) ?_ ?_) ?_
      · obtain ⟨i, _, rfl⟩ := List.mem_map.mp hp
        rfl
      · simp; omega
      · intro c' h1 h2 h3 h4 i σ K hi hq
        exact tst_nil
      · intro c' h1 h2 h3 h4 i σ K hi ht hq
        have hi' : i < ctB l := by simpa using hi
        have hiL : i < ((List.range (ctB l)).map (plB l)).length := by simpa using hi'
        have e1 : (Ints ((List.range (ctB l)).map (plB l))).getD i .none = .int ((((List.range (ctB l)).map (plB l))[i] : Nat) : Int) := getD_map _ _ _ _ hiL
        have e2 : ((List.range (ctB l)).map (plB l))[i] = plB l i := by rw [List.getElem_map, List.getElem_range]
        rw [e1, e2]
        have hlt := plB_lt l i hi'
        have hpl := pkB_len l (dB l)
        have hct := ctB_eq l
        have hd := drawnB_len l
        refine ev_sub (ev_nm h1 (by walk_at "at_")) (ev_nm h1 (by walk_at "at_")) (sub_str (by omega) (by omega) ?_)
        have e3 : (drawnB l).getD i 0 = (pkB l (dB l)).getD (plB l i) 0 := getD_ct _ _ _ _ _ (pl_ok l).symm hi'
        rw [Int.toNat_natCast, e3, getD_nat _ _ _ hlt, List.getElem?_eq_getElem hlt]
      · have e4 : (Ints ((List.range (ctB l)).map (plB l))).length = (drawnB l).length := by rw [drawnB_len]; simp
        rw [compRes_all, e4]
        exact congrArg PV.lst (range_getD (drawnB l) 0 (fun n => PV.str [n]))
    · rw [Strs_map]; walk_at "ev_"
  · obtain ⟨v, rfl, hr, hkp⟩ := hp
    simp only [Rep] at hr
    subst hr
    exact ⟨rfl, hkp⟩

theorem law2_run {W : Wd} (w : WorldB W) {c : Fc} (hf : c.Fr) (hk : 9 ≤ c.k) (hN : c.N = N2) (hgl : c.gl = gl2) (hsc : c.env.scope = fscope (stAt progA 19)) (l : List Int) (hl : l.length ≤ sizeLine) :
    Run W c ⟨[], [], [some (.lst (l.map .int)), none, none, none, none, none, none, none, none, none, none, none, none, none, none, none, none, none, none, none], false⟩ (fbody (stAt progA 19))
      (fun f s => f = .ret (.bool true) ∧ ∃ gs, (AllBare c.s₀.gens → AllBare gs) ∧ Kp (c.at gs).s₀ s) := by
  refine phaseA hf hN hgl hsc w.len l hl (phaseB hf hN hgl hsc w.rng l fun b => phaseC w hf hk hN hgl hsc l fun gs r11 r12 r13 r14 r15 r16 r17 hpre => ?_)
  have hfg := hf.at gs
  refine stepChk (c := c.at gs) w hfg hk hN hgl hsc l (stepOrders (c := c.at gs) w hfg hk hN hgl hsc l (stepPlaces (c := c.at gs) w hfg hk hN hgl hsc l (run_mono (stepRet (c := c.at gs) w hfg hN hsc l) fun f s h => ⟨h.1, gs, hpre.1, h.2⟩)))
end Mine
end partB19

section partK1
open PySem PySem.W PyProof.Rows
set_option maxRecDepth 100000
set_option linter.unusedVariables false
namespace Mine
noncomputable def YP (w : World) (h : Heap) : Prop := ([3, 36, 35, 41, 40, 63, 74] : List Nat).map h.get? = Ya w
theorem YP.keeps (w : World) (h h' : Heap) (y : YP w h) (k : ∀ b o, h.get? b = some o → h'.get? b = some o) : YP w h' := by
  unfold YP Ya at *
  simp only [List.map_cons, List.map_nil, List.cons.injEq, and_true] at y ⊢
  obtain ⟨y1, y2, y3, y4, y5, y6, y7⟩ := y
  exact ⟨k _ _ y1, k _ _ y2, k _ _ y3, k _ _ y4, k _ _ y5, k _ _ y6, k _ _ y7⟩

theorem args_ints {args : List WData} {s : Shared} {vals : List Value} {P : Params} (hpre : lawRow.toRowW.claim.pre args = true) (hwl : WellAll P s.heap vals args) :
    ∃ (l : List Int) (a : Addr) (vs : List Value), l.length ≤ 63 ∧ args = [.list (l.map .int)] ∧ vals = [.ref a] ∧ s.heap.get? a = some { cls := .type "list", data := .seq vs.toArray } ∧ IntsAre vs l := by
  have h1 : WShape.hasAll [] args [.list .int] = true := (pre_splitW hpre).1
  have hcond := (pre_splitW hpre).2
  obtain ⟨d, r, rfl, h2, h3⟩ := hasAllW_cons h1
  have := hasAllW_nil h3
  subst this
  cases d with
  | list xs =>
    have h4 : WShape.hasItems [] xs .int = true := by simpa [WShape.has, WShape.arms] using h2
    obtain ⟨l, rfl⟩ := items_int h4
    obtain ⟨v, vs', rfl, hv, hn⟩ := wellAll_cons_inv hwl
    cases hn
    cases hv with
    | list e w =>
      have h5 : ∀ (vs : List Value) (l : List Int), WellAll P s.heap vs (l.map .int) → IntsAre vs l := by
        intro vs
        induction vs with
        | nil => intro l w; cases l with
          | nil => exact .nil
          | cons x l => cases w
        | cons v vs ih => intro l w; cases l with
          | nil => cases w
          | cons x l =>
            cases w with
            | cons a b =>
              cases a
              exact .cons _ _ (ih l b)
      refine ⟨l, _, _, ?_, rfl, rfl, e, h5 _ _ w⟩
      have hc := condW_of hcond (by wtm_val)
      simp at hc
      omega
  | _ => simp [WShape.has, WShape.arms] at h2
end Mine
end partK1

section partK2
open PySem PySem.W PyProof.Rows
open PySem.Spec (lookup)
open PyProof.V
set_option maxRecDepth 100000
set_option linter.unusedVariables false
namespace Mine

/-- entries of a written table -/
inductive EntOf : List DictEntry → List (Int × Str) → Prop
  | nil : EntOf [] []
  | cons {es ps k v t u} : EntOf es ps → EntOf (⟨hashInt k, .int k t, .str v u⟩ :: es) ((k, v) :: ps)
theorem EntOf.append {es es' : List DictEntry} {ps ps' : List (Int × Str)} (x : EntOf es ps) (y : EntOf es' ps') : EntOf (es ++ es') (ps ++ ps') := by
  induction x with
  | nil => exact y
  | cons _ ih => exact .cons ih
theorem entL_of : ∀ (ps : List (Int × Str)) (tk : Nat), EntOf (entL tk ps) ps
  | [], _ => .nil
  | (k, v) :: r, tk => .cons (entL_of r _)
theorem entS_of : ∀ (ps : List (Int × Str)) (tk : Nat), EntOf (entS ps tk) ps
  | [], _ => .nil
  | (k, v) :: r, tk => .cons (entS_of r _)
theorem entsOf_of : ∀ (cs : List (List (Int × Str))) (tk : Nat), EntOf (entsOf tk cs) cs.flatten
  | [], _ => .nil
  | c :: cs, tk => (entL_of c tk).append (entsOf_of cs _)
theorem b3E_of : EntOf b3E b3P := by
  have := (entsOf_of (b3c0 :: b3cs) 433).append (entS_of b3last (433 + toksOf (b3c0 :: b3cs)))
  rw [List.flatten_cons, b3_split] at this
  exact this

noncomputable def b3D2 : List (PyData × PyData) := b3P.map fun x => (.int x.1, .str x.2)
theorem ent_tab {prog : Program} {w : World} {es : List DictEntry} {ps : List (Int × Str)} (x : EntOf es ps) :
    (∀ e ∈ es, ∃ k, (intKind prog w).is k e.key = true ∧ e.hash = (intKind prog w).hash k) ∧ ∃ kvs : List (Int × Value), Pairs (intKind prog w) es kvs ∧ kvs.map (·.1) = ps.map (·.1) ∧ FlatPairs PyData.int kvs (ps.map fun x => (.int x.1, .str x.2)) := by
  induction x with
  | nil => exact ⟨fun e h => (nomatch h), [], .nil, rfl, .nil⟩
  | @cons es ps k v t u _ ih =>
    obtain ⟨h1, kvs, h2, h3, h4⟩ := ih
    have hk : (intKind prog w).is k (.int k t) = true := by show (k == k) = true; simp
    refine ⟨fun e he => ?_, (k, .str v u) :: kvs, .cons hk rfl h2, by simp [h3], .cons (.str v u) h4⟩
    rcases List.mem_cons.mp he with rfl | he
    · exact ⟨k, hk, rfl⟩
    · exact h1 e he
theorem b3_nodup : (b3P.map (·.1)).Nodup := by
  have h := rises_pair b3P (-1) (Int.le_refl _) b3_rises
  rw [List.pairwise_map] at h
  rw [List.Nodup, List.pairwise_map]
  exact h.imp fun h e => h (by rw [e])
theorem b3_tab {prog : Program} {w : World} {h : Heap} {d : Addr} (hd : (d == sysModules) = false) (ho : h.get? d = some (dO b3E)) : IntTab prog w h d b3D2 := by
  obtain ⟨h1, kvs, h2, h3, h4⟩ := ent_tab (prog := prog) (w := w) b3E_of
  refine ⟨hd, kvs, ⟨_, b3E.toArray, b3E.length, ho, ⟨rfl, rfl, rfl⟩, rfl, fun e he => h1 e (by simpa using he), by simpa using h2, by rw [h3]; exact b3_nodup⟩, h4⟩

noncomputable def find3 (n : Nat) : Option Str := (b3P.find? fun x => x.1 == (n : Int)).map (·.2)
theorem find_lookup (n : Nat) : ∀ ps : List (Int × Str), lookup (.int n) (ps.map fun x => (PyData.int x.1, PyData.str x.2)) = ((ps.find? fun x => x.1 == (n : Int)).map (·.2)).map .str
  | [] => rfl
  | (k, v) :: r => by
    rw [List.map_cons, List.find?_cons]
    show (if Spec.same (.int k) (.int n) = true then _ else _) = _
    have e : Spec.same (.int k) (.int n) = (k == (n : Int)) := by simp [Spec.same]
    rw [e]
    cases h : (k == (n : Int)) with
    | true => rfl
    | false => rw [if_neg (by simp)]; exact find_lookup n r
noncomputable def chk3 (n : Nat) (r : List Nat) : Bool := match find3 n with
  | some s => s.cps.toList == r
  | none => match r with
    | [m] => (Txt.lower (strOf [n])).cps.toList == [m]
    | _ => false
theorem chk3_spec {n : Nat} {r : List Nat} (h : chk3 n r = true) : lookup (.int n) b3D2 = some (.str (strOf r)) ∨ (lookup (.int n) b3D2 = none ∧ ∃ m, r = [m] ∧ Txt.lower (strOf [n]) = strOf [m]) := by
  have hl : lookup (.int n) b3D2 = (find3 n).map .str := find_lookup n b3P
  rw [hl]
  have str_eq : ∀ (s : Str) (l : List Nat), s.cps.toList = l → s = strOf l := by
    rintro ⟨a⟩ l rfl
    simp [strOf]
  unfold chk3 at h
  split at h
  · rename_i s hs
    rw [hs]
    refine .inl ?_
    have := str_eq s r (by simpa using h)
    rw [this]; rfl
  · rename_i hs
    rw [hs]
    refine .inr ⟨rfl, ?_⟩
    split at h
    · rename_i m
      exact ⟨m, rfl, str_eq _ _ (by simpa using h)⟩
    · cases h

noncomputable def elemOk (e : Int × Value) : Bool := match e.2 with
  | .int k t => e.1 == hashInt k && (Value.int k t).scannable
  | _ => false
theorem elem_ok {prog : Program} {w : World} {l : List (Int × Value)} (h : l.all elemOk = true) : ElemsOf (intKind prog w) l := fun e he => by
  have h1 := List.all_eq_true.mp h e he
  obtain ⟨a, v⟩ := e
  unfold elemOk at h1
  split at h1
  · rename_i k t hv
    simp only at hv
    subst hv
    simp only [Bool.and_eq_true, beq_iff_eq] at h1
    exact ⟨⟨k, (by show (k == k) = true; simp), h1.1⟩, h1.2⟩
  · cases h1
noncomputable def setEs : Data → Array (Int × Value)
  | .set es _ _ => es
  | _ => #[]
noncomputable def es63 (P : Params) : Array (Int × Value) := setEs (o63 P).data
theorem set_of {prog : Program} {w : World} {h : Heap} {P : Params} (ho : h.get? 63 = some (o63 P)) : h.SetOf (intKind prog w) 63 (fun k => (es63 P).toList.any fun e => (intKind prog w).is k e.2) (es63 P).size :=
  ⟨o63 P, es63 P, _, _, ho, ⟨rfl, rfl, rfl⟩, rfl, elem_ok (by kernel_rfl!), fun k => List.any_eq_true, (by show (27 : Nat) < 4096; decide), by rfl, rfl⟩
noncomputable def set63 : List Nat := [65024, 65025, 65026, 65027, 65028, 65029, 6150, 65030, 65031, 65032, 65033, 6155, 6156, 6157, 8203, 8204, 8205, 65034, 65035, 65036, 65037, 65038, 65039, 173, 847, 8288, 65279]
theorem set63_perm : set63.Perm (b1 ++ List.range' 65024 16) := by decide +kernel
theorem set_is (prog : Program) (w : World) (P : Params) (n : Nat) : ((es63 P).toList.any fun e => (intKind prog w).is (n : Int) e.2) = isB1 n := by
  have e : ((es63 P).toList.any fun e => (intKind prog w).is (n : Int) e.2) = (set63.map fun x : Nat => (x : Int)).any fun k => k == (n : Int) := rfl
  rw [e, List.any_map, Bool.eq_iff_iff]
  have h1 : (set63.any ((fun k : Int => k == (n : Int)) ∘ fun x : Nat => (x : Int))) = true ↔ n ∈ set63 := by
    rw [List.any_eq_true]
    constructor
    · rintro ⟨x, hx, h⟩
      have : (x : Int) = n := eq_of_beq h
      rw [← Int.ofNat.inj this]; exact hx
    · exact fun h => ⟨n, h, beq_self_eq_true _⟩
  rw [h1, set63_perm.mem_iff, List.mem_append, List.mem_range'_1, isB1, Bool.or_eq_true, List.contains_iff_mem, Bool.and_eq_true, decide_eq_true_eq, decide_eq_true_eq]
end Mine
end partK2

section partK3
open PySem PySem.W PyProof.Rows
open PySem.Calls (docDef)
set_option maxRecDepth 100000
set_option linter.unusedVariables false
namespace Mine

noncomputable def b3Nat : List (Nat × List Nat) := b3P.map fun x => (x.1.toNat, x.2.cps.toList)
noncomputable def findN (n : Nat) (l : List (Nat × List Nat)) : Option (List Nat) := List.rec none (fun x _ a => bif Nat.beq x.1 n then some x.2 else a) l
theorem findN_eq (n : Nat) : ∀ ps : List (Int × Str), (∀ x ∈ ps, -1 < x.1 ∧ x.1 < 1048576) →
    findN n (ps.map fun x => (x.1.toNat, x.2.cps.toList)) = ((ps.find? fun x => x.1 == (n : Int)).map (·.2)).map fun s => s.cps.toList
  | [], _ => rfl
  | (k, v) :: r, h => by
    have hk := (h (k, v) List.mem_cons_self).1
    have e : Nat.beq k.toNat n = (k == (n : Int)) := by
      rw [Bool.eq_iff_iff, Nat.beq_eq, beq_iff_eq]
      have : -1 < k := hk
      omega
    have ih := findN_eq n r fun x hx => h x (List.mem_cons_of_mem _ hx)
    show (bif Nat.beq k.toNat n then some v.cps.toList else findN n (r.map fun x => (x.1.toNat, x.2.cps.toList))) = _
    rw [e, List.find?_cons, ih]
    cases h : (k == (n : Int)) <;> rfl
noncomputable def chkN (n : Nat) (r : List Nat) : Bool := match findN n b3Nat with
  | some s => s == r
  | none => match r with
    | [m] => (Txt.lower (strOf [n])).cps.toList == [m]
    | _ => false
theorem chkN_eq (n : Nat) (r : List Nat) : chkN n r = chk3 n r := by
  unfold chkN chk3 find3 b3Nat
  rw [findN_eq n b3P (rises_all b3P (-1) b3_rises)]
  cases (b3P.find? fun x => x.1 == (n : Int)).map (·.2) <;> rfl
noncomputable def chkAllB : Bool := usedTab.all fun x => chkN x.1 x.2
theorem chk_allB : chkAllB = true := by kernel_rfl!
theorem chk_used {n : Nat} {r : List Nat} (h : (n, r) ∈ usedTab) : chk3 n r = true := by
  rw [← chkN_eq]
  exact List.all_eq_true.mp (show (usedTab.all fun x => chkN x.1 x.2) = true from chk_allB) _ h

noncomputable def gW (w : World) (s₀ : Shared) (mg mb : Str → Option Value) (s₁ : Shared) (G : Ground viewQ looseL lawRow.toRowW.records (XL viewQ []) w s₀ mg mb s₁.heap) (Y : YP w s₁.heap) : Wd where
  prog := prog
  w := w
  mg := mg
  mb := mb
  g := fun h => Ground viewQ looseL lawRow.toRowW.records (XL viewQ []) w s₀ mg mb h ∧ YP w h
  mono := fun h h' x k => ⟨x.1.keeps XL.keeps k, YP.keeps w h h' x.2 k⟩
  ns := fun h x => x.1.T.g
  bns := fun h x => x.1.T.b
  nl := fun h x => x.1.T.nolimit

noncomputable def dictEs : Data → Array DictEntry
  | .dict es _ => es
  | _ => #[]
noncomputable def ents3 (P : Params) : Array DictEntry := dictEs (c18_3 P).data

section
variable {w : World} {s₀ s₁ : Shared} {mg mb : Str → Option Value} {G : Ground viewQ looseL lawRow.toRowW.records (XL viewQ []) w s₀ mg mb s₁.heap} {Y : YP w s₁.heap}

theorem yp_get {w : World} {h : Heap} (y : YP w h) : h.get? 3 = some (c18_3 w.params) ∧ h.get? 36 = some (hd.o_39 w.params) ∧ h.get? 35 = some (hd.o_38 w.params) ∧ h.get? 41 = some (hd.o_44 w.params) ∧ h.get? 40 = some (hd.o_43 w.params) ∧ h.get? 63 = some (o63 w.params) ∧ h.get? 74 = some (b3o74 w.params) := by
  unfold YP Ya at y
  simpa only [List.map_cons, List.map_nil, List.cons.injEq, and_true] using y

theorem mg_at (G : Ground viewQ looseL lawRow.toRowW.records (XL viewQ []) w s₀ mg mb s₁.heap) (Y : YP w s₁.heap) (n : Str) : mg n = nsFind (ents3 w.params) n := by
  obtain ⟨o, es, ep, ho, hd, _, hf⟩ := G.T.g
  have h3 := (yp_get Y).1
  have e : o = c18_3 w.params := Option.some.inj (ho.symm.trans h3)
  subst e
  have e2 : ents3 w.params = es := by rw [ents3, hd]; rfl
  rw [e2, hf n]

theorem free_at (G : Ground viewQ looseL lawRow.toRowW.records (XL viewQ []) w s₀ mg mb s₁.heap) (Y : YP w s₁.heap) {n : Str} (h : ∀ P, nsFind (ents3 P) n = none) : mg n = none := by rw [mg_at G Y, h]

theorem bn_len : BN (gW w s₀ mg mb s₁ G Y) (Str.ofString "len") "len" := ⟨free_at G Y fun P => by kernel_rfl!, (G.T.builtins _ (by decide)).trans (by kernel_rfl!)⟩
theorem bn_srt : BN (gW w s₀ mg mb s₁ G Y) (Str.ofString "sorted") "sorted" := ⟨free_at G Y fun P => by kernel_rfl!, (G.T.builtins _ (by decide)).trans (by kernel_rfl!)⟩
theorem bn_sum : BN (gW w s₀ mg mb s₁ G Y) (Str.ofString "sum") "sum" := ⟨free_at G Y fun P => by kernel_rfl!, (G.T.builtins _ (by decide)).trans (by kernel_rfl!)⟩
theorem bn_chr : BN (gW w s₀ mg mb s₁ G Y) (Str.ofString "chr") "chr" := ⟨free_at G Y fun P => by kernel_rfl!, (G.T.builtins _ (by decide)).trans (by kernel_rfl!)⟩
theorem bn_ord : BN (gW w s₀ mg mb s₁ G Y) (Str.ofString "ord") "ord" := ⟨free_at G Y fun P => by kernel_rfl!, (G.T.builtins _ (by decide)).trans (by kernel_rfl!)⟩
theorem bn_rng : (gW w s₀ mg mb s₁ G Y).mg (Str.ofString "range") = none ∧ (gW w s₀ mg mb s₁ G Y).mb (Str.ofString "range") = some (.type "range") := ⟨free_at G Y fun P => by kernel_rfl!, (G.T.builtins _ (by decide)).trans (by kernel_rfl!)⟩
end
end Mine
end partK3

section partK4
open PySem PySem.W PyProof.Rows
open PySem.Calls (docDef)
set_option maxRecDepth 100000
set_option linter.unusedVariables false
namespace Mine
noncomputable def fpos : Stmt → Pos
  | .FunctionDef _ _ _ _ _ _ _ _ _ p => p
  | _ => ⟨0, 0, 0, 0⟩
noncomputable def recAt (n : Str) (i : Nat) : DefRec := { name := n, params := fparams (stAt progA i), body := fbody (stAt progA i), scope := fscope (stAt progA i), pos := fpos (stAt progA i) }

section
variable {w : World} {s₀ s₁ : Shared} {mg mb : Str → Option Value} {G : Ground viewQ looseL lawRow.toRowW.records (XL viewQ []) w s₀ mg mb s₁.heap} {Y : YP w s₁.heap}
theorem has_of {n : Str} {i : Nat} (h : (recsOf viewQ).find? (fun e => e.name == n) = some (recAt n i)) : HasDef (gW w s₀ mg mb s₁ G Y) n (fparams (stAt progA i)) (fbody (stAt progA i)) (fscope (stAt progA i)) := by
  have hm := List.mem_of_find?_eq_some h
  obtain ⟨a, o, pm, cd, doc, h1, _⟩ := G.T.fn _ hm
  refine ⟨a, h1, fun h x => ?_⟩
  obtain ⟨a', o', pm', cd', doc', h1', h2', h3', h4'⟩ := x.1.T.fn _ hm
  have h1'' : mg n = some (.ref a') := h1'
  have h0 : mg n = some (.ref a) := h1
  rw [h0] at h1''
  have e : a = a' := by injection h1'' with e; injection e
  subst e
  exact ⟨o', pm', cd', doc', h2', h3', h4'⟩
end
theorem rec_5 : (recsOf viewQ).find? (fun e => e.name == Str.ofString "quotedata") = some (recAt (Str.ofString "quotedata") 5) := by kernel_rfl!
theorem rec_8 : (recsOf viewQ).find? (fun e => e.name == Str.ofString "_grouping_intervals") = some (recAt (Str.ofString "_grouping_intervals") 8) := by kernel_rfl!
theorem rec_11 : (recsOf viewQ).find? (fun e => e.name == Str.ofString "in_table_b1") = some (recAt (Str.ofString "in_table_b1") 11) := by kernel_rfl!
theorem rec_13 : (recsOf viewQ).find? (fun e => e.name == Str.ofString "map_table_b3") = some (recAt (Str.ofString "map_table_b3") 13) := by kernel_rfl!
theorem rec_15 : (recsOf viewQ).find? (fun e => e.name == Str.ofString "_law_unseen") = some (recAt (Str.ofString "_law_unseen") 15) := by kernel_rfl!
theorem rec_16 : (recsOf viewQ).find? (fun e => e.name == Str.ofString "_law_spelled") = some (recAt (Str.ofString "_law_spelled") 16) := by kernel_rfl!
theorem rec_17 : (recsOf viewQ).find? (fun e => e.name == Str.ofString "_law_rows") = some (recAt (Str.ofString "_law_rows") 17) := by kernel_rfl!
theorem rec_18 : (recsOf viewQ).find? (fun e => e.name == Str.ofString "_law_laid") = some (recAt (Str.ofString "_law_laid") 18) := by kernel_rfl!
theorem rec_19 : (recsOf viewQ).find? (fun e => e.name == Str.ofString "law") = some (recAt (Str.ofString "law") 19) := by kernel_rfl!
end Mine
end partK4

section partK5
open PySem PySem.W PyProof.Rows
open PySem.Calls (docDef)
open PySem.Builtin.Re
set_option maxRecDepth 100000
set_option linter.unusedVariables false
namespace Mine
noncomputable def fldsOf : Data → Array Value
  | .fields fs => fs
  | _ => #[]
noncomputable def seqOf : Data → Array Value
  | .seq xs _ => xs
  | _ => #[]
noncomputable def seqN : Data → Nat
  | .seq _ n => n
  | _ => 0
theorem pat1_of {h : Heap} {P : Params} (h1 : h.get? 36 = some (hd.o_39 P)) (h2 : h.get? 35 = some (hd.o_38 P)) : PatObj h 36 code1 :=
  ⟨⟨_, fldsOf (hd.o_39 P).data, 35, _, seqOf (hd.o_38 P).data, seqN (hd.o_38 P).data, h1, by kernel_rfl!, by kernel_rfl!, by kernel_rfl!, by kernel_rfl!, h2, by kernel_rfl!, by kernel_rfl!⟩, _, h1, by kernel_rfl!, by kernel_rfl!⟩
theorem pat2_of {h : Heap} {P : Params} (h1 : h.get? 41 = some (hd.o_44 P)) (h2 : h.get? 40 = some (hd.o_43 P)) : PatObj h 41 code2 :=
  ⟨⟨_, fldsOf (hd.o_44 P).data, 40, _, seqOf (hd.o_43 P).data, seqN (hd.o_43 P).data, h1, by kernel_rfl!, by kernel_rfl!, by kernel_rfl!, by kernel_rfl!, h2, by kernel_rfl!, by kernel_rfl!⟩, _, h1, by kernel_rfl!, by kernel_rfl!⟩

noncomputable def gRaise : Stmt → List Stmt
  | .FunctionDef _ _ [_, .For _ _ [_, .If _ [.If _ r _ _, _] _ _, _, _] _ _] _ _ _ _ _ _ _ => r
  | _ => []
noncomputable def gP (b : Nat) : Nat → Pos
  | 0 => ⟨b + 1, 4, b + 1, 17⟩
  | 1 => ⟨b + 1, 20, b + 1, 24⟩
  | 2 => ⟨b + 1, 4, b + 1, 24⟩
  | 3 => ⟨b + 2, 8, b + 2, 16⟩
  | 29 => ⟨b + 2, 20, b + 2, 28⟩
  | 30 => ⟨b + 2, 4, b + 11, 32⟩
  | 4 => ⟨b + 3, 11, b + 3, 19⟩
  | 5 => ⟨b + 3, 23, b + 3, 31⟩
  | 6 => ⟨b + 3, 11, b + 3, 31⟩
  | 7 => ⟨b + 4, 12, b + 4, 18⟩
  | 8 => ⟨b + 3, 8, b + 4, 18⟩
  | 9 => ⟨b + 5, 11, b + 5, 19⟩
  | 10 => ⟨b + 5, 23, b + 5, 24⟩
  | 11 => ⟨b + 5, 11, b + 5, 24⟩
  | 12 => ⟨b + 5, 8, b + 9, 35⟩
  | 13 => ⟨b + 6, 15, b + 6, 28⟩
  | 14 => ⟨b + 6, 32, b + 6, 36⟩
  | 15 => ⟨b + 6, 15, b + 6, 36⟩
  | 16 => ⟨b + 6, 12, b + 7, 52⟩
  | 18 => ⟨b + 8, 18, b + 8, 22⟩
  | 19 => ⟨b + 8, 12, b + 9, 35⟩
  | 20 => ⟨b + 9, 22, b + 9, 35⟩
  | 21 => ⟨b + 9, 16, b + 9, 35⟩
  | 22 => ⟨b + 9, 16, b + 9, 35⟩
  | 23 => ⟨b + 10, 14, b + 10, 22⟩
  | 24 => ⟨b + 10, 8, b + 10, 22⟩
  | 25 => ⟨b + 10, 8, b + 10, 22⟩
  | 26 => ⟨b + 11, 8, b + 11, 21⟩
  | 27 => ⟨b + 11, 24, b + 11, 32⟩
  | 28 => ⟨b + 11, 8, b + 11, 32⟩
  | _ => ⟨0, 0, 0, 0⟩
theorem gbody_is : fbody (stAt progA 8) = gBody (gP 10) (gRaise (stAt progA 8)) := by kernel_rfl!
theorem gscope_is : GenScope (fscope (stAt progA 8)) := ⟨by kernel_rfl!, by kernel_rfl!, by kernel_rfl!, by kernel_rfl!, by kernel_rfl!, by kernel_rfl!, by kernel_rfl!, by decide +kernel⟩

section
variable {w : World} {s₀ s₁ : Shared} {mg mb : Str → Option Value} {G : Ground viewQ looseL lawRow.toRowW.records (XL viewQ []) w s₀ mg mb s₁.heap} {Y : YP w s₁.heap}

theorem strTok {mg : Str → Option Value} {P : Params} {n : Str} (s : Str) (hm : mg n = nsFind (ents3 P) n) (h : (match nsFind (ents3 P) n with | some (.str x _) => x == s | _ => false) = true) : ∃ t, mg n = some (.str s t) := by
  rw [← hm] at h
  split at h
  · rename_i x t hx
    exact ⟨t, by rw [hx, beq_iff_eq.mp h]⟩
  · cases h
theorem intTok {mg : Str → Option Value} {P : Params} {n : Str} (s : Int) (hm : mg n = nsFind (ents3 P) n) (h : (match nsFind (ents3 P) n with | some (.int x _) => x == s | _ => false) = true) : ∃ t, mg n = some (.int s t) := by
  rw [← hm] at h
  split at h
  · rename_i x t hx
    exact ⟨t, by rw [hx, beq_iff_eq.mp h]⟩
  · cases h

theorem qworld1 : QWorld (gW w s₀ mg mb s₁ G Y) 36 41 where
  r1 := (mg_at G Y _).trans (by kernel_rfl!)
  r2 := (mg_at G Y _).trans (by kernel_rfl!)
  cr := strTok (strOf [13, 10]) (mg_at G Y (Str.ofString "CRLF")) (by kernel_rfl!)
  o1 := fun h x => pat1_of (yp_get x.2).2.1 (yp_get x.2).2.2.1
  o2 := fun h x => pat2_of (yp_get x.2).2.2.2.1 (yp_get x.2).2.2.2.2.1

theorem gfun1 : GFun (gW w s₀ mg mb s₁ G Y) (gP 10) (gRaise (stAt progA 8)) where
  ex := ⟨fparams (stAt progA 8), fscope (stAt progA 8), by rw [← gbody_is]; exact has_of rec_8, gscope_is, fun pm cd doc v => by rfl⟩
  cm := intTok 127 (mg_at G Y nCm) (by kernel_rfl!)

theorem world2 : WorldB (gW w s₀ mg mb s₁ G Y) where
  len := bn_len
  srt := bn_srt
  sum := bn_sum
  rng := bn_rng
  spelled := fun seed deal pack hp hm => spelledB_ok (has_of rec_16) bn_len bn_chr bn_ord (fun n => unseen_ok (has_of rec_15) bn_chr n) seed deal pack hp fun n hn => (hm n hn).imp id fun h => ⟨(letters_ok n h).2.2.2.1, (letters_ok n h).2.2.2.2⟩
  rows := fun v m text hw hm hml => rowsB_ok (has_of rec_17) bn_len gfun1 v m text hw hm hml
  laid := fun p g place turn hp ho => laid_ok (has_of rec_18) bn_len bn_rng p g place turn hp ho
  inb1 := fun n => by
    have := inb1_ok (has_of (G := G) (Y := Y) rec_11) bn_ord (b := 63) ((mg_at G Y _).trans (by kernel_rfl!)) (fun h x => set_of (yp_get x.2).2.2.2.2.2.1) n
    rwa [set_is] at this
  b3 := fun n r h => b3fun_ok (has_of rec_13) bn_ord (b := 74) ((mg_at G Y _).trans (by kernel_rfl!)) (fun h x => b3_tab (by decide) (yp_get x.2).2.2.2.2.2.2) n r (chk3_spec (chk_used h))
  quote := fun L e he hL hsz => quote_ok (has_of rec_5) (qworld1 (G := G) (Y := Y)) L e he hL hsz
end
end Mine
end partK5

open PySem PySem.W PyProof.Rows
open PySem.Calls (docDef)
set_option maxRecDepth 100000
set_option linter.unusedVariables false
namespace Mine

theorem goodG_true {args : List WData} {cl : Str → Option Addr} {mean : ExcName → Option Value} {s₁ s' : Shared} (hk : ∀ b o, s₁.heap.get? b = some o → s'.heap.get? b = some o) (ho : s'.os = s₁.os) (hg : AllBare s'.gens) :
    GoodWG lawRow.toRowW.claim cl mean args s₁ (.ok (.ret (.bool true))) s' :=
  ⟨.inl ⟨.bool true, .bool true, [], rfl, fun cls => by rfl, .bool true, by wrow_post, fun _ => ⟨List.nodup_nil, fun a h => by cases h⟩⟩, .of_keep hk, ho, hg⟩

theorem law2_walk {kwd : List (Str × PySem.Expr)} : WalkO viewQ looseL (XL viewQ []) YP lawRow.toRowW (recAt (Str.ofString "law") 19) kwd fun f vs => PySem.call f vs := by
  intro w s₀ s₁ mg mb G Y a o pm cd doc dV kV ho hd hcd hD hmg hgens args vals as hpre hlay hrd hwl hlo
  obtain ⟨l, b, vs, hl, rfl, rfl, hb, hi⟩ := args_ints hpre hwl
  have hW : (gW w s₀ mg mb s₁ G Y).g s₁.heap := ⟨G, Y⟩
  have hX : ∀ b, (fun _ : Addr => False) b → (s₁.heap.get? b).isSome = true := fun b h => h.elim
  have hv : RepL s₁.heap (fun _ => False) [.lst (l.map .int)] [.ref b] := by
    simp only [RepL, Rep, and_true]
    exact ⟨b, vs.toArray, rfl, fun h => h, ⟨_, 0, hb, rfl, rfl, rfl⟩, by simpa using of_ints hi⟩
  refine fun_post (W := gW w s₀ mg mb s₁ G Y) (k := 9) (N2.drop 1) gl2 N2 [some (.lst (l.map .int)), none, none, none, none, none, none, none, none, none, none, none, none, none, none, none, none, none, none, none] (has_of rec_19) ?_ ?_ ?_ rfl rfl (A := callerA) (X := fun _ => False) (vals := [.ref b]) hW ?_ rfl hX hv
    (post := fun f s => f = .ret (.bool true) ∧ ∃ gs, (AllBare s₁.gens → AllBare gs) ∧ Kp { s₁ with gens := gs } s) (fun c hf hk hN hgl hsc hs _ => ?_) hmg fun fl s' hp => ?_
  · decide +kernel
  · rfl
  · intro pm cd doc vals hl
    match vals, hl with
    | [v], _ => rfl
  · exact ⟨by decide, by decide⟩
  · subst hs
    have hz : sizeLine = 16777216 := rfl
    exact law2_run world2 hf (by omega) hN hgl hsc l (by omega)
  · obtain ⟨rfl, gs, hgs, h', tk, rfl, hk⟩ := hp
    exact ⟨_, rfl, goodG_true hk rfl (hgs (.of_eq hgens))⟩
end Mine
open Mine
theorem PySem.Challenge.cw_st0016_02_holds : PySem.Challenge.rw_st0016_02.Holds := by
  refine PySem.W.holds_law (by kernel_rfl!) fun said => ?_
  refine holds_open (q := viewQ) (loose := looseL) (Xt := Xt) (XP := XL viewQ []) (Yf := Yf) (Ya := Ya) (YP := YP) (N := 30000) left (fun w s h => h) YP.keeps (fun s e => xl_of s (Bool.and_eq_true_iff.mp e).1) XL.keeps (by rfl) (by rfl) (by rfl)
    (fun s e => recFacts_of (Bool.and_eq_true_iff.mp e).2) (by rfl) (by assumption) (by decide +kernel) ⟨rfl, rfl, rfl, rfl, rfl, by decide +kernel⟩ ?hw ?hc
  case hw => w_witness2
  case hc => exact law2_walk
