import PyProof.Rows.All
import Wide.All
import OpenK.AllK
import Wide.FinOn
import PySem.Challenge.RW_rw0083_01
open PySem PySem.W PyProof.Rows
set_option Elab.async false
set_option maxRecDepth 100000
set_option maxHeartbeats 8000000
-- the law's text without the lines that but name its files
noncomputable def hd.view_39 : Program := { PySem.Challenge.rw_rw0083_01.prog with main := { PySem.Challenge.rw_rw0083_01.prog.main with body := ([1, 2, 4, 5, 6, 7, 8, 10, 11, 12, 13, 14, 15, 17, 18, 19, 20, 21] : List Nat).filterMap fun i => PySem.Challenge.rw_rw0083_01.prog.main.body[i]? } }
-- the same law, its text's statements named one by one: the head's twins stay small so (some 3 MB of the compiled file)
def hd.s (i : Nat) : Stmt := PySem.Challenge.rw_rw0083_01.prog.main.body.getD i default
def hd.prog : Program := { PySem.Challenge.rw_rw0083_01.prog with main := { PySem.Challenge.rw_rw0083_01.prog.main with body := [hd.s 0, hd.s 1, hd.s 2, hd.s 3, hd.s 4, hd.s 5, hd.s 6, hd.s 7, hd.s 8, hd.s 9, hd.s 10, hd.s 11, hd.s 12, hd.s 13, hd.s 14, hd.s 15, hd.s 16, hd.s 17, hd.s 18, hd.s 19, hd.s 20, hd.s 21] } }
def hd.law : OpenLaw := { PySem.Challenge.rw_rw0083_01 with prog := hd.prog }
theorem hd.turn : PySem.Challenge.rw_rw0083_01 = hd.law := by kernel_rfl
set_option compiler.extract_closed false
set_option genSizeOfSpec false
set_option linter.unusedVariables false
set_option linter.unusedSimpArgs false
set_option linter.unusedSectionVars false
namespace Mine
local macro_rules | `(tactic| walk_at "r1") => `(tactic| (intro _; rfl))
local macro_rules | `(tactic| walk_at "r2") => `(tactic| (intro _ _; rfl))
local macro_rules | `(tactic| walk_at "ne") => `(tactic| (intro e; cases e))
local macro_rules | `(tactic| walk_at "wu") => `(tactic| (with_unfolding_all rfl))
local macro_rules | `(tactic| walk_at "sz") => `(tactic| (first | decide | (simp; done) | omega))
section
open PySem PySem.W PyProof.Rows
set_option Elab.async false

inductive V where
  | none
  | bool (b : Bool)
  | int (i : Int)
  | str (x : List Nat)
  | strt (x : List Nat)
  | list (l : List V)
  | dict (l : List (List Nat × List Nat))
  | fn (f : Str)
  | raw (v : Value)

noncomputable def S (l : List Nat) : Str := ⟨l.toArray⟩
theorem S_len (l : List Nat) : (S l).length = l.length := by simp [S, Str.length]
theorem S_of (x : Str) : S x.cps.toList = x := by simp [S]
theorem S_cps (l : List Nat) : (S l).cps.toList = l := by simp [S]
theorem S_inj {a b : List Nat} (h : S a = S b) : a = b := by rw [← S_cps a, h, S_cps]

structure TC where
  prog : Program
  w : World
  h₀ : Heap
  mg : Str → Option Value
  mb : Str → Option Value
  view : Program
  loose : List Str
  mean : ExcName → Option Value
  top : Top view loose mean mg mb h₀

noncomputable def Keeps (h h' : Heap) : Prop := ∀ b o, h.get? b = some o → h'.get? b = some o
theorem Keeps.refl (h : Heap) : Keeps h h := fun _ _ e => e
theorem Keeps.trans {a b c : Heap} (x : Keeps a b) (y : Keeps b c) : Keeps a c := fun _ _ e => y _ _ (x _ _ e)
theorem Keeps.push (h : Heap) (o : Obj) : Keeps h (h.push o) := fun _ _ e => Heap.get?_push_of_some o e



mutual
noncomputable def Rep (T : TC) (s : Shared) (U : List Addr) (v : Value) : V → Prop
  | .none => v = .none
  | .bool b => v = .bool b
  | .int i => ∃ t, v = .int i t
  | .str x => ∃ t, v = .str (S x) t ∧ x.length ≤ 1048576
  | .strt x => ∃ t, v = .str (S x) t ∧ x.length ≤ 1048576 ∧ t ≠ 0 ∧ t < s.toks
  | .list ps => ∃ a items n, v = .ref a ∧ a ∉ U ∧ IsL s.heap a items n ∧ ps.length ≤ 1048576 ∧ Reps T s U items.toList ps
  | .dict kvs => ∃ a vs n, v = .ref a ∧ a ∉ U ∧ (a == sysModules) = false ∧ s.heap.DictAt (strKind T.prog T.w) a vs n ∧ vs.length = kvs.length ∧ (∀ (i : Nat) (k : Str) (x : Value), vs[i]? = some (k, x) → ∃ t y, x = Value.str (S y) t ∧ y.length ≤ 1048576 ∧ kvs[i]? = some (k.cps.toList, y))
  | .fn f => ∃ a, v = .ref a ∧ T.mg f = some (.ref a)
  | .raw u => v = u
noncomputable def Reps (T : TC) (s : Shared) (U : List Addr) (vs : List Value) : List V → Prop
  | [] => vs = []
  | p :: ps => ∃ v r, vs = v :: r ∧ Rep T s U v p ∧ Reps T s U r ps
end

mutual
theorem Rep.but {T : TC} {s s' : Shared} {U : List Addr} (k : ∀ a o, a ∉ U → s.heap.get? a = some o → s'.heap.get? a = some o) (kt : s.toks ≤ s'.toks) : ∀ {p : V} {v : Value}, Rep T s U v p → Rep T s' U v p
  | .none, _, x => x
  | .bool _, _, x => x
  | .int _, _, x => x
  | .str _, _, x => x
  | .strt _, _, x => by
    unfold Rep at x ⊢
    obtain ⟨t, h1, h2, h3, h4⟩ := x
    exact ⟨t, h1, h2, h3, Nat.lt_of_lt_of_le h4 kt⟩
  | .fn _, _, x => x
  | .raw _, _, x => x
  | .dict _, _, x => by
    unfold Rep at x ⊢
    obtain ⟨a, vs, n, h1, h2, h6, ⟨o, es, h3, h4⟩, h5⟩ := x
    exact ⟨a, vs, n, h1, h2, h6, ⟨o, es, k _ _ h2 h3, h4⟩, h5⟩
  | .list ps, _, x => by
    unfold Rep at x ⊢
    obtain ⟨a, items, n, h1, h2, h3, h5, h4⟩ := x
    exact ⟨a, items, n, h1, h2, k _ _ h2 h3, h5, Reps.but k kt h4⟩
theorem Reps.but {T : TC} {s s' : Shared} {U : List Addr} (k : ∀ a o, a ∉ U → s.heap.get? a = some o → s'.heap.get? a = some o) (kt : s.toks ≤ s'.toks) : ∀ {ps : List V} {vs : List Value}, Reps T s U vs ps → Reps T s' U vs ps
  | [], _, x => x
  | p :: ps, _, x => by
    unfold Reps at x ⊢
    obtain ⟨v, r, h1, h2, h3⟩ := x
    exact ⟨v, r, h1, Rep.but k kt h2, Reps.but k kt h3⟩
end

mutual
theorem Rep.set {T : TC} {s : Shared} {U U' : List Addr} (k : ∀ a o, s.heap.get? a = some o → a ∉ U → a ∉ U') : ∀ {p : V} {v : Value}, Rep T s U v p → Rep T s U' v p
  | .none, _, x => x
  | .bool _, _, x => x
  | .int _, _, x => x
  | .str _, _, x => x
  | .strt _, _, x => x
  | .fn _, _, x => x
  | .raw _, _, x => x
  | .dict _, _, x => by
    unfold Rep at x ⊢
    obtain ⟨a, vs, n, h1, h2, h6, ⟨o, es, h3, h4⟩, h5⟩ := x
    exact ⟨a, vs, n, h1, k _ _ h3 h2, h6, ⟨o, es, h3, h4⟩, h5⟩
  | .list ps, _, x => by
    unfold Rep at x ⊢
    obtain ⟨a, items, n, h1, h2, h3, h5, h4⟩ := x
    exact ⟨a, items, n, h1, k _ _ h3 h2, h3, h5, Reps.set k h4⟩
theorem Reps.set {T : TC} {s : Shared} {U U' : List Addr} (k : ∀ a o, s.heap.get? a = some o → a ∉ U → a ∉ U') : ∀ {ps : List V} {vs : List Value}, Reps T s U vs ps → Reps T s U' vs ps
  | [], _, x => x
  | p :: ps, _, x => by
    unfold Reps at x ⊢
    obtain ⟨v, r, h1, h2, h3⟩ := x
    exact ⟨v, r, h1, Rep.set k h2, Reps.set k h3⟩
end
theorem Rep.sub {T : TC} {s : Shared} {U U' : List Addr} {p : V} {v : Value} (x : Rep T s U v p) (k : ∀ a, a ∈ U' → a ∈ U) : Rep T s U' v p := Rep.set (fun a _ _ n m => n (k a m)) x
theorem Reps.sub {T : TC} {s : Shared} {U U' : List Addr} {p : List V} {v : List Value} (x : Reps T s U v p) (k : ∀ a, a ∈ U' → a ∈ U) : Reps T s U' v p := Reps.set (fun a _ _ n m => n (k a m)) x

section
variable {T : TC} {s : Shared} {U : List Addr}
theorem Reps.length : ∀ {ps : List V} {vs : List Value}, Reps T s U vs ps → vs.length = ps.length
  | [], _, x => by unfold Reps at x; subst x; rfl
  | p :: ps, _, x => by unfold Reps at x; obtain ⟨v, r, rfl, _, h3⟩ := x; simp [Reps.length h3]
theorem Reps.nil : Reps T s U [] [] := by unfold Reps; rfl
theorem Reps.cons {v : Value} {p : V} {vs : List Value} {ps : List V} (x : Rep T s U v p) (y : Reps T s U vs ps) : Reps T s U (v :: vs) (p :: ps) := by unfold Reps; exact ⟨v, vs, rfl, x, y⟩
theorem Reps.append : ∀ {ps qs : List V} {vs us : List Value}, Reps T s U vs ps → Reps T s U us qs → Reps T s U (vs ++ us) (ps ++ qs)
  | [], _, _, _, x, y => by unfold Reps at x; subst x; exact y
  | p :: ps, _, _, _, x, y => by
    unfold Reps at x; obtain ⟨v, r, rfl, h2, h3⟩ := x
    exact Reps.cons h2 (Reps.append h3 y)
theorem Reps.get : ∀ {ps : List V} {vs : List Value} {i : Nat} {p : V}, Reps T s U vs ps → ps[i]? = some p → ∃ v, vs[i]? = some v ∧ Rep T s U v p
  | [], _, _, _, _, e => by simp at e
  | q :: ps, _, i, p, x, e => by
    unfold Reps at x; obtain ⟨v, r, rfl, h2, h3⟩ := x
    cases i with
    | zero => simp at e; subst e; exact ⟨v, by simp, h2⟩
    | succ i => simp at e; obtain ⟨u, a, b⟩ := Reps.get h3 e; exact ⟨u, by simpa using a, b⟩
theorem Reps.set' : ∀ {ps : List V} {vs : List Value} {v : Value} {p : V} (n : Nat), Reps T s U vs ps → Rep T s U v p → Reps T s U (vs.set n v) (ps.set n p)
  | [], _, _, _, n, x, _ => by unfold Reps at x; subst x; simp [Reps]
  | q :: ps, _, _, _, n, x, y => by
    unfold Reps at x; obtain ⟨v, r, rfl, h2, h3⟩ := x
    cases n with
    | zero => exact Reps.cons y h3
    | succ n => exact Reps.cons h2 (Reps.set' n h3 y)
theorem Rep.str_ {x : List Nat} {t : Tok} (h : x.length ≤ 1048576) : Rep T s U (.str (S x) t) (.str x) := by unfold Rep; exact ⟨t, rfl, h⟩
theorem Rep.int_ {i : Int} {t : Tok} : Rep T s U (.int i t) (.int i) := by unfold Rep; exact ⟨t, rfl⟩
theorem Rep.bool_ {b : Bool} : Rep T s U (.bool b) (.bool b) := by unfold Rep; rfl
theorem Rep.none_ : Rep T s U .none .none := by unfold Rep; rfl
theorem Rep.weak {x : List Nat} {v : Value} (h : Rep T s U v (.strt x)) : Rep T s U v (.str x) := by
  unfold Rep at h ⊢; obtain ⟨t, a, b, _⟩ := h; exact ⟨t, a, b⟩
end

-- a state that has only grown
structure Ext (s s' : Shared) : Prop where
  keep : Keeps s.heap s'.heap
  gens : s'.gens = s.gens
  os : s'.os = s.os
  toks : s.toks ≤ s'.toks
structure Ext0 (s s' : Shared) : Prop where
  keep : Keeps s.heap s'.heap
  gens : s'.gens = s.gens
  os : s'.os = s.os
theorem Ext.refl (s : Shared) : Ext s s := ⟨Keeps.refl _, rfl, rfl, Nat.le_refl _⟩
theorem Ext.trans {a b c : Shared} (x : Ext a b) (y : Ext b c) : Ext a c := ⟨x.keep.trans y.keep, y.gens.trans x.gens, y.os.trans x.os, Nat.le_trans x.toks y.toks⟩
theorem Ext0.trans {a b c : Shared} (x : Ext0 a b) (y : Ext0 b c) : Ext0 a c := ⟨x.keep.trans y.keep, y.gens.trans x.gens, y.os.trans x.os⟩
theorem Ext.zero {a b : Shared} (x : Ext a b) : Ext0 a b := ⟨x.keep, x.gens, x.os⟩
theorem Ext0.toks (s : Shared) (k : Nat) : Ext0 s { s with toks := k } := ⟨Keeps.refl _, rfl, rfl⟩
theorem Ext0.push (s : Shared) (o : Obj) (k : Nat) : Ext0 s { s with heap := s.heap.push o, toks := k } := ⟨Keeps.push _ _, rfl, rfl⟩
theorem Ext0.refl (s : Shared) : Ext0 s s := ⟨Keeps.refl _, rfl, rfl⟩
theorem Ext0.of {s : Shared} {h : Heap} {k : Nat} (x : Keeps s.heap h) : Ext0 s { s with heap := h, toks := k } := ⟨x, rfl, rfl⟩
theorem Ext.of {s : Shared} {h : Heap} (x : Keeps s.heap h) : Ext s { s with heap := h } := ⟨x, rfl, rfl, Nat.le_refl _⟩
theorem Ext.push' (s : Shared) (o : Obj) : Ext s { s with heap := s.heap.push o } := ⟨Keeps.push _ _, rfl, rfl, Nat.le_refl _⟩
theorem Ext.toks' (s : Shared) : Ext s { s with toks := s.toks + 1 } := ⟨Keeps.refl _, rfl, rfl, Nat.le_succ _⟩
theorem Ext.toksn (s : Shared) (k : Nat) (h : s.toks ≤ k) : Ext s { s with toks := k } := ⟨Keeps.refl _, rfl, rfl, h⟩
noncomputable def Live (s : Shared) (a : Addr) : Prop := ∃ o, s.heap.get? a = some o
theorem Live.ext {s s' : Shared} {a : Addr} (x : Live s a) (e : Ext s s') : Live s' a := let ⟨o, h⟩ := x; ⟨o, e.keep _ _ h⟩
theorem get_size (h : Heap) : h.get? h.objs.size = none := by
  cases e : h.get? h.objs.size with
  | none => rfl
  | some o => exact absurd (Heap.lt_size e) (Nat.lt_irrefl _)
theorem get_ge {h : Heap} {a : Addr} (x : h.objs.size ≤ a) : h.get? a = none := by
  cases e : h.get? a with
  | none => rfl
  | some o => exact absurd (Heap.lt_size e) (Nat.not_lt.mpr x)
theorem new_not {s : Shared} {U : List Addr} (hu : ∀ a ∈ U, Live s a) {a : Addr} (h : s.heap.get? a = none) : a ∉ U := fun m => by
  obtain ⟨o, e⟩ := hu a m; rw [h] at e; cases e

theorem ext_of {α : Type} {M : Model} {A : Around} {t : Sem α} {P : α → Shared → Prop} {E : Value → Shared → Prop} {s : Shared}
    (h : wpAny M A t (fun v s' => s.toks ≤ s'.toks → P v s' ∧ Ext0 s s') E s) : wpAny M A t (fun v s' => P v s' ∧ Ext s s') E s :=
  wpAny_mono (wpAny_toks h) (fun _ _ ⟨a, b⟩ => let ⟨c, d⟩ := b a; ⟨c, d.keep, d.gens, d.os, a⟩) fun _ _ x => x.2

theorem Rep.ext {T : TC} {s s' : Shared} {U : List Addr} {p : V} {v : Value} (x : Rep T s U v p) (e : Ext s s') : Rep T s' U v p := Rep.but (fun a o _ h => e.keep a o h) e.toks x
theorem Reps.ext {T : TC} {s s' : Shared} {U : List Addr} {p : List V} {v : List Value} (x : Reps T s U v p) (e : Ext s s') : Reps T s' U v p := Reps.but (fun a o _ h => e.keep a o h) e.toks x

-- room left: d calls deep
structure Ok (d : Nat) (A : Around) : Prop where
  handled : A.handled = none
  depth : A.depth + d ≤ 900
  units : A.units + 10 * d ≤ 9000
theorem Ok.mono {d d' : Nat} {A : Around} (x : Ok d A) (h : d' ≤ d) : Ok d' A := ⟨x.handled, by have := x.depth; omega, by have := x.units; omega⟩
theorem Ok.zero {d : Nat} {A : Around} (x : Ok d A) : Ok 0 A := x.mono (Nat.zero_le _)
theorem Ok.deeper {d : Nat} {A : Around} {env : Env} (x : Ok (d + 1) A) : Ok d (A.deeper env) := ⟨x.handled, by have := x.depth; simp only [Around.deeper]; omega, by have := x.units; simp only [Around.deeper]; omega⟩

inductive Slot where
  | val (p : V)
  | own (ps : List V)
  | dead

-- the name's place in the table
inductive At : List Str → List Slot → Str → Slot → Prop
  | here {x xs s ss} : At (x :: xs) (s :: ss) x s
  | there {x y xs s t ss} : At xs ss x s → At (y :: xs) (t :: ss) x s
inductive Upd : List Str → List Slot → Str → Slot → List Slot → Prop
  | here {x xs s s' ss} : Upd (x :: xs) (s :: ss) x s' (s' :: ss)
  | there {x y xs s' t ss ss'} : Upd xs ss x s' ss' → Upd (y :: xs) (t :: ss) x s' (t :: ss')
theorem At.mem {N σ x sl} (h : At N σ x sl) : x ∈ N := by
  induction h with
  | here => exact .head _
  | there _ ih => exact .tail _ ih
theorem Upd.mem {N σ x sl σ'} (h : Upd N σ x sl σ') : x ∈ N := by
  induction h with
  | here => exact .head _
  | there _ ih => exact .tail _ ih
theorem Upd.at {N σ x sl σ' y sl'} (h : Upd N σ x sl σ') (hn : N.Nodup) (a : At N σ' y sl') : (y = x ∧ sl' = sl) ∨ (y ≠ x ∧ At N σ y sl') := by
  induction h with
  | here =>
    cases a with
    | here => exact .inl ⟨rfl, rfl⟩
    | there a => exact .inr ⟨fun e => by subst e; exact (List.nodup_cons.mp hn).1 a.mem, .there a⟩
  | there u ih =>
    cases a with
    | here => exact .inr ⟨fun e => by subst e; exact (List.nodup_cons.mp hn).1 u.mem, .here⟩
    | there a =>
      rcases ih (List.nodup_cons.mp hn).2 a with h | ⟨h1, h2⟩
      · exact .inl h
      · exact .inr ⟨h1, .there h2⟩
-- a state that knows less
inductive Weak : List Slot → List Slot → Prop
  | nil : Weak [] []
  | keep {s a b} : Weak a b → Weak (s :: a) (s :: b)
  | drop {s a b} : Weak a b → Weak (s :: a) (.dead :: b)
theorem Weak.at {N σ σ' x sl} (w : Weak σ σ') (a : At N σ' x sl) (hd : sl ≠ .dead) : At N σ x sl := by
  induction w generalizing N with
  | nil => cases a
  | keep w ih =>
    cases a with
    | here => exact .here
    | there a => exact .there (ih a)
  | drop w ih =>
    cases a with
    | here => exact absurd rfl hd
    | there a => exact .there (ih a)
theorem Weak.refl : ∀ σ, Weak σ σ
  | [] => .nil
  | _ :: r => .keep (Weak.refl r)


-- globals: name, value as data
inductive AtG : List (Str × V) → Str → V → Prop
  | here {x p l} : AtG ((x, p) :: l) x p
  | there {x p e l} : AtG l x p → AtG (e :: l) x p

noncomputable def HoldsVar (h : Heap) (env : Env) (x : Str) (v : Value) : Prop :=
  (env.kindOf x = some .local ∧ ∃ m, h.Ns env.locals m ∧ m x = some v) ∨ (env.kindOf x = some .cell ∧ ∃ c, env.cells.lookup x = some c ∧ h.IsCell c (some v))
theorem HoldsVar.keep {h h' : Heap} {env : Env} {x : Str} {v : Value} (y : HoldsVar h env x v) (k : Keeps h h') : HoldsVar h' env x v := by
  rcases y with ⟨a, m, b, c⟩ | ⟨a, m, b, c⟩
  · exact .inl ⟨a, m, b.keeps k, c⟩
  · exact .inr ⟨a, m, b, c.keeps k⟩
theorem HoldsVar.uniq {h : Heap} {env : Env} {x : Str} {v w : Value} (y : HoldsVar h env x v) (z : HoldsVar h env x w) : v = w := by
  rcases y with ⟨a, m, b, c⟩ | ⟨a, m, b, c⟩ <;> rcases z with ⟨a', m', b', c'⟩ | ⟨a', m', b', c'⟩
  · have := b.agree b' x; rw [c, c'] at this; exact Option.some.inj this
  · rw [a] at a'; cases a'
  · rw [a] at a'; cases a'
  · rw [b] at b'; cases b'
    obtain ⟨o, h1, h2⟩ := c; obtain ⟨o', h1', h2'⟩ := c'
    rw [h1] at h1'; cases h1'; rw [h2] at h2'; cases h2'; rfl
noncomputable def HoldsGlob (T : TC) (env : Env) (x : Str) (v : Value) : Prop :=
  env.kindOf x = some .globalImplicit ∧ (T.mg x = some v ∨ (T.mg x = none ∧ T.mb x = some v))

-- a scope: calls left, names' kinds, names told of, globals told of
structure Cx where
  d : Nat
  nm : List (Str × NameKind)
  N : List Str
  G : List (Str × V)

structure Rd (T : TC) (c : Cx) (σ : List Slot) (U : List Addr) (env : Env) (s : Shared) : Prop where
  top : Keeps T.h₀ s.heap
  kind : env.scope.kind = .function
  names : env.scope.names = c.nm
  globals : env.globals = mainGlobals
  builtins : env.builtins = builtinsNs
  var : ∀ x p, At c.N σ x (.val p) → (x == ("__debug__" : Str)) = false ∧ ∃ v, HoldsVar s.heap env x v ∧ Rep T s U v p
  own : ∀ x ps, At c.N σ x (.own ps) → (x == ("__debug__" : Str)) = false ∧ ∃ a items n, HoldsVar s.heap env x (.ref a) ∧ IsL s.heap a items n ∧ ps.length ≤ 1048576 ∧ Reps T s U items.toList ps
  glob : ∀ x p, AtG c.G x p → (x == ("__debug__" : Str)) = false ∧ ∃ v, HoldsGlob T env x v ∧ (∀ s U, Rep T s U v p)
  used : ∀ a ∈ U, Live s a
  tok : 0 < s.toks

theorem Rd.ext {T c σ U env} {s s' : Shared} (R : Rd T c σ U env s) (x : Ext s s') : Rd T c σ U env s' where
  top := R.top.trans x.keep
  kind := R.kind
  names := R.names
  globals := R.globals
  builtins := R.builtins
  var y p a := let ⟨d, v, h1, h2⟩ := R.var y p a; ⟨d, v, h1.keep x.keep, h2.ext x⟩
  own y ps b := let ⟨d, a, items, n, h1, h2, h4, h3⟩ := R.own y ps b; ⟨d, a, items, n, h1.keep x.keep, x.keep _ _ h2, h4, h3.ext x⟩
  glob := R.glob
  used a h := (R.used a h).ext x
  tok := Nat.lt_of_lt_of_le R.tok x.toks

noncomputable def Ev (T : TC) (c : Cx) (σ : List Slot) (e : Expr) (p : V) : Prop :=
  ∀ A env U s, Ok c.d A → Rd T c σ U env s → wpAny (model T.prog T.w) A (eval e env) (fun v s' => Rep T s' U v p ∧ Ext s s') (fun _ _ => False) s
-- a list that is only looked at
noncomputable def Pk (T : TC) (s : Shared) (U : List Addr) (v : Value) (ps : List V) : Prop :=
  ∃ a items n, v = .ref a ∧ IsL s.heap a items n ∧ ps.length ≤ 1048576 ∧ Reps T s U items.toList ps
noncomputable def EvO (T : TC) (c : Cx) (σ : List Slot) (e : Expr) (ps : List V) : Prop :=
  ∀ A env U s, Ok c.d A → Rd T c σ U env s → wpAny (model T.prog T.w) A (eval e env) (fun v s' => Pk T s' U v ps ∧ Ext s s') (fun _ _ => False) s
-- a list made anew, nothing but plain data in it
noncomputable def V.flat : V → Bool
  | .none => true
  | .bool _ => true
  | .int _ => true
  | .str _ => true
  | .strt _ => true
  | _ => false
noncomputable def EvN (T : TC) (c : Cx) (σ : List Slot) (e : Expr) (ps : List V) : Prop :=
  ∀ A env U s, Ok c.d A → Rd T c σ U env s → wpAny (model T.prog T.w) A (eval e env)
    (fun v s' => (∃ a items n, v = .ref a ∧ s.heap.get? a = none ∧ IsL s'.heap a items n ∧ ps.length ≤ 1048576 ∧ ps.all V.flat = true ∧ Reps T s' U items.toList ps) ∧ Ext s s') (fun _ _ => False) s
noncomputable def Tr (T : TC) (c : Cx) (σ : List Slot) (e : Expr) (b : Bool) : Prop :=
  ∀ A env U s, Ok c.d A → Rd T c σ U env s → wpAny (model T.prog T.w) A (isTrue e env (eval e env)) (fun r s' => r = b ∧ Ext s s') (fun _ _ => False) s
theorem Rep.flat {T : TC} {s s' : Shared} {U U' : List Addr} {v : Value} {p : V} (h : Rep T s U v p) (hp : p.flat = true) (ht : s.toks ≤ s'.toks) : Rep T s' U' v p := by
  cases p <;> first | exact h | (cases hp; done) | skip
  unfold Rep at h ⊢
  obtain ⟨t, h1, h2, h3, h4⟩ := h
  exact ⟨t, h1, h2, h3, Nat.lt_of_lt_of_le h4 ht⟩
theorem Reps.flat {T : TC} {s s' : Shared} {U U' : List Addr} : ∀ {ps : List V} {vs : List Value}, Reps T s U vs ps → ps.all V.flat = true → s.toks ≤ s'.toks → Reps T s' U' vs ps
  | [], _, h, _, _ => h
  | p :: ps, _, h, hp, ht => by
    unfold Reps at h; obtain ⟨v, r, rfl, h2, h3⟩ := h
    rw [List.all_cons, Bool.and_eq_true] at hp
    exact Reps.cons (h2.flat hp.1 ht) (Reps.flat h3 hp.2 ht)

-- what an operation wants of a state
structure Su (T : TC) (U : List Addr) (s : Shared) : Prop where
  top : Keeps T.h₀ s.heap
  used : ∀ a ∈ U, Live s a
  tok : 0 < s.toks
theorem Rd.su {T c σ U env s} (R : Rd T c σ U env s) : Su T U s := ⟨R.top, R.used, R.tok⟩
theorem Su.ext {T U s s'} (R : Su T U s) (x : Ext s s') : Su T U s' := ⟨R.top.trans x.keep, fun a h => (R.used a h).ext x, Nat.lt_of_lt_of_le R.tok x.toks⟩

noncomputable def Op2 (T : TC) (op : Operator) (pa pb p : V) : Prop :=
  ∀ A U s va vb, Ok 0 A → Su T U s → Rep T s U va pa → Rep T s U vb pb → wpAny (model T.prog T.w) A (binaryOp op va vb) (fun v s' => Rep T s' U v p ∧ Ext s s') (fun _ _ => False) s
noncomputable def Cm2 (T : TC) (op : CmpOp) (pa pb : V) (b : Bool) : Prop :=
  ∀ A U s va vb, Ok 0 A → Su T U s → Rep T s U va pa → Rep T s U vb pb → wpAny (model T.prog T.w) A (compareOp op va vb) (fun v s' => v = .bool b ∧ Ext s s') (fun _ _ => False) s
noncomputable def Tv (T : TC) (p : V) (b : Bool) : Prop :=
  ∀ A U s v, Ok 0 A → Su T U s → Rep T s U v p → wpAny (model T.prog T.w) A (truthy v) (fun r s' => r = b ∧ Ext s s') (fun _ _ => False) s
-- a call of a value told of
noncomputable def Cal (T : TC) (d : Nat) (f : Str) (ps : List V) (p : V) : Prop :=
  ∀ A U s a args, Ok d A → Su T U s → T.mg f = some (.ref a) → Reps T s U args ps → wpAny (model T.prog T.w) A (call (.ref a) args) (fun v s' => Rep T s' U v p ∧ Ext s s') (fun _ _ => False) s
noncomputable def Bcl (T : TC) (id : String) (ps : List V) (p : V) : Prop :=
  ∀ A U s args, Ok 0 A → Su T U s → Reps T s U args ps → wpAny (model T.prog T.w) A (call (.builtin id) args) (fun v s' => Rep T s' U v p ∧ Ext s s') (fun _ _ => False) s
end
section
open PySem PySem.W PyProof.Rows
set_option Elab.async false
variable {T : TC} {c : Cx} {σ : List Slot}

theorem wpB {α : Type} {M : Model} {A : Around} {E : Value → Shared → Prop} {s : Shared} {t : Sem α} {P Q : α → Shared → Prop} (h : wpAny M A t P E s) (k : ∀ a s', P a s' → Q a s') : wpAny M A t Q E s := wpAny_mono h k fun _ _ x => x

theorem Ev.int {i : Int} {k pos} : Ev T c σ (.Constant (.int i) k pos) (.int i) :=
  fun _ _ _ s _ _ => wpAny_Constant_int ⟨Rep.int_, Ext.toks' s⟩
theorem Ev.str {x : Str} {l : List Nat} {k pos} (e : x = S l) (h : l.length ≤ 1048576) : Ev T c σ (.Constant (.str x) k pos) (.str l) :=
  fun _ _ _ s _ _ => wpAny_Constant_str ⟨by subst e; exact Rep.str_ h, Ext.toks' s⟩
theorem Ev.none {k pos} : Ev T c σ (.Constant .none k pos) .none := fun _ _ _ s _ _ => wpAny_Constant_none ⟨Rep.none_, Ext.refl s⟩
theorem Ev.bool {b : Bool} {k pos} : Ev T c σ (.Constant (.bool b) k pos) (.bool b) := fun _ _ _ s _ _ => wpAny_Constant_bool ⟨Rep.bool_, Ext.refl s⟩

theorem load_var {A : Around} {E : Value → Shared → Prop} {M : Model} {s : Shared} {env : Env} {x : Str} {v : Value} {Q : Value → Shared → Prop} (hk : env.scope.kind = .function) (h : HoldsVar s.heap env x v) (q : Q v s) : wpAny M A (loadName env x) Q E s := by
  rcases h with ⟨a, m, b, d⟩ | ⟨a, m, b, d⟩
  · exact wpAny_loadName_local hk a b d q
  · exact wpAny_loadName_cell hk a b d q
theorem load_glob {A : Around} {E : Value → Shared → Prop} {M : Model} {s : Shared} {env : Env} {x : Str} {v : Value} {Q : Value → Shared → Prop} (hk : env.scope.kind = .function) (hg : env.globals = mainGlobals) (hb : env.builtins = builtinsNs)
    (ht : Keeps T.h₀ s.heap) (h : HoldsGlob T env x v) (q : Q v s) : wpAny M A (loadName env x) Q E s := by
  obtain ⟨a, b⟩ := h
  unfold loadName
  simp only [Env.blockKind, hk, a, ScopeKind.isAnnotationScope, Bool.false_and, Bool.false_eq_true, if_false]
  unfold loadGlobal
  rw [hg, hb]
  refine wpAny_bind (wpAny_nsGet (T.top.g.keeps ht) ?_)
  rcases b with b | ⟨b, d⟩
  · rw [b]; exact wpAny_pure q
  · rw [b]
    refine wpAny_bind (wpAny_nsGet (T.top.b.keeps ht) ?_)
    rw [d]; exact wpAny_pure q

theorem Ev.name {x pos p} (h : At c.N σ x (.val p)) : Ev T c σ (.Name x pos) p := fun _ _ _ s _ R =>
  let ⟨d, _, h1, h2⟩ := R.var x p h
  wpAny_Name (load_var R.kind h1 ⟨h2, Ext.refl s⟩) d
theorem Ev.glob {x pos p} (h : AtG c.G x p) : Ev T c σ (.Name x pos) p := fun _ _ U s _ R =>
  let ⟨d, _, h1, h2⟩ := R.glob x p h
  wpAny_Name (load_glob R.kind R.globals R.builtins R.top h1 ⟨h2 s U, Ext.refl s⟩) d

theorem Ev.bin {l op r pos pa pb p} (h1 : Ev T c σ l pa) (h2 : Ev T c σ r pb) (h3 : Op2 T op pa pb p) : Ev T c σ (.BinOp l op r pos) p := fun A env U s O R =>
  wpAny_BinOp (wpB (h1 A env U s O R) fun va s1 ⟨a1, e1⟩ => wpB (h2 A env U s1 O (R.ext e1)) fun vb s2 ⟨a2, e2⟩ =>
    wpB (h3 A U s2 va vb O.zero ((R.ext e1).ext e2).su (a1.ext e2) a2) fun _ _ ⟨a3, e3⟩ => ⟨a3, (e1.trans e2).trans e3⟩)
theorem Ev.cmp {l op r pos pa pb b} (h1 : Ev T c σ l pa) (h2 : Ev T c σ r pb) (h3 : Cm2 T op pa pb b) (hm : behindInMarks op r = false := by walk_at "wu") : Ev T c σ (.Compare l [op] [r] pos) (.bool b) := fun A env U s O R =>
  wpAny_Compare1 (wpB (h1 A env U s O R) fun va s1 ⟨a1, e1⟩ => wpB (h2 A env U s1 O (R.ext e1)) fun vb s2 ⟨a2, e2⟩ =>
    wpB (h3 A U s2 va vb O.zero ((R.ext e1).ext e2).su (a1.ext e2) a2) fun _ _ ⟨a3, e3⟩ => ⟨by subst a3; exact Rep.bool_, (e1.trans e2).trans e3⟩) hm
theorem Tr.cmp {l op r pos pa pb b} (h1 : Ev T c σ l pa) (h2 : Ev T c σ r pb) (h3 : Cm2 T op pa pb b) (hm : behindInMarks op r = false := by walk_at "wu") : Tr T c σ (.Compare l [op] [r] pos) b := fun A env U s O R =>
  wpAny_isTrue_Compare1 (wpB (h1 A env U s O R) fun va s1 ⟨a1, e1⟩ => wpB (h2 A env U s1 O (R.ext e1)) fun vb s2 ⟨a2, e2⟩ =>
    wpB (h3 A U s2 va vb O.zero ((R.ext e1).ext e2).su (a1.ext e2) a2) fun _ _ ⟨a3, e3⟩ => by subst a3; exact wpAny_truthy_bool ⟨rfl, (e1.trans e2).trans e3⟩) hm
theorem Tr.val {e p b} (h1 : Ev T c σ e p) (h2 : Tv T p b) (he : ∀ env whole, isTrue e env whole = (do let v ← whole; standAt e.pos; holding [v] (truthy v)) := by walk_at "r2") : Tr T c σ e b := fun A env U s O R =>
  wpAny_isTrue_value (wpB (h1 A env U s O R) fun v s1 ⟨a1, e1⟩ => wpB (h2 A U s1 v O.zero (R.ext e1).su a1) fun _ _ ⟨a2, e2⟩ => ⟨a2, e1.trans e2⟩) (he env _)
theorem Tr.not {x pos b} (h : Tr T c σ x b) : Tr T c σ (.UnaryOp .Not x pos) (!b) := fun A env U s O R =>
  wpAny_isTrue_Not (wpB (h A env U s O R) fun _ _ ⟨a, e⟩ => ⟨by rw [a], e⟩)

noncomputable def TrL (T : TC) (c : Cx) (σ : List Slot) (op : BoolOp) (es : List Expr) (b : Bool) : Prop :=
  ∀ A env U s, Ok c.d A → Rd T c σ U env s → wpAny (model T.prog T.w) A (allTrue op es env) (fun r s' => r = b ∧ Ext s s') (fun _ _ => False) s
theorem TrL.and_nil : TrL T c σ .And [] true := fun _ _ _ s _ _ => wpAny_allTrue_And_nil ⟨rfl, Ext.refl s⟩
theorem TrL.or_nil : TrL T c σ .Or [] false := fun _ _ _ s _ _ => wpAny_allTrue_Or_nil ⟨rfl, Ext.refl s⟩
theorem TrL.and_cons {x rest a b} (h1 : Tr T c σ x a) (h2 : a = true → TrL T c σ .And rest b) : TrL T c σ .And (x :: rest) (a && b) := fun A env U s O R =>
  wpAny_allTrue_And_cons (wpB (h1 A env U s O R) fun r s1 ⟨a1, e1⟩ => by
    subst a1
    cases r with
    | true => rw [if_pos rfl]; exact wpB (h2 rfl A env U s1 O (R.ext e1)) fun _ _ ⟨a2, e2⟩ => ⟨by simpa using a2, e1.trans e2⟩
    | false => rw [if_neg (by decide)]; exact ⟨rfl, e1⟩)
theorem TrL.or_cons {x rest a b} (h1 : Tr T c σ x a) (h2 : a = false → TrL T c σ .Or rest b) : TrL T c σ .Or (x :: rest) (a || b) := fun A env U s O R =>
  wpAny_allTrue_Or_cons (wpB (h1 A env U s O R) fun r s1 ⟨a1, e1⟩ => by
    subst a1
    cases r with
    | false => rw [if_neg (by decide)]; exact wpB (h2 rfl A env U s1 O (R.ext e1)) fun _ _ ⟨a2, e2⟩ => ⟨by simpa using a2, e1.trans e2⟩
    | true => rw [if_pos rfl]; exact ⟨rfl, e1⟩)
theorem Tr.boolop {op es pos b} (h : TrL T c σ op es b) : Tr T c σ (.BoolOp op es pos) b := fun A env U s O R => wpAny_isTrue_BoolOp (h A env U s O R)

theorem Ev.ifexp {test body orelse pos b p q} (h1 : Tr T c σ test b) (h2 : b = true → Ev T c σ body p) (h3 : b = false → Ev T c σ orelse q) : Ev T c σ (.IfExp test body orelse pos) (if b then p else q) := fun A env U s O R =>
  wpAny_IfExp (wpB (h1 A env U s O R) fun r s1 ⟨a1, e1⟩ => by
    subst a1
    cases r with
    | true => rw [if_pos rfl, if_pos rfl]; exact wpB (h2 rfl A env U s1 O (R.ext e1)) fun _ _ ⟨a2, e2⟩ => ⟨a2, e1.trans e2⟩
    | false => rw [if_neg (by decide), if_neg (by decide)]; exact wpB (h3 rfl A env U s1 O (R.ext e1)) fun _ _ ⟨a2, e2⟩ => ⟨a2, e1.trans e2⟩)
-- one value for both arms
theorem Ev.ifexp' {test body orelse pos b p} (h1 : Tr T c σ test b) (h2 : b = true → Ev T c σ body p) (h3 : b = false → Ev T c σ orelse p) : Ev T c σ (.IfExp test body orelse pos) p := by
  have := Ev.ifexp (pos := pos) h1 h2 h3
  cases b <;> exact this

theorem Ev.cast {e p q} (h : Ev T c σ e p) (k : p = q) : Ev T c σ e q := k ▸ h
theorem Tr.cast {e b d} (h : Tr T c σ e b) (k : b = d) : Tr T c σ e d := k ▸ h

-- a or b, a and b as values (two operands)
theorem Ev.or2 {x y pos p q b} (h1 : Ev T c σ x p) (h2 : Tv T p b) (h3 : b = false → Ev T c σ y q) : Ev T c σ (.BoolOp .Or [x, y] pos) (if b then p else q) := fun A env U s O R => by
  show wpAny _ A (do let v ← eval x env; standAt pos; let t ← holding [v] (truthy v); match BoolOp.Or, t with | .And, false | .Or, true => pure v | _, _ => boolOp pos .Or [eval y env]) _ _ s
  refine wpAny_bind (wpB (h1 A env U s O R) fun v s1 ⟨a1, e1⟩ => wpAny_bind (wpAny_standAt (wpAny_bind (wpAny_holding (wpB (h2 A U s1 v O.zero (R.ext e1).su a1) fun t s2 ⟨a2, e2⟩ => ?_)))))
  subst a2
  cases t with
  | true => exact wpAny_pure ⟨a1.ext e2, e1.trans e2⟩
  | false =>
    show wpAny _ A (eval y env) _ _ s2
    exact wpB (h3 rfl A env U s2 O ((R.ext e1).ext e2)) fun _ _ ⟨a3, e3⟩ => ⟨a3, (e1.trans e2).trans e3⟩
theorem Ev.and2 {x y pos p q b} (h1 : Ev T c σ x p) (h2 : Tv T p b) (h3 : b = true → Ev T c σ y q) : Ev T c σ (.BoolOp .And [x, y] pos) (if b then q else p) := fun A env U s O R => by
  show wpAny _ A (do let v ← eval x env; standAt pos; let t ← holding [v] (truthy v); match BoolOp.And, t with | .And, false | .Or, true => pure v | _, _ => boolOp pos .And [eval y env]) _ _ s
  refine wpAny_bind (wpB (h1 A env U s O R) fun v s1 ⟨a1, e1⟩ => wpAny_bind (wpAny_standAt (wpAny_bind (wpAny_holding (wpB (h2 A U s1 v O.zero (R.ext e1).su a1) fun t s2 ⟨a2, e2⟩ => ?_)))))
  subst a2
  cases t with
  | false => exact wpAny_pure ⟨a1.ext e2, e1.trans e2⟩
  | true =>
    show wpAny _ A (eval y env) _ _ s2
    exact wpB (h3 rfl A env U s2 O ((R.ext e1).ext e2)) fun _ _ ⟨a3, e3⟩ => ⟨a3, (e1.trans e2).trans e3⟩

-- operations
theorem Op2.add {a b : Int} : Op2 T .Add (.int a) (.int b) (.int (a + b)) := by
  intro A U s va vb O S x y
  unfold Rep at x y; obtain ⟨t, rfl⟩ := x; obtain ⟨u, rfl⟩ := y
  exact P.add_int ⟨Rep.int_, Ext.toks' s⟩
theorem Op2.sub {a b : Int} : Op2 T .Sub (.int a) (.int b) (.int (a - b)) := by
  intro A U s va vb O S x y
  unfold Rep at x y; obtain ⟨t, rfl⟩ := x; obtain ⟨u, rfl⟩ := y
  exact P.sub_int ⟨Rep.int_, Ext.toks' s⟩
theorem Op2.mul {a b : Int} (hm : IntMulOk a b) : Op2 T .Mult (.int a) (.int b) (.int (a * b)) := by
  intro A U s va vb O S x y
  unfold Rep at x y; obtain ⟨t, rfl⟩ := x; obtain ⟨u, rfl⟩ := y
  exact P.mul_int ⟨Rep.int_, Ext.toks' s⟩ hm
theorem Op2.mod {a b : Int} (hb : b ≠ 0) : Op2 T .Mod (.int a) (.int b) (.int (a.fmod b)) := by
  intro A U s va vb O S x y
  unfold Rep at x y; obtain ⟨t, rfl⟩ := x; obtain ⟨u, rfl⟩ := y
  exact mod_int' hb ⟨Rep.int_, Ext.toks' s⟩
theorem Op2.div {a b : Int} (hb : b ≠ 0) (hp : Builtin.divisionGoesByPylong a b = false) : Op2 T .FloorDiv (.int a) (.int b) (.int (a.fdiv b)) := by
  intro A U s va vb O S x y
  unfold Rep at x y; obtain ⟨t, rfl⟩ := x; obtain ⟨u, rfl⟩ := y
  exact floordiv_int hb ⟨Rep.int_, Ext.toks' s⟩ (.inl hp)
theorem Op2.pow {a n : Int} (hn : 0 ≤ n) (hn2 : n ≤ 1000000) (ha : a.natAbs < 2 ^ 64) : Op2 T .Pow (.int a) (.int n) (.int (a ^ n.toNat)) := by
  intro A U s va vb O S x y
  unfold Rep at x y; obtain ⟨t, rfl⟩ := x; obtain ⟨u, rfl⟩ := y
  exact pow_int_small hn hn2 ha ⟨Rep.int_, Ext.toks' s⟩
theorem S_append (x y : List Nat) : S x ++ S y = S (x ++ y) := by
  apply Str.ext'; rw [Str.cps_append]; simp [S]
theorem S_beq (x y : List Nat) : (S x == S y) = (x == y) := by
  by_cases h : x = y
  · subst h; simp
  · rw [beq_false_of_ne h, beq_false_of_ne (fun e => h (S_inj e))]
theorem S_bne (x y : List Nat) : (S x != S y) = (x != y) := by simp only [bne, S_beq]
theorem Op2.cat {x y : List Nat} (h : x.length + y.length ≤ 1048576) : Op2 T .Add (.str x) (.str y) (.str (x ++ y)) := by
  intro A U s va vb O S a b
  unfold Rep at a b; obtain ⟨t, rfl, _⟩ := a; obtain ⟨u, rfl, _⟩ := b
  refine ext_of (SB.add (fun t' k _ => ⟨by rw [S_append]; exact Rep.str_ (by rw [List.length_append]; exact h), Ext0.toks s k⟩) (by have : (2:Nat)^24 = sizeLine := rfl; rw [S_len, S_len]; omega))
theorem Cm2.eq {a b : Int} : Cm2 T .Eq (.int a) (.int b) (a == b) := by
  intro A U s va vb O S x y
  unfold Rep at x y; obtain ⟨t, rfl⟩ := x; obtain ⟨u, rfl⟩ := y
  exact P.eq_int ⟨rfl, Ext.refl s⟩
theorem Cm2.ne {a b : Int} : Cm2 T .NotEq (.int a) (.int b) (a != b) := by
  intro A U s va vb O S x y
  unfold Rep at x y; obtain ⟨t, rfl⟩ := x; obtain ⟨u, rfl⟩ := y
  exact P.ne_int ⟨rfl, Ext.refl s⟩
theorem Cm2.lt {a b : Int} : Cm2 T .Lt (.int a) (.int b) (decide (a < b)) := by
  intro A U s va vb O S x y
  unfold Rep at x y; obtain ⟨t, rfl⟩ := x; obtain ⟨u, rfl⟩ := y
  exact P.lt_int ⟨rfl, Ext.refl s⟩
theorem Cm2.gt {a b : Int} : Cm2 T .Gt (.int a) (.int b) (decide (b < a)) := by
  intro A U s va vb O S x y
  unfold Rep at x y; obtain ⟨t, rfl⟩ := x; obtain ⟨u, rfl⟩ := y
  exact P.gt_int ⟨rfl, Ext.refl s⟩
theorem Cm2.ge {a b : Int} : Cm2 T .GtE (.int a) (.int b) (decide (b ≤ a)) := by
  intro A U s va vb O S x y
  unfold Rep at x y; obtain ⟨t, rfl⟩ := x; obtain ⟨u, rfl⟩ := y
  exact P.ge_int ⟨rfl, Ext.refl s⟩
theorem Cm2.eqs {x y : List Nat} : Cm2 T .Eq (.str x) (.str y) (x == y) := by
  intro A U s va vb O S a b
  unfold Rep at a b; obtain ⟨t, rfl, _⟩ := a; obtain ⟨u, rfl, _⟩ := b
  exact PyProof.Rows.eq_str ⟨by rw [S_beq], Ext.refl s⟩
theorem Cm2.nes {x y : List Nat} : Cm2 T .NotEq (.str x) (.str y) (x != y) := by
  intro A U s va vb O S a b
  unfold Rep at a b; obtain ⟨t, rfl, _⟩ := a; obtain ⟨u, rfl, _⟩ := b
  exact PyProof.Rows.ne_str ⟨by rw [S_bne], Ext.refl s⟩

theorem Tv.bool {b : Bool} : Tv T (.bool b) b := by
  intro A U s v O S x; unfold Rep at x; subst x; exact wpAny_truthy_bool ⟨rfl, Ext.refl s⟩
theorem Tv.none : Tv T .none false := by
  intro A U s v O S x; unfold Rep at x; subst x; exact truthy_none ⟨rfl, Ext.refl s⟩
theorem Tv.int {a : Int} : Tv T (.int a) (a != 0) := by
  intro A U s v O S x; unfold Rep at x; obtain ⟨t, rfl⟩ := x; exact P.truthy_int ⟨rfl, Ext.refl s⟩
theorem Tv.str {x : List Nat} : Tv T (.str x) (!x.isEmpty) := by
  intro A U s v O S' a; unfold Rep at a; obtain ⟨t, rfl, h⟩ := a
  refine P.truthy_str (by rw [S_len]; omega) ⟨?_, Ext.toksn s _ (by omega)⟩
  rw [S_len]
  cases x with
  | nil => rfl
  | cons a l => simp only [bne, List.length_cons, List.isEmpty_cons]; simp; omega
end
section
open PySem PySem.W PyProof.Rows
set_option Elab.async false
variable {T : TC} {c : Cx} {σ : List Slot}

-- several values, in order
noncomputable def EvL (T : TC) (c : Cx) (σ : List Slot) (es : List Expr) (ps : List V) : Prop :=
  ∀ A env U s, Ok c.d A → Rd T c σ U env s → wpAny (model T.prog T.w) A (spliced (es.map fun e => (false, eval e env))) (fun vs s' => Reps T s' U vs ps ∧ Ext s s') (fun _ _ => False) s
theorem EvL.nil : EvL T c σ [] [] := fun _ _ _ s _ _ => Calls.spliced_nil ⟨Reps.nil, Ext.refl s⟩
theorem EvL.cons {e es p ps} (h1 : Ev T c σ e p) (h2 : EvL T c σ es ps) : EvL T c σ (e :: es) (p :: ps) := fun A env U s O R =>
  Calls.spliced_cons (wpB (h1 A env U s O R) fun v s1 ⟨a1, e1⟩ => wpB (h2 A env U s1 O (R.ext e1)) fun vs s2 ⟨a2, e2⟩ => ⟨Reps.cons (a1.ext e2) a2, e1.trans e2⟩)

theorem top_func {T : TC} {f : Str} {a : Addr} (hf : ∃ d, d ∈ recsOf T.view ∧ d.name = f) (h : T.mg f = some (.ref a)) : ∃ o fd, T.h₀.get? a = some o ∧ o.data = .func fd := by
  obtain ⟨d, hd, rfl⟩ := hf
  obtain ⟨a', o, pm, code, doc, h1, h2, h3, _⟩ := T.top.fn d hd
  rw [h] at h1; cases h1
  exact ⟨o, _, h2, h3⟩

theorem evalArgs_some {M : Model} {A : Around} {E : Value → Shared → Prop} {s : Shared} {f : Value} {l : List (Bool × Sem Value)} {Q : Args → Shared → Prop} (hl : ∀ x ∈ l, x.1 = false) (hne : l ≠ [])
    (h : wpAny M A (spliced l) (fun vs s' => Q ⟨vs, []⟩ s') E s) : wpAny M A (evalArgs f true l []) Q E s := by
  cases l with
  | nil => exact absurd rfl hne
  | cons x r =>
    obtain ⟨b, t⟩ := x
    have : b = false := hl (b, t) (.head _)
    subst this
    exact Calls.evalArgs_plain h

theorem any_false {es : List Expr} {env : Env} : (es.map fun e => (false, eval e env)).any (·.1) = false := by
  induction es with
  | nil => rfl
  | cons e es ih => simp

theorem map_ne {es : List Expr} {env : Env} (h : es ≠ []) : (es.map fun e => (false, eval e env)) ≠ [] := by
  cases es with
  | nil => exact absurd rfl h
  | cons e es => simp

theorem Ev.call {f p args pos g ps q} (hf : Ev T c σ (.Name f p) (.fn g)) (hg : ∃ d, d ∈ recsOf T.view ∧ d.name = g) (ha : EvL T c σ args ps) (hc : Cal T c.d g ps q)
    (hs : ∀ env, backTo pos (starEach args env) = args.map fun e => (false, eval e env) := by walk_at "r1") (hne : args ≠ [] := by walk_at "ne") : Ev T c σ (.Call (.Name f p) args [] pos) q := fun A env U s O R => by
  show wpAny _ A (do callWith pos (← eval (.Name f p) env) [] (backTo pos (starEach args env)) (backToKw pos (keywordEach [] env))) _ _ s
  refine wpAny_bind (wpB (hf A env U s O R) fun v s1 ⟨a1, e1⟩ => ?_)
  unfold Rep at a1
  obtain ⟨a, rfl, hm⟩ := a1
  obtain ⟨o, fd, ho, hd⟩ := top_func hg hm
  have R1 := R.ext e1
  rw [hs]
  refine Calls.callWith_function (o := o) (fd := fd) (evalArgs_some (by intro x hx; obtain ⟨_, _, rfl⟩ := List.mem_map.mp hx; rfl) (map_ne hne) (wpB (ha A env U s1 O R1) fun vs s2 ⟨a2, e2⟩ => ?_))
  exact ⟨⟨(R1.ext e2).top _ _ ho, hd⟩, wpB (hc A U s2 a vs O (R1.ext e2).su hm a2) fun v s3 ⟨a3, e3⟩ => ⟨a3, (e1.trans e2).trans e3⟩⟩

theorem Ev.callb {f p args pos id ps q} (hf : Ev T c σ (.Name f p) (.raw (.builtin id))) (ha : EvL T c σ args ps) (hc : Bcl T id ps q)
    (hs : ∀ env, backTo pos (starEach args env) = args.map fun e => (false, eval e env) := by walk_at "r1") (hne : args ≠ [] := by walk_at "ne") : Ev T c σ (.Call (.Name f p) args [] pos) q := fun A env U s O R => by
  show wpAny _ A (do callWith pos (← eval (.Name f p) env) [] (backTo pos (starEach args env)) (backToKw pos (keywordEach [] env))) _ _ s
  refine wpAny_bind (wpB (hf A env U s O R) fun v s1 ⟨a1, e1⟩ => ?_)
  unfold Rep at a1
  subst a1
  rw [hs]
  exact Calls.callWith_builtin any_false (evalArgs_some (by intro x hx; obtain ⟨_, _, rfl⟩ := List.mem_map.mp hx; rfl) (map_ne hne) (wpB (ha A env U s1 O (R.ext e1)) fun vs s2 ⟨a2, e2⟩ =>
    wpB (hc A U s2 vs O.zero ((R.ext e1).ext e2).su a2) fun v s3 ⟨a3, e3⟩ => ⟨a3, (e1.trans e2).trans e3⟩))

-- the same upon a list that is only looked at (one argument)
noncomputable def Bco (T : TC) (id : String) (ps : List V) (p : V) : Prop :=
  ∀ A U s v, Ok 0 A → Su T U s → Pk T s U v ps → wpAny (model T.prog T.w) A (call (.builtin id) [v]) (fun v s' => Rep T s' U v p ∧ Ext s s') (fun _ _ => False) s
theorem Ev.callo {f p arg pos id ps q} (hf : Ev T c σ (.Name f p) (.raw (.builtin id))) (ha : EvO T c σ arg ps) (hc : Bco T id ps q)
    (hs : ∀ env, backTo pos (starEach [arg] env) = [(false, eval arg env)] := by walk_at "r1") : Ev T c σ (.Call (.Name f p) [arg] [] pos) q := fun A env U s O R => by
  show wpAny _ A (do callWith pos (← eval (.Name f p) env) [] (backTo pos (starEach [arg] env)) (backToKw pos (keywordEach [] env))) _ _ s
  refine wpAny_bind (wpB (hf A env U s O R) fun v s1 ⟨a1, e1⟩ => ?_)
  unfold Rep at a1
  subst a1
  rw [hs]
  exact Calls.callWith_builtin rfl (Calls.evalArgs_plain (Calls.spliced_cons (wpB (ha A env U s1 O (R.ext e1)) fun vs s2 ⟨a2, e2⟩ => Calls.spliced_nil (
    wpB (hc A U s2 vs O.zero ((R.ext e1).ext e2).su a2) fun v s3 ⟨a3, e3⟩ => ⟨a3, (e1.trans e2).trans e3⟩))))

theorem Pk.ext {s s' : Shared} {U v ps} (h : Pk T s U v ps) (e : Ext s s') : Pk T s' U v ps := let ⟨a, it, n, h1, h2, h4, h3⟩ := h; ⟨a, it, n, h1, e.keep _ _ h2, h4, h3.ext e⟩
theorem Rep.pk {s U v ps} (h : Rep T s U v (.list ps)) : Pk T s U v ps := by
  unfold Rep at h; obtain ⟨a, it, n, h1, _, h2, h4, h3⟩ := h; exact ⟨a, it, n, h1, h2, h4, h3⟩
theorem EvO.of {e ps} (h : Ev T c σ e (.list ps)) : EvO T c σ e ps := fun A env U s O R => wpB (h A env U s O R) fun _ _ ⟨a, e⟩ => ⟨a.pk, e⟩
theorem EvO.name {x pos ps} (h : At c.N σ x (.own ps)) : EvO T c σ (.Name x pos) ps := fun _ _ _ s _ R =>
  let ⟨d, a, it, n, h1, h2, h4, h3⟩ := R.own x ps h
  wpAny_Name (load_var R.kind h1 ⟨⟨a, it, n, rfl, h2, h4, h3⟩, Ext.refl s⟩) d
theorem EvN.ev {e ps} (h : EvN T c σ e ps) : Ev T c σ e (.list ps) := fun A env U s O R => wpB (h A env U s O R) fun v s' ⟨⟨a, it, n, h1, h2, h3, h4, _, h5⟩, e⟩ => by
  refine ⟨?_, e⟩; unfold Rep; exact ⟨a, it, n, h1, new_not R.used h2, h3, h4, h5⟩

-- list displays
theorem spl {es : List Expr} {env : Env} {pos : Pos} (hs : backTo pos (starEach es env) = es.map fun e => (false, eval e env)) {M : Model} {A : Around} {E : Value → Shared → Prop} {s : Shared} {Q : List Value → Shared → Prop}
    (h : wpAny M A (spliced (es.map fun e => (false, eval e env))) Q E s) : wpAny M A (spliced (backTo pos (starEach es env))) Q E s := by rw [hs]; exact h
theorem Ev.list {es pos ps} (ha : EvL T c σ es ps) (hl : ps.length ≤ 1048576 := by walk_at "sz") (hs : ∀ env, backTo pos (starEach es env) = es.map fun e => (false, eval e env) := by walk_at "r1") : Ev T c σ (.List es pos) (.list ps) := fun A env U s O R =>
  wpAny_List (spl (hs env) (wpB (ha A env U s O R) fun vs s1 ⟨a1, e1⟩ => by
    have hL := a1.length
    refine ⟨by have : (2:Nat)^24 = sizeLine := rfl; omega, ?_, e1.trans (Ext.push' _ _)⟩
    unfold Rep
    exact ⟨_, _, 0, rfl, new_not (R.ext e1).used (get_size _), Heap.get?_push_size _ rfl, hl, a1.ext (Ext.push' _ _)⟩))
theorem EvN.list {es pos ps} (ha : EvL T c σ es ps) (hp : ps.all V.flat = true := by rfl) (hl : ps.length ≤ 1048576 := by walk_at "sz") (hs : ∀ env, backTo pos (starEach es env) = es.map fun e => (false, eval e env) := by walk_at "r1") : EvN T c σ (.List es pos) ps := fun A env U s O R =>
  wpAny_List (spl (hs env) (wpB (ha A env U s O R) fun vs s1 ⟨a1, e1⟩ => by
    have hL := a1.length
    refine ⟨by have : (2:Nat)^24 = sizeLine := rfl; omega, ⟨_, _, 0, rfl, ?_, Heap.get?_push_size _ rfl, hl, hp, a1.ext (Ext.push' _ _)⟩, e1.trans (Ext.push' _ _)⟩
    cases e : s.heap.get? s1.heap.objs.size with
    | none => rfl
    | some o => have := e1.keep _ _ e; rw [get_size] at this; cases this))

-- an item
noncomputable def Sb (T : TC) (po pi p : V) : Prop :=
  ∀ A U s vo vi, Ok 0 A → Su T U s → Rep T s U vo po → Rep T s U vi pi → ItemOn (model T.prog T.w) A (fun _ _ => False) vo vi (fun v s' => Rep T s' U v p ∧ Ext s s') s
noncomputable def Sbo (T : TC) (ps : List V) (pi p : V) : Prop :=
  ∀ A U s vo vi, Ok 0 A → Su T U s → Pk T s U vo ps → Rep T s U vi pi → ItemOn (model T.prog T.w) A (fun _ _ => False) vo vi (fun v s' => Rep T s' U v p ∧ Ext s s') s
theorem sub_item {A : Around} {E : Value → Shared → Prop} {s : Shared} {value slice : Expr} {o i : Value} {Q : Value → Shared → Prop}
    (hs : subscripted slice false o i = operate [o, i] (getItem o i)) (h : ItemOn (model T.prog T.w) A E o i Q s) : wpAny (model T.prog T.w) A (subscriptTail value slice o i) Q E s := by
  obtain ⟨Ty, id, hl, hT, h⟩ := h
  unfold subscriptTail
  refine wpAny_bind ?_
  rw [getitemInPython_of_ne hT.not_modules]
  refine wpAny_bind (wpAny_specialOf hT hl ?_)
  have fin : wpAny (model T.prog T.w) A (subscripted slice false o i) (fun r s₃ => wpAny (model T.prog T.w) A (letTemporaryGo value o r >>= fun _ => pure r) Q E s₃) E s := by
    rw [hs]
    exact wpAny_operating (wpAny_mono h (fun r s₃ h₃ => wpAny_bind (wpAny_letTemporaryGo (wpAny_pure h₃))) fun _ _ x => x)
  first
    | exact wpAny_pure (wpAny_bind fin)
    | exact wpAny_bind (wpAny_pure (wpAny_bind fin))
    | exact wpAny_bind fin
theorem Ev.sub {value slice pos po pi p} (h1 : Ev T c σ value po) (h2 : Ev T c σ slice pi) (h3 : Sb T po pi p)
    (hs : ∀ o i, subscripted slice false o i = operate [o, i] (getItem o i) := by walk_at "r2") : Ev T c σ (.Subscript value slice pos) p := fun A env U s O R =>
  Subscript_ (wpB (h1 A env U s O R) fun va s1 ⟨a1, e1⟩ => wpB (h2 A env U s1 O (R.ext e1)) fun vb s2 ⟨a2, e2⟩ => sub_item (hs va vb) (by
    obtain ⟨Ty, id, x1, x2, x3⟩ := h3 A U s2 va vb O.zero ((R.ext e1).ext e2).su (a1.ext e2) a2
    exact ⟨Ty, id, x1, x2, wpB x3 fun _ _ ⟨a3, e3⟩ => ⟨a3, (e1.trans e2).trans e3⟩⟩))
theorem Ev.subo {value slice pos ps pi p} (h1 : EvO T c σ value ps) (h2 : Ev T c σ slice pi) (h3 : Sbo T ps pi p)
    (hs : ∀ o i, subscripted slice false o i = operate [o, i] (getItem o i) := by walk_at "r2") : Ev T c σ (.Subscript value slice pos) p := fun A env U s O R =>
  Subscript_ (wpB (h1 A env U s O R) fun va s1 ⟨a1, e1⟩ => wpB (h2 A env U s1 O (R.ext e1)) fun vb s2 ⟨a2, e2⟩ => sub_item (hs va vb) (by
    obtain ⟨Ty, id, x1, x2, x3⟩ := h3 A U s2 va vb O.zero ((R.ext e1).ext e2).su (a1.ext e2) a2
    exact ⟨Ty, id, x1, x2, wpB x3 fun _ _ ⟨a3, e3⟩ => ⟨a3, (e1.trans e2).trans e3⟩⟩))
theorem Sbo.of {ps pi p} (h : Sbo T ps pi p) : Sb T (.list ps) pi p := fun A U s vo vi O S x y => h A U s vo vi O S x.pk y
theorem Sbo.at {ps : List V} {k : Int} {p : V} (h0 : 0 ≤ k) (hx : ps[k.toNat]? = some p) : Sbo T ps (.int k) p := by
  intro A U s vo vi O S x y
  unfold Rep at y; obtain ⟨t, rfl⟩ := y
  obtain ⟨a, it, n, rfl, hl, hL, hr⟩ := x
  have hlen : k.toNat < ps.length := by
    rcases Nat.lt_or_ge k.toNat ps.length with h | h
    · exact h
    · rw [List.getElem?_eq_none h] at hx; cases hx
  obtain ⟨v, h1, h2⟩ := hr.get hx
  exact ⟨"list", _, slot_list_getitem.lookup, hl.isList.typeIs, wpAny_getItem_list hl.isList h0 (by omega) (by simpa using h1) ⟨h2, Ext.refl s⟩⟩
theorem Sbo.neg {ps : List V} {k : Int} {p : V} (h0 : k < 0) (hk : -(ps.length : Int) ≤ k) (hx : ps[(k + ps.length).toNat]? = some p) : Sbo T ps (.int k) p := by
  intro A U s vo vi O S x y
  unfold Rep at y; obtain ⟨t, rfl⟩ := y
  obtain ⟨a, it, n, rfl, hl, hL, hr⟩ := x
  obtain ⟨v, h1, h2⟩ := hr.get hx
  have hsz : it.size = ps.length := by rw [← hr.length]; simp
  exact ⟨"list", _, slot_list_getitem.lookup, hl.isList.typeIs, wpAny_getItem_list_neg hl.isList h0 (by rw [hsz]; exact hk) (by omega) (by rw [hsz]; simpa using h1) ⟨h2, Ext.refl s⟩⟩
theorem Sb.str {x : List Nat} {k : Int} {ch : Nat} (h0 : 0 ≤ k) (hL : x.length ≤ 1048576) (hx : x[k.toNat]? = some ch) : Sb T (.str x) (.int k) (.strt [ch]) := by
  intro A U s vo vi O S' a y
  unfold Rep at y; obtain ⟨t, rfl⟩ := y
  unfold Rep at a; obtain ⟨u, rfl, h⟩ := a
  have hlen : k.toNat < x.length := by
    rcases Nat.lt_or_ge k.toNat x.length with h | h
    · exact h
    · rw [List.getElem?_eq_none h] at hx; cases hx
  have hch : Txt.charAt (S x) k = some ch := by
    unfold Txt.charAt
    have hc : seqIndex? k (S x).length = some k.toNat := by
      rw [S_len]; unfold seqIndex?
      simp only [show ¬ k < 0 by omega, if_false]
      first | (rw [if_neg (by omega)]; done) | (simp; omega)
    rw [hc]
    simp [S, hx]
  have hit : Txt.item (S x) k = S [ch] := by unfold Txt.item; rw [hch]; rfl
  refine SB.item (fitsSsize_of (N := 9223372036854775808) (by omega) (by omega) (Int.le_refl _)) (by rw [hch]; rfl) ?_
  rw [hit]
  refine ⟨?_, Ext.toks' s⟩
  unfold Rep
  exact ⟨_, rfl, by simp, Nat.pos_iff_ne_zero.mp S'.tok, Nat.lt_succ_self _⟩
theorem Sb.strneg {x : List Nat} {k : Int} {ch : Nat} (h0 : k < 0) (hk : -(x.length : Int) ≤ k) (hL : x.length ≤ 1048576) (hx : x[(k + x.length).toNat]? = some ch) : Sb T (.str x) (.int k) (.strt [ch]) := by
  intro A U s vo vi O S' a y
  unfold Rep at y; obtain ⟨t, rfl⟩ := y
  unfold Rep at a; obtain ⟨u, rfl, h⟩ := a
  have hch : Txt.charAt (S x) k = some ch := by
    unfold Txt.charAt
    have hc : seqIndex? k (S x).length = some (k + x.length).toNat := by
      rw [S_len]; unfold seqIndex?
      simp only [h0, if_true]
      first | (rw [if_neg (by omega)]; done) | (simp; omega)
    rw [hc]
    simp [S, hx]
  have hit : Txt.item (S x) k = S [ch] := by unfold Txt.item; rw [hch]; rfl
  refine SB.item (fitsSsize_of (N := 9223372036854775808) (by omega) (by omega) (Int.le_refl _)) (by rw [hch]; rfl) ?_
  rw [hit]
  refine ⟨?_, Ext.toks' s⟩
  unfold Rep
  exact ⟨_, rfl, by simp, Nat.pos_iff_ne_zero.mp S'.tok, Nat.lt_succ_self _⟩

-- strt is a str
theorem Ev.weak {e x} (h : Ev T c σ e (.strt x)) : Ev T c σ e (.str x) := fun A env U s O R => wpB (h A env U s O R) fun _ _ ⟨a, e⟩ => ⟨a.weak, e⟩

-- len
theorem Bco.len {ps : List V} : Bco T "len" ps (.int ps.length) := by
  intro A U s v O S x
  obtain ⟨a, it, n, rfl, hl, hL, hr⟩ := x
  have hsz : it.size = ps.length := by rw [← hr.length]; simp
  refine PyProof.Rows.len_list hl.isList (by omega) ⟨by rw [hsz]; exact Rep.int_, Ext.toksn s _ (by omega)⟩
theorem Bcl.lens {x : List Nat} : Bcl T "len" [.str x] (.int x.length) := by
  intro A U s vs O S' a
  unfold Reps at a; obtain ⟨v, r, rfl, h1, h2⟩ := a
  unfold Reps at h2; subst h2
  unfold Rep at h1; obtain ⟨t, rfl, hL⟩ := h1
  refine SBL.len (by rw [S_len]; omega) ⟨by rw [S_len]; exact Rep.int_, Ext.toksn s _ (by omega)⟩
theorem Bcl.min {a b : Int} : Bcl T "min" [.int a, .int b] (.int (if b < a then b else a)) := by
  intro A U s vs O S' x
  unfold Reps at x; obtain ⟨v, r, rfl, h1, h2⟩ := x
  unfold Reps at h2; obtain ⟨v2, r2, rfl, h2, h3⟩ := h2
  unfold Reps at h3; subst h3
  unfold Rep at h1 h2; obtain ⟨t, rfl⟩ := h1; obtain ⟨u, rfl⟩ := h2
  refine ext_of (min_two_ints O.handled fun h' tk hk _ => ⟨?_, Ext0.of hk⟩)
  split <;> exact Rep.int_
end
section
open PySem PySem.W PyProof.Rows
set_option Elab.async false
set_option linter.unusedVariables false
variable {T : TC} {c : Cx} {σ : List Slot}

mutual
noncomputable def toD : V → PyData
  | .none => .none
  | .bool b => .bool b
  | .int i => .int i
  | .str x => .str (S x)
  | .strt x => .str (S x)
  | .list ps => .list (toDs ps)
  | .dict _ => .none
  | .fn _ => .none
  | .raw _ => .none
noncomputable def toDs : List V → List PyData
  | [] => []
  | p :: ps => toD p :: toDs ps
end
mutual
-- data with small signs, at most n deep
noncomputable def dOk : Nat → V → Bool
  | _, .none => true
  | _, .bool _ => true
  | _, .int _ => true
  | _, .str x => x.all (· < 0x110000)
  | _, .strt x => x.all (· < 0x110000)
  | 0, .list ps => false
  | n + 1, .list ps => dOks n ps
  | _, .dict _ => false
  | _, .fn _ => false
  | _, .raw _ => false
noncomputable def dOks : Nat → List V → Bool
  | _, [] => true
  | n, p :: ps => dOk n p && dOks n ps
end
theorem dOks_all : ∀ {ps : List V} {n : Nat}, dOks n ps = ps.all (dOk n)
  | [], n => by unfold dOks; rfl
  | p :: ps, n => by unfold dOks; rw [dOks_all, List.all_cons]

mutual
theorem lay_of : ∀ {p : V} {n : Nat}, dOk n p = true → (toD p).canLay0 = true ∧ (toD p).depth ≤ n
  | .none, n, _ => ⟨rfl, Nat.zero_le _⟩
  | .bool _, n, _ => ⟨rfl, Nat.zero_le _⟩
  | .int _, n, _ => ⟨rfl, Nat.zero_le _⟩
  | .str x, n, h => ⟨by unfold dOk at h; unfold toD PyData.canLay0 PyData.strOk S; simpa using h, Nat.zero_le _⟩
  | .strt x, n, h => ⟨by unfold dOk at h; unfold toD PyData.canLay0 PyData.strOk S; simpa using h, Nat.zero_le _⟩
  | .list ps, 0, h => by unfold dOk at h; cases h
  | .list ps, n + 1, h => by
    unfold dOk at h
    obtain ⟨a, b⟩ := lays_of h
    unfold toD
    exact ⟨a, by unfold PyData.depth; omega⟩
  | .dict _, n, h => by unfold dOk at h; cases h
  | .fn _, n, h => by unfold dOk at h; cases h
  | .raw _, n, h => by unfold dOk at h; cases h
theorem lays_of : ∀ {ps : List V} {n : Nat}, dOks n ps = true → PyData.canLayAll0 (toDs ps) = true ∧ PyData.depthAll (toDs ps) ≤ n
  | [], n, _ => ⟨rfl, Nat.zero_le _⟩
  | p :: ps, n, h => by
    unfold dOks at h
    rw [Bool.and_eq_true] at h
    obtain ⟨a, b⟩ := lay_of h.1
    obtain ⟨a', b'⟩ := lays_of h.2
    unfold toDs PyData.canLayAll0 PyData.depthAll
    exact ⟨by rw [a, a']; rfl, by omega⟩
end
mutual
theorem reads_of {s : Shared} {U : List Addr} : ∀ {p : V} {v : Value} {n : Nat}, dOk n p = true → Rep T s U v p → ∃ as, Reads s.heap v (toD p) as
  | .none, v, n, _, h => by unfold Rep at h; subst h; exact ⟨_, .none⟩
  | .bool _, v, n, _, h => by unfold Rep at h; subst h; exact ⟨_, .bool _⟩
  | .int _, v, n, _, h => by unfold Rep at h; obtain ⟨t, rfl⟩ := h; exact ⟨_, .int _ _⟩
  | .str x, v, n, _, h => by unfold Rep at h; obtain ⟨t, rfl, _⟩ := h; exact ⟨_, .str _ _⟩
  | .strt x, v, n, _, h => by unfold Rep at h; obtain ⟨t, rfl, _⟩ := h; exact ⟨_, .str _ _⟩
  | .list ps, v, 0, h, _ => by unfold dOk at h; cases h
  | .list ps, v, n + 1, h, r => by
    unfold dOk at h
    unfold Rep at r
    obtain ⟨a, it, m, rfl, _, hl, _, hr⟩ := r
    obtain ⟨as, x⟩ := readsAll_of h hr
    unfold toD
    exact ⟨_, .list hl rfl rfl x⟩
  | .dict _, v, n, h, _ => by unfold dOk at h; cases h
  | .fn _, v, n, h, _ => by unfold dOk at h; cases h
  | .raw _, v, n, h, _ => by unfold dOk at h; cases h
theorem readsAll_of {s : Shared} {U : List Addr} : ∀ {ps : List V} {vs : List Value} {n : Nat}, dOks n ps = true → Reps T s U vs ps → ∃ as, ReadsAll s.heap vs (toDs ps) as
  | [], vs, n, _, h => by unfold Reps at h; subst h; exact ⟨_, .nil⟩
  | p :: ps, vs, n, h, r => by
    unfold dOks at h
    rw [Bool.and_eq_true] at h
    unfold Reps at r
    obtain ⟨v, r', rfl, h2, h3⟩ := r
    obtain ⟨as, x⟩ := reads_of h.1 h2
    obtain ⟨bs, y⟩ := readsAll_of h.2 h3
    unfold toDs
    exact ⟨_, .cons x y⟩
end
theorem pk_reads {s : Shared} {U : List Addr} {v ps n} (h : dOks n ps = true) (x : Pk T s U v ps) : ∃ as, Reads s.heap v (.list (toDs ps)) as := by
  obtain ⟨a, it, m, rfl, hl, _, hr⟩ := x
  obtain ⟨as, x⟩ := readsAll_of h hr
  exact ⟨_, .list hl rfl rfl x⟩

-- equal data
noncomputable def eqV (p q : V) : Bool := PyData.eqv (toD p) (toD q)
noncomputable def inV (p : V) (ps : List V) : Bool := ps.any fun q => eqV q p
theorem toDs_map : ∀ ps : List V, toDs ps = ps.map toD
  | [] => by unfold toDs; rfl
  | p :: ps => by unfold toDs; rw [toDs_map, List.map_cons]
theorem inV_eq (p : V) (ps : List V) : (toDs ps).any (fun y => PyData.eqv y (toD p)) = inV p ps := by
  rw [toDs_map, List.any_map]; rfl

theorem units_ok {A : Around} (O : Ok 0 A) {m n : Nat} (h : m ≤ 20) : A.units + 1 + min m n < cLine := by
  have := O.units; have := cLine_is; omega
noncomputable def Cmo (T : TC) (op : CmpOp) (pa : V) (ps : List V) (b : Bool) : Prop :=
  ∀ A U s va vb, Ok 0 A → Su T U s → Rep T s U va pa → Pk T s U vb ps → wpAny (model T.prog T.w) A (compareOp op va vb) (fun v s' => v = .bool b ∧ Ext s s') (fun _ _ => False) s
noncomputable def Cml (T : TC) (op : CmpOp) (ps : List V) (pa : V) (b : Bool) : Prop :=
  ∀ A U s va vb, Ok 0 A → Su T U s → Pk T s U va ps → Rep T s U vb pa → wpAny (model T.prog T.w) A (compareOp op va vb) (fun v s' => v = .bool b ∧ Ext s s') (fun _ _ => False) s

theorem Ev.cmpo {l op r pos pa ps b} (h1 : Ev T c σ l pa) (h2 : EvO T c σ r ps) (h3 : Cmo T op pa ps b) (hm : behindInMarks op r = false := by walk_at "wu") : Ev T c σ (.Compare l [op] [r] pos) (.bool b) := fun A env U s O R =>
  wpAny_Compare1 (wpB (h1 A env U s O R) fun va s1 ⟨a1, e1⟩ => wpB (h2 A env U s1 O (R.ext e1)) fun vb s2 ⟨a2, e2⟩ =>
    wpB (h3 A U s2 va vb O.zero ((R.ext e1).ext e2).su (a1.ext e2) a2) fun _ _ ⟨a3, e3⟩ => ⟨by subst a3; exact Rep.bool_, (e1.trans e2).trans e3⟩) hm
theorem Tr.cmpo {l op r pos pa ps b} (h1 : Ev T c σ l pa) (h2 : EvO T c σ r ps) (h3 : Cmo T op pa ps b) (hm : behindInMarks op r = false := by walk_at "wu") : Tr T c σ (.Compare l [op] [r] pos) b := fun A env U s O R =>
  wpAny_isTrue_Compare1 (wpB (h1 A env U s O R) fun va s1 ⟨a1, e1⟩ => wpB (h2 A env U s1 O (R.ext e1)) fun vb s2 ⟨a2, e2⟩ =>
    wpB (h3 A U s2 va vb O.zero ((R.ext e1).ext e2).su (a1.ext e2) a2) fun _ _ ⟨a3, e3⟩ => by subst a3; exact wpAny_truthy_bool ⟨rfl, (e1.trans e2).trans e3⟩) hm
theorem Cmo.in_ {p ps} (hp : dOk 9 p = true) (hps : dOks 9 ps = true) : Cmo T .In p ps (inV p ps) := by
  intro A U s va vb O S x y
  obtain ⟨as, rx⟩ := reads_of hp x
  obtain ⟨bs, ry⟩ := pk_reads hps y
  exact SeqAt.in_list_reads ry rx (lays_of hps).1 (lay_of hp).1 (units_ok O (by have := (lays_of hps).2; omega)) ⟨by rw [inV_eq], Ext.refl s⟩
theorem Cmo.notin {p ps} (hp : dOk 9 p = true) (hps : dOks 9 ps = true) : Cmo T .NotIn p ps (!inV p ps) := by
  intro A U s va vb O S x y
  obtain ⟨as, rx⟩ := reads_of hp x
  obtain ⟨bs, ry⟩ := pk_reads hps y
  exact SeqAt.notIn_list_reads ry rx (lays_of hps).1 (lay_of hp).1 (units_ok O (by have := (lays_of hps).2; omega)) ⟨by rw [inV_eq], Ext.refl s⟩
theorem Cm2.eqd {p q} (hp : dOk 9 p = true) (hq : dOk 9 q = true) : Cm2 T .Eq p q (eqV p q) := by
  intro A U s va vb O S x y
  obtain ⟨as, rx⟩ := reads_of hp x
  obtain ⟨bs, ry⟩ := reads_of hq y
  exact SeqAt.compareEq_reads rx ry (lay_of hp).1 (lay_of hq).1 (by have := units_ok O (n := (toD q).depth) (m := (toD p).depth) (by have := (lay_of hp).2; omega); omega) ⟨rfl, Ext.refl s⟩
theorem Cm2.ned {p q} (hp : dOk 9 p = true) (hq : dOk 9 q = true) : Cm2 T .NotEq p q (!eqV p q) := by
  intro A U s va vb O S x y
  obtain ⟨as, rx⟩ := reads_of hp x
  obtain ⟨bs, ry⟩ := reads_of hq y
  exact SeqAt.compareNe_reads rx ry (lay_of hp).1 (lay_of hq).1 (by have := units_ok O (n := (toD q).depth) (m := (toD p).depth) (by have := (lay_of hp).2; omega); omega) ⟨rfl, Ext.refl s⟩
-- plain forms
theorem eqV_int (a b : Int) : eqV (.int a) (.int b) = (a == b) := by unfold eqV toD PyData.eqv; rfl
theorem eqV_str (a b : List Nat) : eqV (.str a) (.str b) = (a == b) := by unfold eqV toD PyData.eqv; rw [S_beq]
theorem eqV_bool (a b : Bool) : eqV (.bool a) (.bool b) = (a == b) := by unfold eqV toD PyData.eqv; rfl
theorem eqvAll_map {α : Type} [BEq α] {f : α → V} (h : ∀ a b, eqV (f a) (f b) = (a == b)) : ∀ xs ys : List α, PyData.eqvAll (toDs (xs.map f)) (toDs (ys.map f)) = (xs == ys)
  | [], [] => by unfold toDs PyData.eqvAll; rfl
  | [], y :: ys => by unfold toDs; simp only [List.map_cons, List.map_nil]; unfold PyData.eqvAll; rfl
  | x :: xs, [] => by unfold toDs; simp only [List.map_cons, List.map_nil]; unfold PyData.eqvAll; rfl
  | x :: xs, y :: ys => by
    simp only [List.map_cons]
    unfold toDs PyData.eqvAll
    have := h x y
    unfold eqV at this
    rw [this, eqvAll_map h xs ys]
    rfl
theorem eqV_list {α : Type} [BEq α] {f : α → V} (h : ∀ a b, eqV (f a) (f b) = (a == b)) (xs ys : List α) : eqV (.list (xs.map f)) (.list (ys.map f)) = (xs == ys) := by
  unfold eqV toD PyData.eqv; exact eqvAll_map h xs ys
theorem inV_map {α : Type} [BEq α] [LawfulBEq α] {f : α → V} (h : ∀ a b, eqV (f a) (f b) = (a == b)) (x : α) (xs : List α) : inV (f x) (xs.map f) = xs.contains x := by
  unfold inV
  rw [List.any_map, ← List.any_beq']
  congr 1
  funext y
  exact h y x
theorem dOks_map {α : Type} {f : α → V} {n : Nat} {xs : List α} (h : ∀ x ∈ xs, dOk n (f x) = true) : dOks n (xs.map f) = true := by
  rw [dOks_all, List.all_eq_true]
  intro p hp
  obtain ⟨x, hx, rfl⟩ := List.mem_map.mp hp
  exact h x hx
end
section
open PySem PySem.W PyProof.Rows
open PySem.Builtin PySem.Builtin.Str
set_option Elab.async false
set_option linter.unusedVariables false
variable {T : TC} {c : Cx} {σ : List Slot}

-- plain texts
noncomputable def atP (x y : List Nat) (i : Nat) : Bool := (x.drop i).take y.length == y
noncomputable def findP (x y : List Nat) (lo hi : Nat) : Option Nat := (List.range' lo (hi + 1 - lo)).find? fun i => decide (i + y.length ≤ hi) && atP x y i
noncomputable def hasP (x y : List Nat) : Bool := (List.range (x.length + 1)).any fun i => decide (i + y.length ≤ x.length) && atP x y i
noncomputable def joinP (sep : List Nat) : List (List Nat) → List Nat
  | [] => []
  | [x] => x
  | x :: y :: r => x ++ sep ++ joinP sep (y :: r)

theorem subAt_S (x y : List Nat) (i : Nat) : subAt (S x) (S y) i = atP x y i := by
  rw [StrLaws.subAt_eq, S_cps, S_cps, S_len]; rfl
theorem At_S (x y : List Nat) (hi i : Nat) : StrLaws.At (S x) (S y) hi i ↔ (decide (i + y.length ≤ hi) && atP x y i) = true := by
  unfold StrLaws.At
  rw [subAt_S, S_len, Bool.and_eq_true, decide_eq_true_iff]

theorem find_of {p : Nat → Bool} : ∀ {l pre post : List Nat} {a : Nat}, l = pre ++ a :: post → p a = true → (∀ k ∈ pre, p k = false) → l.find? p = some a
  | _, [], post, a, rfl, h, _ => by simp [h]
  | _, b :: pre, post, a, rfl, h, hn => by
    have hb := hn b (.head _)
    show List.find? p (b :: (pre ++ a :: post)) = some a
    rw [List.find?_cons, hb]
    exact find_of rfl h fun k hk => hn k (.tail _ hk)

theorem occ_find (x y : List Nat) (lo hi : Nat) :
    (match occurrences (S x) (S y) lo hi 1 with | k :: _ => (k : Int) | [] => -1) = (match findP x y lo hi with | some k => (k : Int) | none => -1) := by
  rw [StrLaws.occ_eq]
  rcases StrLaws.occ_first (S x) (S y) hi 1 (Nat.le_refl 1) (List.range' lo (hi + 1 - lo)) lo (fun i hi' => by have := List.mem_range'_1.mp hi'; omega) with ⟨h0, hn⟩ | ⟨pre, a, post, e, h0, ha, hn⟩
  · rw [h0]
    have : findP x y lo hi = none := by
      unfold findP
      rw [List.find?_eq_none]
      intro i hi'
      rw [← At_S]; exact hn i hi'
    rw [this]
  · generalize (forIn (List.range' lo (hi + 1 - lo)) ((#[] : Array Nat), lo) (StrLaws.occBody (S x) (S y) hi 1)).run.fst = arr at h0
    have h1 : arr.toList[0]? = some a := by simpa using h0
    have : findP x y lo hi = some a := find_of e ((At_S _ _ _ _).mp ha) fun k hk => by
      have := hn k hk; rw [At_S] at this; simpa using this
    rw [this]
    cases hL : arr.toList with
    | nil => rw [hL] at h1; cases h1
    | cons b t => rw [hL] at h1; simp at h1; rw [h1]

theorem has_S (x y : List Nat) : (!(occurrences (S x) (S y) 0 (S x).length 1).isEmpty) = hasP x y := by
  rw [Bool.eq_iff_iff, StrLaws.found_iff]
  unfold hasP
  rw [List.any_eq_true]
  constructor
  · rintro ⟨i, h1, h2⟩
    rw [S_len, S_len] at h1
    exact ⟨i, List.mem_range.mpr (by omega), by rw [Bool.and_eq_true, decide_eq_true_iff]; exact ⟨h1, by rw [← subAt_S]; exact h2⟩⟩
  · rintro ⟨i, _, h⟩
    rw [Bool.and_eq_true, decide_eq_true_iff] at h
    exact ⟨i, by rw [S_len, S_len]; exact h.1, by rw [subAt_S]; exact h.2⟩
theorem hasP_one (x : List Nat) (ch : Nat) : hasP x [ch] = x.contains ch := by
  rw [← has_S]
  have := StrLaws.found_one (S x) ch
  rw [S_cps] at this
  rw [show S [ch] = ⟨#[ch]⟩ from rfl, this]
  simp

theorem Cm2.ins {x y : List Nat} : Cm2 T .In (.str y) (.str x) (hasP x y) := by
  intro A U s va vb O S' a b
  unfold Rep at a b; obtain ⟨t, rfl, _⟩ := a; obtain ⟨u, rfl, _⟩ := b
  exact PyProof.Rows.in_str ⟨by rw [has_S], Ext.refl s⟩
theorem Cm2.notins {x y : List Nat} : Cm2 T .NotIn (.str y) (.str x) (!hasP x y) := by
  intro A U s va vb O S' a b
  unfold Rep at a b; obtain ⟨t, rfl, _⟩ := a; obtain ⟨u, rfl, _⟩ := b
  exact PyProof.Rows.notIn_str ⟨by rw [has_S], Ext.refl s⟩

-- a method called
structure Mty (T : TC) (po : V) (ty : String) : Prop where
  is : ∀ s U v, Rep T s U v po → s.TypeIs v ty ∧ (∀ a, v = .ref a → ∃ ob, s.heap.get? a = some ob ∧ ob.dict = none)
theorem Mty.str {x} : Mty T (.str x) "str" := ⟨fun s U v h => by unfold Rep at h; obtain ⟨t, rfl, _⟩ := h; exact ⟨typeIs_str _ _ _, fun _ e => nomatch e⟩⟩
theorem Mty.list {ps} : Mty T (.list ps) "list" := ⟨fun s U v h => by unfold Rep at h; obtain ⟨a, it, n, rfl, _, hl, _⟩ := h; exact ⟨hl.isList.typeIs, fun b e => by cases e; exact ⟨_, hl, rfl⟩⟩⟩

noncomputable def Mth (T : TC) (name : Str) (po : V) (ps : List V) (p : V) : Prop :=
  ∃ ty id, PlainAttrs ty ∧ PySem.Slot ty name id ∧ typeOf (.builtin id) = pure (.type "method_descriptor") ∧ Mty T po ty ∧ Bcl T id (po :: ps) p

theorem Ev.meth {o name apos args pos po ps p} (h1 : Ev T c σ o po) (ha : EvL T c σ args ps) (hm : Mth T name po ps p)
    (hbase : ∀ env, attributeBase o name env (eval o env) = eval o env := by walk_at "r1") (hs : ∀ env, backTo pos (starEach args env) = args.map fun e => (false, eval e env) := by walk_at "r1")
    (hfew : ∀ env, ((backTo pos (starEach args env)).all (fun x => !x.1) && (backToKw pos (keywordEach [] env)).all (fun x => x.1.isSome)
      && decide (args.length + ([] : List Keyword).length + (if ([] : List Keyword).isEmpty then 0 else 1) < 30)) = true := by walk_at "r1")
    (hline : (apos.endLine == pos.line) = true := by rfl) (hne : args ≠ [] := by walk_at "ne") : Ev T c σ (.Call (.Attribute o name apos) args [] pos) p := fun A env U s O R => by
  obtain ⟨ty, id, pa, slot, hty, hT, hb⟩ := hm
  refine wpAny_Call_method_lateS (hbase env) (hfew env) hline (wpB (h1 A env U s O R) fun v s1 ⟨a1, e1⟩ => ?_)
  obtain ⟨t1, t2⟩ := hT.is s1 U v a1
  refine ⟨ty, id, pa, slot, hty, t1, t2, ?_⟩
  rw [hs]
  exact Calls.callWith_builtin any_false (evalArgs_some (by intro x hx; obtain ⟨_, _, rfl⟩ := List.mem_map.mp hx; rfl) (map_ne hne) (wpB (ha A env U s1 O (R.ext e1)) fun vs s2 ⟨a2, e2⟩ =>
    wpB (hb A U s2 (v :: vs) O.zero ((R.ext e1).ext e2).su (Reps.cons (a1.ext e2) a2)) fun v s3 ⟨a3, e3⟩ => ⟨a3, (e1.trans e2).trans e3⟩))
theorem Ev.meth0 {o name apos pos po p} (h1 : Ev T c σ o po) (hm : Mth T name po [] p)
    (hbase : ∀ env, attributeBase o name env (eval o env) = eval o env := by walk_at "r1")
    (hline : (apos.endLine == pos.line) = true := by rfl) : Ev T c σ (.Call (.Attribute o name apos) [] [] pos) p := fun A env U s O R => by
  obtain ⟨ty, id, pa, slot, hty, hT, hb⟩ := hm
  refine wpAny_Call_method_lateS (hbase env) rfl hline (wpB (h1 A env U s O R) fun v s1 ⟨a1, e1⟩ => ?_)
  obtain ⟨t1, t2⟩ := hT.is s1 U v a1
  refine ⟨ty, id, pa, slot, hty, t1, t2, ?_⟩
  exact Calls.callWith_builtin rfl (PySem.evalArgs_none (
    wpB (hb A U s1 [v] O.zero (R.ext e1).su (Reps.cons a1 Reps.nil)) fun v s3 ⟨a3, e3⟩ => ⟨a3, e1.trans e3⟩))

-- arguments taken apart
theorem reps1 {s : Shared} {U vs p} (h : Reps T s U vs [p]) : ∃ v, vs = [v] ∧ Rep T s U v p := by
  unfold Reps at h; obtain ⟨v, r, rfl, a, b⟩ := h; unfold Reps at b; subst b; exact ⟨v, rfl, a⟩
theorem reps2 {s : Shared} {U vs p q} (h : Reps T s U vs [p, q]) : ∃ v w, vs = [v, w] ∧ Rep T s U v p ∧ Rep T s U w q := by
  unfold Reps at h; obtain ⟨v, r, rfl, a, b⟩ := h; obtain ⟨w, rfl, d⟩ := reps1 b; exact ⟨v, w, rfl, a, d⟩
theorem reps3 {s : Shared} {U vs p q r} (h : Reps T s U vs [p, q, r]) : ∃ v w x, vs = [v, w, x] ∧ Rep T s U v p ∧ Rep T s U w q ∧ Rep T s U x r := by
  unfold Reps at h; obtain ⟨v, r, rfl, a, b⟩ := h; obtain ⟨w, x, rfl, d, e⟩ := reps2 b; exact ⟨v, w, x, rfl, a, d, e⟩
theorem reps4 {s : Shared} {U vs p q r t} (h : Reps T s U vs [p, q, r, t]) : ∃ v w x y, vs = [v, w, x, y] ∧ Rep T s U v p ∧ Rep T s U w q ∧ Rep T s U x r ∧ Rep T s U y t := by
  unfold Reps at h; obtain ⟨v, r, rfl, a, b⟩ := h; obtain ⟨w, x, y, rfl, d, e, f⟩ := reps3 b; exact ⟨v, w, x, y, rfl, a, d, e, f⟩
theorem rep_str {s : Shared} {U v x} (h : Rep T s U v (.str x)) : ∃ t, v = .str (S x) t ∧ x.length ≤ 1048576 := by unfold Rep at h; exact h
theorem rep_strt {s : Shared} {U v x} (h : Rep T s U v (.strt x)) : ∃ t, v = .str (S x) t ∧ x.length ≤ 1048576 ∧ t ≠ 0 ∧ t < s.toks := by unfold Rep at h; exact h
theorem rep_int {s : Shared} {U v i} (h : Rep T s U v (.int i)) : ∃ t, v = .int i t := by unfold Rep at h; exact h
theorem rep_bool {s : Shared} {U v b} (h : Rep T s U v (.bool b)) : v = .bool b := by unfold Rep at h; exact h

-- startswith, endswith
theorem starts_S (x y : List Nat) : Txt.startswith (S x) (S y) = y.isPrefixOf x := by
  unfold Txt.startswith
  rw [subAt_S, S_len, S_len]
  unfold atP
  rw [Bool.eq_iff_iff, Bool.and_eq_true, decide_eq_true_iff, beq_iff_eq, List.isPrefixOf_iff_prefix, List.drop_zero, List.prefix_iff_eq_take]
  constructor
  · rintro ⟨_, h⟩; exact h.symm
  · intro h; exact ⟨by rw [Nat.zero_add]; rw [h]; simp; omega, h.symm⟩
theorem ends_S (x y : List Nat) : Txt.endswith (S x) (S y) = y.isSuffixOf x := by
  unfold Txt.endswith
  rw [subAt_S, S_len, S_len]
  unfold atP
  rw [Bool.eq_iff_iff, Bool.and_eq_true, decide_eq_true_iff, beq_iff_eq, List.isSuffixOf_iff_suffix, List.suffix_iff_eq_drop]
  constructor
  · rintro ⟨h0, h⟩; rw [List.take_of_length_le (by simp; omega)] at h; exact h.symm
  · intro h
    have hl : y.length ≤ x.length := by
      have := congrArg List.length h
      simp at this; omega
    exact ⟨by omega, by rw [List.take_of_length_le (by simp; omega)]; exact h.symm⟩
theorem Mth.startswith {x y} : Mth T "startswith" (.str x) [.str y] (.bool (y.isPrefixOf x)) := by
  refine ⟨"str", _, F.plainAttrs_str, F.slot_str_startswith, F.type_str_startswith, Mty.str, ?_⟩
  intro A U s vs O S' h
  obtain ⟨v, w, rfl, h1, h2⟩ := reps2 h
  obtain ⟨t, rfl, _⟩ := rep_str h1; obtain ⟨u, rfl, _⟩ := rep_str h2
  exact SC.startswith ⟨by rw [starts_S]; exact Rep.bool_, Ext.refl s⟩
theorem Mth.endswith {x y} : Mth T "endswith" (.str x) [.str y] (.bool (y.isSuffixOf x)) := by
  refine ⟨"str", _, F.plainAttrs_str, F.slot_str_endswith, F.type_str_endswith, Mty.str, ?_⟩
  intro A U s vs O S' h
  obtain ⟨v, w, rfl, h1, h2⟩ := reps2 h
  obtain ⟨t, rfl, _⟩ := rep_str h1; obtain ⟨u, rfl, _⟩ := rep_str h2
  exact SC.endswith ⟨by rw [ends_S]; exact Rep.bool_, Ext.refl s⟩

-- find with both bounds
theorem gives_find4 (x y : Str) (i j : Int) (t u v w : Tok) (hi : 0 ≤ i) (hj : 0 ≤ j) : Gives (Builtin.«str.find» ⟨[.str x t, .str y u, .int i v, .int j w], []⟩)
    (.int (match occurrences x y i.toNat (min j.toNat x.length) 1 with | k :: _ => (k : Int) | [] => -1)) := by
  have e1 : max 0 (if i < 0 then i + (x.length : Int) else i) = i := by rw [if_neg (by omega)]; omega
  have e2 : max 0 (if j < 0 then j + (x.length : Int) else j) = j := by rw [if_neg (by omega)]; omega
  show Gives (match occurrences x y (max 0 (if i < 0 then i + (x.length : Int) else i)).toNat (min (max 0 (if j < 0 then j + (x.length : Int) else j)).toNat x.length) 1 with | k :: _ => retInt k | [] => (do rule "str.find.not-found"; retInt (-1))) _
  rw [e1, e2]
  cases occurrences x y i.toNat (min j.toNat x.length) 1 with
  | nil => exact .rule (.of_eq rfl)
  | cons k _ => exact .of_eq rfl
noncomputable def findI (x y : List Nat) (lo hi : Int) : Int := match findP x y lo.toNat (min hi.toNat x.length) with | some k => (k : Int) | none => -1
theorem Mth.find {x y : List Nat} {i j : Int} (hi : 0 ≤ i) (hj : 0 ≤ j) : Mth T "find" (.str x) [.str y, .int i, .int j] (.int (findI x y i j)) := by
  refine ⟨"str", _, F.plainAttrs_str, F.slot_str_find, F.type_str_find, Mty.str, ?_⟩
  intro A U s vs O S' h
  obtain ⟨v, w, a, b, rfl, h1, h2, h3, h4⟩ := reps4 h
  obtain ⟨t, rfl, _⟩ := rep_str h1; obtain ⟨u, rfl, _⟩ := rep_str h2
  obtain ⟨t3, rfl⟩ := rep_int h3; obtain ⟨t4, rfl⟩ := rep_int h4
  refine call_gives F.slot_str_find (typeIs_str _ _ _) F.entry_str_find (F.args_str_find_4 _ _ _ _) (gives_find4 (S x) (S y) i j t u t3 t4 hi hj) ?_
  rw [S_len, occ_find]
  exact ⟨Rep.int_, Ext.toks' s⟩

-- lower, upon ASCII
noncomputable def lowP (ch : Nat) : Nat := if 65 ≤ ch ∧ ch ≤ 90 then ch + 32 else ch
theorem lower_one : ∀ ch < 128, (PySem.Unicode.lowerAt #[ch] 0) = [lowP ch] := by decide +kernel
theorem Mth.lower {ch : Nat} (h : ch < 128) : Mth T "lower" (.str [ch]) [] (.str [lowP ch]) := by
  refine ⟨"str", _, F.plainAttrs_str, F.slot_str_lower, F.type_str_lower, Mty.str, ?_⟩
  intro A U s vs O S' hr
  obtain ⟨v, rfl, h1⟩ := reps1 hr
  obtain ⟨t, rfl, _⟩ := rep_str h1
  refine SCL.lower (by rw [S_len]; simp) fun _ => ?_
  have : Txt.lower (S [ch]) = S [lowP ch] := by
    have := lower_one ch h
    unfold Txt.lower PySem.placed S
    simp [this]
  rw [this]
  exact ⟨Rep.str_ (by simp), Ext.toks' s⟩
end
section
open PySem PySem.W PyProof.Rows
open PySem.Builtin PySem.Builtin.Str
set_option Elab.async false
set_option linter.unusedVariables false

theorem join_S (sep : List Nat) : ∀ ps : List (List Nat), Str.join (S sep) (ps.map S) = S (joinP sep ps)
  | [] => rfl
  | [x] => rfl
  | x :: y :: r => by
    have ih := join_S sep (y :: r)
    show S x ++ S sep ++ Str.join (S sep) ((y :: r).map S) = _
    rw [ih, S_append, S_append]; rfl

theorem at_head {X y : List Nat} {a : Nat} {ys : List Nat} (hy : y = a :: ys) {k : Nat} (h : atP X y k = true) : X[k]? = some a := by
  unfold atP at h
  rw [beq_iff_eq] at h
  have : ((X.drop k).take y.length)[0]? = y[0]? := by rw [h]
  subst hy
  simpa [List.getElem?_take, List.getElem?_drop] using this

theorem strSub_S (x : List Nat) (i j : Nat) : strSub (S x) i j = S ((x.drop i).take (j - i)) := by
  apply Str.ext'
  apply Array.toList_inj.mp
  rw [StrLaws.strSub_toList]; simp [S]

theorem parts_join {a : Nat} {ys : List Nat} : ∀ (ps : List (List Nat)) (pre X : List Nat) (cuts : List Nat) (f : Nat), ps ≠ [] → (∀ p ∈ ps, a ∉ p) → X = pre ++ joinP (a :: ys) ps →
    StrLaws.ChainG (S X) (S (a :: ys)) (S X).length pre.length cuts f → (∀ k, f ≤ k → ¬ StrLaws.At (S X) (S (a :: ys)) (S X).length k) →
    StrLaws.partsFrom (S X) (S (a :: ys)).length pre.length cuts = ps.map S
  | [], _, _, _, _, h, _, _, _, _ => absurd rfl h
  | [p], pre, X, cuts, f, _, hp, hX, hc, hn => by
    have hp' := hp p (.head _)
    have none_at : ∀ k, pre.length ≤ k → ¬ StrLaws.At (S X) (S (a :: ys)) (S X).length k := by
      intro k hk hA
      rw [At_S, Bool.and_eq_true] at hA
      have := at_head rfl hA.2
      rw [hX] at this
      change (pre ++ p)[k]? = some a at this
      rw [List.getElem?_append_right hk] at this
      exact hp' (List.mem_of_getElem? this)
    cases cuts with
    | cons c cs => exact absurd hc.2.1 (none_at c hc.1)
    | nil =>
      show [strSub (S X) pre.length (S X).length] = [S p]
      rw [strSub_S, S_len, hX]
      simp [joinP]
  | p :: q :: r, pre, X, cuts, f, _, hp, hX, hc, hn => by
    have hp' := hp p (.head _)
    have hX2 : X = (pre ++ p ++ (a :: ys)) ++ joinP (a :: ys) (q :: r) := by rw [hX]; simp [joinP]
    have hlen : (pre ++ p).length + (a :: ys).length ≤ X.length := by rw [hX2]; simp; omega
    have here : StrLaws.At (S X) (S (a :: ys)) (S X).length (pre ++ p).length := by
      rw [At_S, Bool.and_eq_true, decide_eq_true_iff, S_len]
      refine ⟨hlen, ?_⟩
      unfold atP
      rw [beq_iff_eq, hX2, List.append_assoc (pre ++ p), List.drop_left, List.take_left]
    have before : ∀ k, pre.length ≤ k → k < (pre ++ p).length → ¬ StrLaws.At (S X) (S (a :: ys)) (S X).length k := by
      intro k hk hk2 hA
      rw [At_S, Bool.and_eq_true] at hA
      have := at_head rfl hA.2
      rw [hX2, List.append_assoc, List.append_assoc, List.getElem?_append_right hk, List.getElem?_append_left (by rw [List.length_append] at hk2; omega)] at this
      exact hp' (List.mem_of_getElem? this)
    cases cuts with
    | nil =>
      have hf : f = pre.length := hc
      exact absurd here (hn _ (by rw [hf]; simp))
    | cons c cs =>
      obtain ⟨h1, h2, h3, h4⟩ := hc
      have hce : c = (pre ++ p).length := by
        rcases Nat.lt_trichotomy c (pre ++ p).length with h | h | h
        · exact absurd h2 (before c h1 h)
        · exact h
        · exact absurd here (h3 _ (by simp) h)
      subst hce
      show strSub (S X) pre.length (pre ++ p).length :: StrLaws.partsFrom (S X) (S (a :: ys)).length ((pre ++ p).length + (S (a :: ys)).length) cs = _
      have e : (pre ++ p).length + (S (a :: ys)).length = (pre ++ p ++ (a :: ys)).length := by rw [S_len]; simp; omega
      rw [e] at h4 ⊢
      rw [parts_join (q :: r) (pre ++ p ++ (a :: ys)) X cs f (by simp) (fun x hx => hp x (.tail _ hx)) hX2 h4 hn]
      rw [strSub_S, hX]
      simp [joinP]

theorem strKind_ge (x : Str) : 1 ≤ Str.strKind x := by unfold Str.strKind; split <;> (try split) <;> omega
theorem kind_ascii {y : List Nat} (h : y.all (· < 256) = true) : Str.strKind (S y) = 1 := by
  unfold Str.strKind S; rw [if_pos]; simpa using h

theorem split_join {a : Nat} {ys : List Nat} {ps : List (List Nat)} (hne : ps ≠ []) (hp : ∀ p ∈ ps, a ∉ p) (hk : (a :: ys).all (· < 256) = true) :
    Txt.split (S (joinP (a :: ys) ps)) (S (a :: ys)) = ps.map S := by
  obtain ⟨f, hG, hn⟩ := StrLaws.occ_tight (S (joinP (a :: ys) ps)) (S (a :: ys)) (by rw [S_len]; simp)
  have key := parts_join ps [] (joinP (a :: ys) ps) _ f hne hp rfl hG hn
  have hB : partsBetween (S (joinP (a :: ys) ps)) (occurrences (S (joinP (a :: ys) ps)) (S (a :: ys)) 0 (S (joinP (a :: ys) ps)).length ((S (joinP (a :: ys) ps)).length + 1)) (S (a :: ys)).length = ps.map S := by
    rw [StrLaws.partsBetween_eq]; exact key
  unfold Txt.split
  split
  · rename_i h
    rw [Bool.or_eq_true] at h
    rcases h with h | h
    · rw [decide_eq_true_iff, S_len, S_len] at h
      match ps, hne with
      | [p], _ => rfl
      | p :: q :: r, _ => exfalso; simp [joinP] at h; omega
    · rw [decide_eq_true_iff, kind_ascii hk] at h
      have := strKind_ge (S (joinP (a :: ys) ps)); omega
  · split
    · rename_i h
      rw [List.isEmpty_iff] at h
      rw [h] at hB
      rw [← hB]
      show _ = [strSub _ _ _]
      rw [StrLaws.sub_whole]
    · exact hB

-- one sign put for a text
noncomputable def repP (a : Nat) (z x : List Nat) : List Nat := x.flatMap fun k => if k = a then z else [k]
theorem repP_free {a : Nat} {z : List Nat} : ∀ {x : List Nat}, a ∉ x → repP a z x = x
  | [], _ => rfl
  | k :: r, h => by
    have h1 : ¬ k = a := fun e => h (e ▸ .head _)
    have h2 : a ∉ r := fun m => h (.tail _ m)
    have ih := repP_free (z := z) h2
    unfold repP at ih ⊢
    rw [List.flatMap_cons, ih, if_neg h1]; rfl
theorem repP_append {a : Nat} {z x y : List Nat} : repP a z (x ++ y) = repP a z x ++ repP a z y := by unfold repP; rw [List.flatMap_append]
theorem repP_join {a : Nat} {z : List Nat} : ∀ {ps : List (List Nat)}, (∀ p ∈ ps, a ∉ p) → repP a z (joinP [a] ps) = joinP z ps
  | [], _ => rfl
  | [p], h => repP_free (h p (.head _))
  | p :: q :: r, h => by
    have ih := repP_join (z := z) (ps := q :: r) fun x hx => h x (.tail _ hx)
    show repP a z (p ++ [a] ++ joinP [a] (q :: r)) = p ++ z ++ joinP z (q :: r)
    rw [repP_append, repP_append, ih, repP_free (h p (.head _))]
    simp [repP]
theorem map_S_of : ∀ l : List Str, (l.map fun p => p.cps.toList).map S = l
  | [] => rfl
  | p :: r => by rw [List.map_cons, List.map_cons, map_S_of r, S_of]
theorem replace_S (x z : List Nat) (a : Nat) : Txt.replace (S x) (S [a]) (S z) = S (repP a z x) := by
  have e1 : Txt.replace (S x) (S [a]) (S z) = Str.join (S z) (Txt.split (S x) (S [a])) := StrLaws.replace_one (S x) (S z) a
  have e2 : Str.join (S [a]) (Txt.split (S x) (S [a])) = S x := StrLaws.join_split (S x) (S [a])
  have e3 : ∀ p ∈ Txt.split (S x) (S [a]), a ∉ p.cps.toList := StrLaws.split_free (S x) a
  generalize Txt.split (S x) (S [a]) = l at e1 e2 e3
  rw [e1]
  rw [← map_S_of l, join_S] at e2
  rw [← map_S_of l, join_S, ← S_inj e2, repP_join]
  intro p hp
  obtain ⟨q, hq, rfl⟩ := List.mem_map.mp hp
  exact e3 q hq
end
section
open PySem PySem.W PyProof.Rows
open PySem.Builtin PySem.Builtin.Str
set_option Elab.async false
set_option linter.unusedVariables false
variable {T : TC} {c : Cx} {σ : List Slot}

-- join
theorem strs_of {s : Shared} {U : List Addr} : ∀ {xs : List (List Nat)} {vs : List Value}, Reps T s U vs (xs.map .str) → ∃ l : List (Str × Tok), vs = strValues l ∧ l.map (·.1) = xs.map S
  | [], vs, h => by unfold Reps at h; simp at h; subst h; exact ⟨[], rfl, rfl⟩
  | x :: xs, vs, h => by
    rw [List.map_cons] at h
    unfold Reps at h
    obtain ⟨v, r, rfl, h2, h3⟩ := h
    obtain ⟨t, rfl, _⟩ := rep_str h2
    obtain ⟨l, rfl, e⟩ := strs_of h3
    exact ⟨(S x, t) :: l, rfl, by rw [List.map_cons, List.map_cons, e]⟩
noncomputable def sumLen (xs : List (List Nat)) : Nat := (xs.map (·.length)).sum
theorem joinP_len (sep : List Nat) : ∀ xs, (joinP sep xs).length ≤ sumLen xs + xs.length * sep.length
  | [] => by simp [joinP]
  | [x] => by simp [joinP, sumLen]
  | x :: y :: r => by
    have ih := joinP_len sep (y :: r)
    simp only [joinP, List.length_append, sumLen, List.map_cons, List.sum_cons, List.length_cons] at ih ⊢
    rw [Nat.succ_mul]
    omega
theorem Mth.join {sep : List Nat} {xs : List (List Nat)} (h : sumLen xs + xs.length * sep.length ≤ 1048576) : Mth T "join" (.str sep) [.list (xs.map .str)] (.str (joinP sep xs)) := by
  refine ⟨"str", _, F.plainAttrs_str, F.slot_str_join, F.type_str_join, Mty.str, ?_⟩
  intro A U s vs O S' hr
  obtain ⟨v, w, rfl, h1, h2⟩ := reps2 hr
  obtain ⟨t, rfl, _⟩ := rep_str h1
  unfold Rep at h2
  obtain ⟨a, it, n, rfl, _, hl, _, h3⟩ := h2
  obtain ⟨l, e, el⟩ := strs_of h3
  refine ext_of (SC.join (texts := xs.map S) (D := a) (l := l) (by have := hl.isList; rw [← e]; simpa using this) el ?_ fun t' k _ => ⟨?_, Ext0.toks s k⟩)
  · unfold JoinOk tooLong
    rw [StrLaws.joinTotal, S_len, List.length_map, List.map_map]
    have : ((fun x : Str => x.length) ∘ S) = fun x : List Nat => x.length := by funext x; exact S_len x
    rw [this]
    have e24 : (2:Nat)^24 = sizeLine := rfl
    have : (xs.map fun x => x.length).sum = sumLen xs := rfl
    simp only [Bool.not_eq_true', decide_eq_false_iff_not]
    omega
  · unfold Txt.join
    rw [StrLaws.glued_eq_join, join_S]
    exact Rep.str_ (Nat.le_trans (joinP_len sep xs) h)

-- split
theorem reps_strs {s : Shared} {U : List Addr} : ∀ (xs : List (List Nat)) (l : List (Str × Tok)), l.map (·.1) = xs.map S → (∀ x ∈ xs, x.length ≤ 1048576) → Reps T s U (strValues l) (xs.map .str)
  | [], l, h, _ => by
    have : l = [] := by simpa using h
    subst this; exact Reps.nil
  | x :: xs, [], h, _ => by simp at h
  | x :: xs, (y, u) :: l, h, hx => by
    simp only [List.map_cons, List.cons.injEq] at h
    have hy : y = S x := h.1
    subst hy
    exact Reps.cons (Rep.str_ (hx x (.head _))) (reps_strs xs l h.2 fun z hz => hx z (.tail _ hz))
theorem joinP_mem (sep : List Nat) : ∀ {ps : List (List Nat)} {p}, p ∈ ps → p.length ≤ (joinP sep ps).length
  | [q], p, h => by rw [List.mem_singleton.mp h]; exact Nat.le_refl _
  | q :: q2 :: r, p, h => by
    show _ ≤ (q ++ sep ++ joinP sep (q2 :: r)).length
    rcases List.mem_cons.mp h with rfl | h'
    · simp; try omega
    · have := joinP_mem sep h'
      simp; omega
theorem fresh_size {s s2 : Shared} (e : Ext s s2) : s.heap.get? s2.heap.objs.size = none := by
  cases x : s.heap.get? s2.heap.objs.size with
  | none => rfl
  | some o => have := e.keep _ _ x; rw [get_size] at this; cases this
noncomputable def NewL (T : TC) (s : Shared) (U : List Addr) (ps : List V) (v : Value) (s' : Shared) : Prop :=
  (∃ a items n, v = .ref a ∧ s.heap.get? a = none ∧ IsL s'.heap a items n ∧ ps.length ≤ 1048576 ∧ ps.all V.flat = true ∧ Reps T s' U items.toList ps)
theorem split_end {s s2 : Shared} {U : List Addr} {k : Nat} {l : List (Str × Tok)} {ps : List (List Nat)} (e2 : Ext s s2) (hl : l.map (·.1) = ps.map S) (hlen : ∀ x ∈ ps, x.length ≤ 1048576) (hps : ps.length ≤ 1048576) :
    NewL T s U (ps.map .str) (.ref s2.heap.objs.size) { s2 with heap := s2.heap.push { cls := .type "list", data := .seq (strValues l).toArray }, toks := k } ∧
      Ext0 s { s2 with heap := s2.heap.push { cls := .type "list", data := .seq (strValues l).toArray }, toks := k } :=
  ⟨⟨_, _, 0, rfl, fresh_size e2, Heap.get?_push_size _ rfl, by simpa using hps, by simp [V.flat], reps_strs ps l hl hlen⟩, e2.zero.trans (Ext0.push _ _ _)⟩
theorem EvN.split {o e apos pos a ys ps} (h1 : Ev T c σ o (.str (joinP (a :: ys) ps))) (h2 : Ev T c σ e (.str (a :: ys))) (hne : ps ≠ []) (hp : ∀ p ∈ ps, a ∉ p) (hk : (a :: ys).all (· < 256) = true) (hsz : (joinP (a :: ys) ps).length ≤ 1048576) (hps : ps.length ≤ 1048576)
    (hbase : ∀ env, attributeBase o "split" env (eval o env) = eval o env := by walk_at "r1") (hs : ∀ env, starEach [e] env = [(false, eval e env)] := by walk_at "r1")
    (hline : (apos.endLine == pos.line) = true := by rfl) : EvN T c σ (.Call (.Attribute o "split" apos) [e] [] pos) (ps.map .str) := fun A env U s O R => by
  have hlen : ∀ p ∈ ps, p.length ≤ 1048576 := fun p hp => Nat.le_trans (joinP_mem _ hp) hsz
  have hsp := split_join hne hp hk
  refine ext_of (P := fun v s' => NewL T s U (ps.map .str) v s') (Call_method1 (hbase env) (hs env) hline (wpB (h1 A env U s O R) fun v s1 ⟨a1, e1⟩ => ?_))
  obtain ⟨t, rfl, _⟩ := rep_str a1
  refine ⟨"str", _, F.plainAttrs_str, F.slot_str_split, F.type_str_split, typeIs_str _ _ _, (fun _ e => nomatch e),
    method1_meets F.slot_str_split F.entry_str_split (wpAny_mono (h2 A env U s1 O (R.ext e1)) (fun v s₁ ⟨a2, e2⟩ => ?_) fun _ _ e => e.elim)⟩
  obtain ⟨u, rfl, _⟩ := rep_str a2
  refine ⟨typeIs_str _ _ _, F.args_str_split_2 _ _, ?_⟩
  have e12 := e1.trans e2
  have hsz' : (S (joinP (a :: ys) ps)).length ≤ sizeLine := by rw [S_len]; have : (2:Nat)^24 = sizeLine := rfl; omega
  cases h1 : (decide ((S (joinP (a :: ys) ps)).length < (S (a :: ys)).length) || decide (Str.strKind (S (joinP (a :: ys) ps)) < Str.strKind (S (a :: ys))))
  · cases hf : (occurrences (S (joinP (a :: ys) ps)) (S (a :: ys)) 0 (S (joinP (a :: ys) ps)).length ((S (joinP (a :: ys) ps)).length + 1)).isEmpty
    · have hB : partsBetween (S (joinP (a :: ys) ps)) (occurrences (S (joinP (a :: ys) ps)) (S (a :: ys)) 0 (S (joinP (a :: ys) ps)).length ((S (joinP (a :: ys) ps)).length + 1)) (S (a :: ys)).length = ps.map S := by
        unfold Txt.split at hsp
        rw [h1, hf] at hsp
        simpa using hsp
      refine ⟨_, meets_str_split_sep (S (joinP (a :: ys) ps)) (S (a :: ys)) t u h1 (by rw [S_len]; rfl) hf hsz' (by rw [hB]; have : (2:Nat)^24 = sizeLine := rfl; simp; omega), ?_⟩
      show wants _ (fun _ _ => False) _ { s₁ with toks := _, heap := s₁.heap.push { cls := .type "list", data := .seq (strsFrom s₁.toks (partsBetween (S (joinP (a :: ys) ps)) (occurrences (S (joinP (a :: ys) ps)) (S (a :: ys)) 0 (S (joinP (a :: ys) ps)).length ((S (joinP (a :: ys) ps)).length + 1)) (S (a :: ys)).length)).toArray } }
      rw [strsFrom_eq]
      intro _
      exact split_end e12 ((numbered_texts _ _).trans hB) hlen hps
    · have hB : ps.map S = [S (joinP (a :: ys) ps)] := by
        unfold Txt.split at hsp
        rw [h1, hf] at hsp
        simpa using hsp.symm
      exact ⟨_, meets_str_split_not_found (S (joinP (a :: ys) ps)) (S (a :: ys)) t u h1 (by rw [S_len]; rfl) hf, fun _ => split_end (l := [(S (joinP (a :: ys) ps), t)]) e12 hB.symm hlen hps⟩
  · have hB : ps.map S = [S (joinP (a :: ys) ps)] := by
      unfold Txt.split at hsp
      rw [h1] at hsp
      simpa using hsp.symm
    exact ⟨_, meets_str_split_cannot_occur (S (joinP (a :: ys) ps)) (S (a :: ys)) t u h1, fun _ => split_end (l := [(S (joinP (a :: ys) ps), t)]) e12 hB.symm hlen hps⟩
end
section
open PySem PySem.W PyProof.Rows
open PySem.Builtin PySem.Builtin.Str
set_option Elab.async false
set_option linter.unusedVariables false
variable {T : TC} {c : Cx} {σ : List Slot}

theorem Ev.strt {x : Str} {l : List Nat} {k pos} (e : x = S l) (h : l.length ≤ 1048576) : Ev T c σ (.Constant (.str x) k pos) (.strt l) :=
  fun _ _ _ s _ R => wpAny_Constant_str ⟨by subst e; unfold Rep; exact ⟨_, rfl, h, Nat.pos_iff_ne_zero.mp R.tok, Nat.lt_succ_self _⟩, Ext.toks' s⟩

theorem Ev.replace {o e1 apos pos x a z zs k zp} (h1 : Ev T c σ o (.str x)) (h2 : Ev T c σ e1 (.strt [a])) (hz : zs = S z) (hzl : z.length ≤ 14) (hne : [a] ≠ z) (hL : (repP a z x).length ≤ 1048576)
    (hbase : ∀ env, attributeBase o "replace" env (eval o env) = eval o env := by walk_at "r1") (hs : ∀ env, starEach [e1, .Constant (.str zs) k zp] env = [(false, eval e1 env), (false, eval (.Constant (.str zs) k zp) env)] := by walk_at "r1")
    (hline : (apos.endLine == pos.line) = true := by rfl) : Ev T c σ (.Call (.Attribute o "replace" apos) [e1, .Constant (.str zs) k zp] [] pos) (.str (repP a z x)) := fun A env U s O R => by
  subst hz
  refine wpAny_Call_method_lateS (hbase env) (by rw [hs]; rfl) hline (wpB (h1 A env U s O R) fun v s1 ⟨a1, e1⟩ => ?_)
  obtain ⟨t, rfl, hx⟩ := rep_str a1
  refine ⟨"str", _, F.plainAttrs_str, F.slot_str_replace, F.type_str_replace, typeIs_str _ _ _, (fun _ e => nomatch e), ?_⟩
  rw [hs]
  refine Calls.callWith_builtin rfl (Calls.evalArgs_plain (Calls.spliced_cons (wpB (h2 A env U s1 O (R.ext e1)) fun v2 s2 ⟨a2, e2⟩ => ?_)))
  obtain ⟨u, rfl, _, hu0, hu1⟩ := rep_strt a2
  refine Calls.spliced_cons (rest := []) (x := eval (.Constant (.str (S z)) k zp) env) (wpAny_Constant_str (Calls.spliced_nil ?_))
  have e3 : Ext s2 { s2 with toks := s2.toks + 1 } := Ext.toks' s2
  refine wpB (Q := fun v s' => Rep T s' U v (.str (repP a z x)) ∧ Ext s s') (ext_of (SC.replaceW hu0 (Nat.pos_iff_ne_zero.mp (R.ext (e1.trans e2)).tok) (Nat.ne_of_lt hu1) (by rw [S_beq]; exact beq_false_of_ne hne) (by rw [S_len]; exact hx) (by rw [S_len]; exact hzl) fun t' k' _ => ⟨?_, ?_⟩)) fun v s' ⟨a, b⟩ => ⟨a, ((e1.trans e2).trans e3).trans b⟩
  · rw [replace_S]; exact Rep.str_ hL
  · exact Ext0.toks _ _

-- slices
inductive Part (T : TC) (c : Cx) (σ : List Slot) : Option Expr → Option Int → Prop
  | none : Part T c σ none none
  | int {e i} : Ev T c σ e (.int i) → Part T c σ (some e) (some i)
  | non {e} : Ev T c σ e .none → Part T c σ (some e) none
theorem Part.run {x l} (h : Part T c σ x l) {A env U s} (O : Ok c.d A) (R : Rd T c σ U env s) :
    wpAny (model T.prog T.w) A (evalPart x env) (fun v s' => (∃ l', v = partValue l' ∧ l'.map (·.1) = l) ∧ Ext s s') (fun _ _ => False) s := by
  cases h with
  | none => exact wpAny_pure ⟨⟨Option.none, rfl, rfl⟩, Ext.refl s⟩
  | int h =>
    refine wpB (h A env U s O R) fun v s' ⟨a, e⟩ => ⟨?_, e⟩
    obtain ⟨t, rfl⟩ := rep_int a
    exact ⟨some (_, t), rfl, rfl⟩
  | non h =>
    refine wpB (h A env U s O R) fun v s' ⟨a, e⟩ => ⟨?_, e⟩
    unfold Rep at a; subst a
    exact ⟨Option.none, rfl, rfl⟩
noncomputable def sliceP (x : List Nat) (l u : Option Int) : List Nat := (Txt.slice (S x) l u).cps.toList
theorem sliceP_le (x l u) : (sliceP x l u).length ≤ x.length := by
  have := Txt.slice_le (S x) l u
  rw [S_len] at this
  simpa [sliceP, Str.length] using this
theorem Ev.strslice {value lo hi p pos x l u} (h1 : Ev T c σ value (.str x)) (hl : Part T c σ lo l) (hu : Part T c σ hi u)
    (ht : ∀ o r, letTemporaryGo value o r = pure () := by walk_at "r2") : Ev T c σ (.Subscript value (.Slice lo hi Option.none p) pos) (.str (sliceP x l u)) := fun A env U s O R => by
  refine ext_of (wpAny_Subscript_str_slice (wpB (h1 A env U s O R) fun v s1 ⟨a1, e1⟩ => wpB (hl.run O (R.ext e1)) fun vl s2 ⟨a2, e2⟩ => wpB (hu.run O ((R.ext e1).ext e2)) fun vu s3 ⟨a3, e3⟩ => ?_) ht)
  obtain ⟨t, rfl, hx⟩ := rep_str a1
  obtain ⟨l', rfl, rfl⟩ := a2
  obtain ⟨u', rfl, rfl⟩ := a3
  refine ⟨S x, t, l', u', rfl, rfl, rfl, post_val_or_str ⟨?_, fun t' k hk => ⟨?_, ?_⟩⟩⟩
  · refine Nat.le_trans (Txt.slice_le (S x) _ _) ?_
    rw [S_len]; have : (2:Nat)^24 = sizeLine := rfl; omega
  · have : Txt.slice (S x) (l'.map (·.1)) (u'.map (·.1)) = S (sliceP x (l'.map (·.1)) (u'.map (·.1))) := (S_of _).symm
    have h2 := Rep.str_ (T := T) (s := { s3 with heap := s3.heap.push { cls := .type "slice", data := .fields #[partValue l', partValue u', .none] }, toks := k }) (U := U) (t := t') (Nat.le_trans (sliceP_le x (l'.map (·.1)) (u'.map (·.1))) hx)
    rw [← this] at h2
    exact h2
  · exact ((e1.trans e2).trans e3).zero.trans (Ext0.push _ _ _)
theorem sliceP_from {x : List Nat} {i : Int} (h0 : 0 ≤ i) (h : i ≤ x.length) : sliceP x (some i) none = x.drop i.toNat := by
  have := StrLaws.sliceText_from (x := S x) (i := i) (by rw [S_cps]; exact ⟨h0, h⟩)
  unfold sliceP
  show (StrLaws.sliceText (S x) (some i) none).cps.toList = _
  rw [this, S_cps]
  simp only []
  rw [List.take_of_length_le (by simp; omega)]
theorem sliceP_to {x : List Nat} {j : Int} (h0 : 0 ≤ j) (h : j ≤ x.length) : sliceP x none (some j) = x.take j.toNat := by
  have := StrLaws.sliceText_to (x := S x) (j := j) (by rw [S_cps]; exact ⟨h0, h⟩)
  unfold sliceP
  show (StrLaws.sliceText (S x) none (some j)).cps.toList = _
  rw [this, S_cps]
  simp
theorem sliceP_to_neg {x : List Nat} {j : Int} (h0 : j < 0) (h : -(x.length : Int) ≤ j) : sliceP x none (some j) = x.take (j + x.length).toNat := by
  have := StrLaws.sliceText_to_neg (x := S x) (j := j) h0 (by rw [S_len]; exact h)
  unfold sliceP
  show (StrLaws.sliceText (S x) none (some j)).cps.toList = _
  rw [this, S_cps, S_len]
  simp
theorem sliceP_all {x : List Nat} : sliceP x none none = x := by
  unfold sliceP
  have e : Txt.slice (S x) none none = Txt.slice (S x) none (some ((S x).length : Int)) := by
    unfold Txt.slice; rw [StrLaws.sliceIdx_none_hi]
  rw [e]
  have := sliceP_to (x := x) (j := x.length) (by omega) (by omega)
  unfold sliceP at this
  rw [S_len, this]
  simp

-- list slices
noncomputable def pickV (ps : List V) (lo hi st : Option Int) : List V :=
  (sliceRange (sliceBounds lo hi st ps.length).1 (sliceBounds lo hi st ps.length).2.1 (sliceBounds lo hi st ps.length).2.2).filterMap fun i => ps[i]?
theorem Reps.pick {s : Shared} {U ps vs} (h : Reps T s U vs ps) : ∀ is : List Nat, Reps T s U (is.filterMap fun i => vs[i]?) (is.filterMap fun i => ps[i]?)
  | [] => Reps.nil
  | i :: is => by
    have ih := Reps.pick h is
    rcases Nat.lt_or_ge i ps.length with hi | hi
    · obtain ⟨v, h1, h2⟩ := h.get (List.getElem?_eq_getElem hi)
      rw [List.filterMap_cons, List.filterMap_cons, h1, List.getElem?_eq_getElem hi]
      exact Reps.cons h2 ih
    · rw [List.filterMap_cons, List.filterMap_cons, List.getElem?_eq_none hi, List.getElem?_eq_none (by rw [h.length]; exact hi)]
      exact ih
theorem Part.run' {x l} (h : Part T c σ x l) {A env U s} (O : Ok c.d A) (R : Rd T c σ U env s) :
    wpAny (model T.prog T.w) A (evalPart x env) (fun v s' => IsPart v l ∧ Ext s s') (fun _ _ => False) s :=
  wpB (h.run O R) fun v s' ⟨⟨l', h1, h2⟩, e⟩ => ⟨by subst h1 h2; cases l' with | none => exact .none | some y => exact .int _ _, e⟩
theorem pick_size {s : Shared} {U ps} {it : Array Value} (h : Reps T s U it.toList ps) (lo hi st : Option Int) :
    Reps T s U (slicePick it lo hi st).toList (pickV ps lo hi st) ∧ (pickV ps lo hi st).length ≤ ps.length := by
  have hsz : it.size = ps.length := by rw [← h.length]; simp
  have key : Reps T s U (slicePick it lo hi st).toList (pickV ps lo hi st) := by
    unfold slicePick pickV
    rw [hsz]
    have := Reps.pick h (sliceRange (sliceBounds lo hi st ps.length).1 (sliceBounds lo hi st ps.length).2.1 (sliceBounds lo hi st ps.length).2.2)
    simpa using this
  refine ⟨key, ?_⟩
  rw [← key.length, ← hsz]
  have := slicePick_size_le it lo hi st
  simpa using this
theorem Ev.listslice {value lo hi p pos ps l u} (h1 : EvO T c σ value ps) (hl : Part T c σ lo l) (hu : Part T c σ hi u)
    (ht : ∀ o r, letTemporaryGo value o r = pure () := by walk_at "r2") : Ev T c σ (.Subscript value (.Slice lo hi Option.none p) pos) (.list (pickV ps l u Option.none)) := fun A env U s O R => by
  refine wpAny_Subscript_list_slice (wpB (h1 A env U s O R) fun v s1 ⟨a1, e1⟩ => wpB (hl.run' O (R.ext e1)) fun vl s2 ⟨a2, e2⟩ => wpB (hu.run' O ((R.ext e1).ext e2)) fun vu s3 ⟨a3, e3⟩ => ?_) ht
  obtain ⟨a, it, n, rfl, hl1, hL, hr⟩ := a1
  have e13 := (e1.trans e2).trans e3
  have hsz : it.size = ps.length := by rw [← hr.length]; simp
  refine ⟨a, it, l, u, rfl, (e2.trans e3).keep _ _ hl1 |> fun h => IsL.isList (n := n) h, by have : (2:Nat)^24 = sizeLine := rfl; omega, a2, a3, ?_⟩
  have E3 : Ext s3 { s3 with heap := (s3.heap.push { cls := .type "slice", data := .fields #[vl, vu, .none] }).push { cls := .type "list", data := .seq (slicePick it l u Option.none) } } :=
    (Ext.push' s3 _).trans (Ext.push' _ _)
  obtain ⟨k1, k2⟩ := pick_size hr l u Option.none
  refine ⟨?_, e13.trans E3⟩
  unfold Rep
  refine ⟨_, slicePick it l u Option.none, 0, rfl, ?_, ?_, by omega, ?_⟩
  · intro hm
    have h1 := (R.ext e13).used _ hm
    have : s3.heap.get? (s3.heap.objs.size + 1) = Option.none := get_ge (Nat.le_succ _)
    obtain ⟨o, ho⟩ := h1
    rw [this] at ho; cases ho
  · have := Heap.get?_push_size (s3.heap.push { cls := .type "slice", data := .fields #[vl, vu, .none] }) (o := ({ cls := .type "list", data := .seq (slicePick it l u Option.none) } : Obj)) rfl
    rw [Heap.size_push] at this
    exact this
  · exact k1.ext ((e2.trans e3).trans E3)

-- type(x), is
theorem Ev.type_ {f p arg pos q} {ty : String} (hf : Ev T c σ (.Name f p) (.raw (.type "type"))) (ha : Ev T c σ arg q) (hq : ∀ s U v, Rep T s U v q → s.TypeIs v ty) (hnb : (Value.type ty == Value.type "builtin_function_or_method") = false)
    (hs : ∀ env, backTo pos (starEach [arg] env) = [(false, eval arg env)] := by walk_at "r1") : Ev T c σ (.Call (.Name f p) [arg] [] pos) (.raw (.type ty)) := fun A env U s O R => by
  show wpAny _ A (do callWith pos (← eval (.Name f p) env) [] (backTo pos (starEach [arg] env)) (backToKw pos (keywordEach [] env))) _ _ s
  refine wpAny_bind (wpB (hf A env U s O R) fun v s1 ⟨a1, e1⟩ => ?_)
  unfold Rep at a1
  subst a1
  rw [hs]
  refine PySem.callWith_type rfl (Calls.evalArgs_plain (Calls.spliced_cons (wpB (ha A env U s1 O (R.ext e1)) fun v2 s2 ⟨a2, e2⟩ => Calls.spliced_nil ?_)))
  exact call_type_of (hq _ _ _ a2) hnb ⟨by unfold Rep; rfl, e1.trans e2⟩
theorem typ_int {i : Int} : ∀ s U v, Rep T s U v (.int i) → s.TypeIs v "int" := fun s U v h => by obtain ⟨t, rfl⟩ := rep_int h; exact typeIs_int _ _ _
theorem typ_bool {b : Bool} : ∀ s U v, Rep T s U v (.bool b) → s.TypeIs v "bool" := fun s U v h => by rw [rep_bool h]; exact PySem.typeIs_bool _ _
theorem Cm2.is_ty {a : String} : Cm2 T .Is (.raw (.type a)) (.raw (.type a)) true := by
  intro A U s va vb O S x y
  unfold Rep at x y; subst x y
  exact wpAny_is_self rfl ⟨rfl, Ext.refl s⟩
theorem Cm2.isnot_ty {a : String} : Cm2 T .IsNot (.raw (.type a)) (.raw (.type a)) false := by
  intro A U s va vb O S x y
  unfold Rep at x y; subst x y
  exact wpAny_isNot_self rfl ⟨rfl, Ext.refl s⟩
theorem Cm2.eqb {a b : Bool} : Cm2 T .Eq (.bool a) (.bool b) (a == b) := by
  have := Cm2.eqd (T := T) (p := .bool a) (q := .bool b) (by unfold dOk; rfl) (by unfold dOk; rfl)
  rw [eqV_bool] at this; exact this
-- one sign many times
noncomputable def mulP (x : List Nat) (n : Nat) : List Nat := (List.replicate n x).flatten
theorem foldl_app (l : List (Array Nat)) : ∀ a : Array Nat, (l.foldl (· ++ ·) a).toList = a.toList ++ (l.map (·.toList)).flatten := by
  induction l with
  | nil => intro a; simp
  | cons x l ih => intro a; rw [List.foldl_cons, ih]; simp
theorem mul_S (x : List Nat) (n : Int) (h : 1 ≤ n) : Txt.mul (S x) n = S (mulP x n.toNat) := by
  unfold Txt.mul
  rw [if_neg (by omega)]
  split
  · rename_i hc
    rw [Bool.or_eq_true] at hc
    rcases hc with hc | hc
    · have : n = 1 := by simpa using hc
      subst this
      simp [mulP]
    · have : x = [] := by rw [S_len] at hc; simpa using hc
      subst this
      have : ∀ k : Nat, mulP [] k = [] := fun k => by simp [mulP]
      rw [this]
  · apply Str.ext'
    apply Array.toList_inj.mp
    rw [foldl_app]
    simp [mulP, S]
theorem Op2.mulstr {x : List Nat} {n : Int} (h1 : 1 ≤ n) (h2 : n ≤ 100) (hx : x.length ≤ 100) : Op2 T .Mult (.str x) (.int n) (.str (mulP x n.toNat)) := by
  intro A U s va vb O S' a b
  obtain ⟨t, rfl, _⟩ := rep_str a; obtain ⟨u, rfl⟩ := rep_int b
  refine ext_of (SB.mul (mulOk_of 100 100 (by rw [S_len]; exact hx) (by exact_mod_cast h2) (by omega) (by decide) (by decide)) fun t' k _ => ⟨?_, Ext0.toks s k⟩)
  rw [mul_S x n h1]
  refine Rep.str_ ?_
  have : (mulP x n.toNat).length = n.toNat * x.length := by simp [mulP]
  rw [this]
  have : n.toNat * x.length ≤ 100 * 100 := Nat.mul_le_mul (by omega) hx
  omega
-- -1
theorem Ev.neg {i : Int} {e pos} (h : Ev T c σ e (.int i)) : Ev T c σ (.UnaryOp .USub e pos) (.int (-i)) := fun A env U s O R =>
  PySem.wpAny_UnaryOp (wpB (h A env U s O R) fun v s1 ⟨a1, e1⟩ => by
    obtain ⟨t, rfl⟩ := rep_int a1
    exact P.neg_int ⟨Rep.int_, e1.trans (Ext.toks' _)⟩)
end
section
open PySem PySem.W PyProof.Rows
open PySem.Builtin PySem.Builtin.Str
set_option Elab.async false
set_option linter.unusedVariables false
variable {T : TC} {c : Cx} {σ : List Slot}

-- a walk over data
structure Wk (T : TC) (A : Around) (U : List Addr) (s : Shared) (it : Value) (s2 : Shared) (I : Addr) (fp wr : List Addr) (P : Nat → Value → Prop) (St : Nat → Heap → Prop) (qs : List V) : Prop where
  ref : it = .ref I
  walks : Walks T.prog T.w A I fp wr qs.length P St
  start : St 0 s2.heap
  live : ∀ b ∈ fp, Live s2 b
  apart : ∀ b ∈ fp, b ∉ U
  fresh : ∀ b ∈ wr, s.heap.get? b = Option.none
  lives : ∀ i h, St i h → ∀ b ∈ wr, ∃ o v, h.get? b = some o ∧ o.data = .fields v
  item : ∀ i v, P i v → ∃ q, qs[i]? = some q ∧ Rep T s2 (wr ++ U) v q
noncomputable def It (T : TC) (c : Cx) (σ : List Slot) (e : Expr) (qs : List V) : Prop :=
  ∀ A env U s, Ok c.d A → Rd T c σ U env s → wpAny (model T.prog T.w) A (eval e env) (fun xv s1 => wpAny (model T.prog T.w) A (pyIter xv) (fun it s2 =>
    (∃ I fp wr P St, Wk T A U s it s2 I fp wr P St qs) ∧ Ext s s2) (fun _ _ => False) s1) (fun _ _ => False) s

theorem rep_fresh {s : Shared} {U wr : List Addr} {v p} (h : Rep T s U v p) (hw : ∀ b ∈ wr, s.heap.get? b = Option.none) : Rep T s (wr ++ U) v p :=
  Rep.set (fun a o e hn hm => by
    rcases List.mem_append.mp hm with h | h
    · have := hw a h; rw [e] at this; cases this
    · exact hn h) h
theorem fresh_of {s s2 : Shared} (e : Ext s s2) {b : Addr} (h : s2.heap.get? b = Option.none) : s.heap.get? b = Option.none := by
  cases x : s.heap.get? b with
  | none => rfl
  | some o => have := e.keep _ _ x; rw [h] at this; cases this

theorem It.list {e qs} (h : Ev T c σ e (.list qs)) : It T c σ e qs := fun A env U s O R => wpB (h A env U s O R) fun v s1 ⟨a1, e1⟩ => by
  unfold Rep at a1
  obtain ⟨a, it, n, rfl, hu, hl, hL, hr⟩ := a1
  have hsz : it.size = qs.length := by rw [← hr.length]; simp
  have hne : a ≠ s1.heap.objs.size := fun e => by rw [e] at hl; have := get_size s1.heap; rw [hl] at this; cases this
  refine wpAny_pyIter_list hl.isList ?_
  have e2 : Ext s1 { s1 with heap := s1.heap.push { cls := .type "list_iterator", data := .fields #[.ref a, .int 0 0] } } := Ext.push' s1 _
  have W := Walks.list (prog := T.prog) (w := T.w) O.handled s1.heap.objs.size a hne it
  rw [hsz] at W
  refine ⟨⟨s1.heap.objs.size, [s1.heap.objs.size, a], [s1.heap.objs.size], _, _, rfl, W, ⟨⟨_, Heap.get?_push_size _ rfl, rfl, rfl⟩, IsL.isList (n := n) (e2.keep _ _ hl)⟩, ?_, ?_, ?_, (fun i h st b hb => by simp at hb; subst hb; obtain ⟨⟨o, ho, _, hd⟩, _⟩ := st; exact ⟨o, _, ho, hd⟩), ?_⟩, e1.trans e2⟩
  · intro b hb
    simp at hb
    rcases hb with rfl | rfl
    · exact ⟨_, Heap.get?_push_size _ rfl⟩
    · exact ⟨_, e2.keep _ _ hl⟩
  · intro b hb
    simp at hb
    rcases hb with rfl | rfl
    · exact new_not (R.ext e1).used (get_size _)
    · exact hu
  · intro b hb
    simp at hb; subst hb
    exact fresh_size e1
  · intro i v hv
    have hi : i < qs.length := by
      rcases Nat.lt_or_ge i qs.length with h | h
      · exact h
      · rw [Array.getElem?_eq_none (by omega)] at hv; cases hv
    obtain ⟨v', h1, h2⟩ := hr.get (List.getElem?_eq_getElem hi)
    have : it.toList[i]? = some v := by simpa using hv
    rw [this] at h1; cases h1
    refine ⟨_, List.getElem?_eq_getElem hi, ?_⟩
    refine (rep_fresh h2 ?_).ext e2
    intro b hb; simp at hb; subst hb; exact get_size _

theorem It.str {e x} (h : Ev T c σ e (.str x)) : It T c σ e (x.map fun ch => .str [ch]) := fun A env U s O R => wpB (h A env U s O R) fun v s1 ⟨a1, e1⟩ => by
  obtain ⟨t, rfl, hL⟩ := rep_str a1
  have hlen : (S x).cps.size = (x.map fun ch => V.str [ch]).length := by simp [S]
  have key : ∀ (o : Obj) (St : Nat → Heap → Prop), o.isFreed = false → (∀ i h, St i h → ∃ o v, h.get? s1.heap.objs.size = some o ∧ o.data = .fields v) → Walks T.prog T.w A s1.heap.objs.size [s1.heap.objs.size] [s1.heap.objs.size] (S x).cps.size (SignAt (S x)) St → St 0 (s1.heap.push o) →
      (∃ I fp wr P St, Wk T A U s (.ref s1.heap.objs.size) { s1 with heap := s1.heap.push o } I fp wr P St (x.map fun ch => .str [ch])) ∧ Ext s { s1 with heap := s1.heap.push o } := by
    intro o St ho hlv W hst
    have e2 : Ext s1 { s1 with heap := s1.heap.push o } := Ext.push' s1 _
    rw [hlen] at W
    refine ⟨⟨s1.heap.objs.size, [s1.heap.objs.size], [s1.heap.objs.size], _, St, rfl, W, hst, ?_, ?_, ?_, (fun i h st b hb => by simp at hb; subst hb; exact hlv i h st), ?_⟩, e1.trans e2⟩
    · intro b hb; simp at hb; subst hb; exact ⟨_, Heap.get?_push_size _ ho⟩
    · intro b hb; simp at hb; subst hb; exact new_not (R.ext e1).used (get_size _)
    · intro b hb; simp at hb; subst hb; exact fresh_size e1
    · rintro i v ⟨ch, u, h1, rfl⟩
      refine ⟨.str [ch], ?_, Rep.str_ (x := [ch]) (by simp)⟩
      have : x[i]? = some ch := by simpa [S] using h1
      simp [this]
  cases ha : (S x).cps.all (· < 128)
  · exact wpAny_pyIter_wide ha (key _ _ rfl (fun i h st => let ⟨o, ho, _, hd⟩ := st; ⟨o, _, ho, hd⟩) (Walks.strWide O.handled _ (S x) t) ⟨_, Heap.get?_push_size _ rfl, rfl, rfl⟩)
  · exact wpAny_pyIter_ascii ha (key _ _ rfl (fun i h st => let ⟨o, ho, _, hd⟩ := st; ⟨o, _, ho, hd⟩) (Walks.strAscii O.handled _ (S x) t) ⟨_, Heap.get?_push_size _ rfl, rfl, rfl⟩)

-- ranges
noncomputable def Rn (T : TC) (c : Cx) (σ : List Slot) (e : Expr) (a b d : Int) : Prop :=
  ∀ A env U s, Ok c.d A → Rd T c σ U env s → wpAny (model T.prog T.w) A (eval e env) (fun v s' => (∃ r t u w, v = .ref r ∧ IsRange s'.heap r a b d t u w ∧ s.heap.get? r = Option.none) ∧ Ext s s') (fun _ _ => False) s
theorem Rn.of {f p args pos ps a b d} (hf : Ev T c σ (.Name f p) (.raw (.type "range"))) (ha : EvL T c σ args ps)
    (hc : ∀ A U s vs, Ok 0 A → Reps T s U vs ps → wpAny (model T.prog T.w) A (PySem.call (.type "range") vs) (fun v s' => (∃ r t u w, v = .ref r ∧ IsRange s'.heap r a b d t u w ∧ s.heap.get? r = Option.none) ∧ Ext s s') (fun _ _ => False) s)
    (hs : ∀ env, backTo pos (starEach args env) = args.map fun e => (false, eval e env)) (hne : args ≠ []) : Rn T c σ (.Call (.Name f p) args [] pos) a b d := fun A env U s O R => by
  show wpAny _ A (do callWith pos (← eval (.Name f p) env) [] (backTo pos (starEach args env)) (backToKw pos (keywordEach [] env))) _ _ s
  refine wpAny_bind (wpB (hf A env U s O R) fun v s1 ⟨a1, e1⟩ => ?_)
  unfold Rep at a1
  subst a1
  rw [hs]
  refine PySem.callWith_type any_false (evalArgs_some (by intro x hx; obtain ⟨_, _, rfl⟩ := List.mem_map.mp hx; rfl) (map_ne hne) (wpB (ha A env U s1 O (R.ext e1)) fun vs s2 ⟨a2, e2⟩ => ?_))
  exact wpB (hc A U s2 vs O.zero a2) fun v s3 ⟨⟨r, t, u, w, h1, h2, h3⟩, e3⟩ => ⟨⟨r, t, u, w, h1, h2, fresh_of (e1.trans e2) h3⟩, (e1.trans e2).trans e3⟩
theorem Rn.one {f p e pos n} (hf : Ev T c σ (.Name f p) (.raw (.type "range"))) (ha : Ev T c σ e (.int n))
    (hs : ∀ env, backTo pos (starEach [e] env) = [e].map fun e => (false, eval e env) := by walk_at "r1") : Rn T c σ (.Call (.Name f p) [e] [] pos) 0 n 1 :=
  Rn.of hf (EvL.cons ha EvL.nil) (fun A U s vs O h => by
    obtain ⟨v, rfl, h1⟩ := reps1 h
    obtain ⟨t, rfl⟩ := rep_int h1
    refine PySem.call_range_1 ⟨⟨_, _, _, _, rfl, Heap.get?_push_size _ rfl, get_size _⟩, ?_⟩
    exact (Ext.push' s _).trans (Ext.toksn _ _ (by show s.toks ≤ s.toks + 1 + 1; omega))) hs (by simp)
theorem Rn.two {f p e e2 pos a n} (hf : Ev T c σ (.Name f p) (.raw (.type "range"))) (ha : Ev T c σ e (.int a)) (hb : Ev T c σ e2 (.int n))
    (hs : ∀ env, backTo pos (starEach [e, e2] env) = [e, e2].map fun e => (false, eval e env) := by walk_at "r1") : Rn T c σ (.Call (.Name f p) [e, e2] [] pos) a n 1 :=
  Rn.of hf (EvL.cons ha (EvL.cons hb EvL.nil)) (fun A U s vs O h => by
    obtain ⟨v, w, rfl, h1, h2⟩ := reps2 h
    obtain ⟨t, rfl⟩ := rep_int h1; obtain ⟨u, rfl⟩ := rep_int h2
    refine PySem.call_range_2 ⟨⟨_, _, _, _, rfl, Heap.get?_push_size _ rfl, get_size _⟩, ?_⟩
    exact (Ext.push' s _).trans (Ext.toksn _ _ (by show s.toks ≤ s.toks + 1; omega))) hs (by simp)
theorem Rn.three {f p e e2 e3 pos a n d} (hd : d ≠ 0) (hp : divisionGoesByPylong (n - a) d = false) (hf : Ev T c σ (.Name f p) (.raw (.type "range"))) (ha : Ev T c σ e (.int a)) (hb : Ev T c σ e2 (.int n)) (hb3 : Ev T c σ e3 (.int d))
    (hs : ∀ env, backTo pos (starEach [e, e2, e3] env) = [e, e2, e3].map fun e => (false, eval e env) := by walk_at "r1") : Rn T c σ (.Call (.Name f p) [e, e2, e3] [] pos) a n d :=
  Rn.of hf (EvL.cons ha (EvL.cons hb (EvL.cons hb3 EvL.nil))) (fun A U s vs O h => by
    obtain ⟨v, w, x, rfl, h1, h2, h3⟩ := reps3 h
    obtain ⟨t, rfl⟩ := rep_int h1; obtain ⟨u, rfl⟩ := rep_int h2; obtain ⟨u3, rfl⟩ := rep_int h3
    exact call_range_3 hd ⟨⟨_, _, _, _, rfl, Heap.get?_push_size _ rfl, get_size _⟩, Ext.push' s _⟩ (.inl hp)) hs (by simp)
theorem It.range {e a b d} {n : Nat} (h : Rn T c σ e a b d) (hs : Builtin.Range.small a b d = true) (hn : Builtin.Range.rangeSize a b d = n) : It T c σ e ((List.range n).map fun (i : Nat) => .int (a + i * d)) := fun A env U s O R => wpB (h A env U s O R) fun v s1 ⟨a1, e1⟩ => by
  obtain ⟨r, t, u, w, rfl, hr, _⟩ := a1
  refine wpAny_pyIter_range hr hs ?_
  have e2 := Ext.push' s1 { cls := .type "range_iterator", data := .fields #[rawInt a, rawInt (Builtin.Range.rangeSize a b d), rawInt d] }
  refine ⟨⟨s1.heap.objs.size, [s1.heap.objs.size], [s1.heap.objs.size], _, _, rfl, by have := Walks.range (prog := T.prog) (w := T.w) O.handled s1.heap.objs.size a d n; rw [show ((List.range n).map fun (i : Nat) => V.int (a + i * d)).length = n by simp]; exact this.bound, ?_, ?_, ?_, ?_, (fun i h st b hb => by simp at hb; subst hb; exact ⟨_, _, st, rfl⟩), ?_⟩, e1.trans e2⟩
  · show IsRangeIter _ _ _ _ _; rw [hn]; simpa using Heap.get?_push_size _ rfl
  · intro b hb; simp at hb; subst hb; exact ⟨_, Heap.get?_push_size _ rfl⟩
  · intro b hb; simp at hb; subst hb; exact new_not (R.ext e1).used (get_size _)
  · intro b hb; simp at hb; subst hb; exact fresh_size e1
  · rintro i v ⟨hi, t, rfl⟩
    exact ⟨_, by simp [hi], Rep.int_⟩
end
section
open PySem PySem.W PyProof.Rows
open PySem.Builtin PySem.Builtin.Str
set_option Elab.async false
set_option linter.unusedVariables false
variable {T : TC} {c : Cx} {σ : List Slot}

-- what a comprehension's scope holds of the names about it
noncomputable def relabelN (names outer : List (Str × NameKind)) : List (Str × NameKind) :=
  names.map fun (n, k) => if (k == .free && (ScopeKind.function == ScopeKind.function) && outer.lookup n == some .cell) then (n, .cell) else (n, k)
inductive CapL (N : List Str) (σ : List Slot) : List Str → List Slot → Prop
  | nil : CapL N σ [] []
  | val {y p ys ss} : At N σ y (.val p) → CapL N σ ys ss → CapL N σ (y :: ys) (.val p :: ss)
  | own {y p ys ss} : At N σ y (.own p) → CapL N σ ys ss → CapL N σ (y :: ys) (.own p :: ss)
theorem CapL.val_of {N σ ys ss y p} (h : CapL N σ ys ss) (a : At ys ss y (.val p)) : At N σ y (.val p) ∧ y ∈ ys := by
  induction h with
  | nil => cases a
  | val h1 _ ih =>
    cases a with
    | here => exact ⟨h1, .head _⟩
    | there a => exact ⟨(ih a).1, .tail _ (ih a).2⟩
  | own h1 _ ih =>
    cases a with
    | there a => exact ⟨(ih a).1, .tail _ (ih a).2⟩
theorem CapL.own_of {N σ ys ss y p} (h : CapL N σ ys ss) (a : At ys ss y (.own p)) : At N σ y (.own p) ∧ y ∈ ys := by
  induction h with
  | nil => cases a
  | val h1 _ ih =>
    cases a with
    | there a => exact ⟨(ih a).1, .tail _ (ih a).2⟩
  | own h1 _ ih =>
    cases a with
    | here => exact ⟨h1, .head _⟩
    | there a => exact ⟨(ih a).1, .tail _ (ih a).2⟩
theorem CapL.any_of {N σ ys ss y} (h : CapL N σ ys ss) (a : y ∈ ys) : (∃ p, At N σ y (.val p)) ∨ (∃ p, At N σ y (.own p)) := by
  induction h with
  | nil => cases a
  | val h1 _ ih =>
    rcases List.mem_cons.mp a with rfl | a
    · exact .inl ⟨_, h1⟩
    · exact ih a
  | own h1 _ ih =>
    rcases List.mem_cons.mp a with rfl | a
    · exact .inr ⟨_, h1⟩
    · exact ih a
-- what a name of the top stands for
noncomputable def GlobIs (T : TC) (x : Str) (p : V) : Prop := (x == ("__debug__" : Str)) = false ∧ ∃ v, (T.mg x = some v ∨ (T.mg x = none ∧ T.mb x = some v)) ∧ ∀ s U, Rep T s U v p
-- the globals that are seen
inductive CapG (T : TC) (fr : Str → Bool) : List (Str × V) → List (Str × V) → Prop
  | nil : CapG T fr [] []
  | take {y p G G'} : fr y = true → CapG T fr G G' → CapG T fr ((y, p) :: G) ((y, p) :: G')
  | skip {e G G'} : CapG T fr G G' → CapG T fr (e :: G) G'
  | more {y p G G'} : fr y = true → GlobIs T y p → CapG T fr G G' → CapG T fr G ((y, p) :: G')
theorem CapG.of {fr G G' y p} (h : CapG T fr G G') (a : AtG G' y p) : (AtG G y p ∨ GlobIs T y p) ∧ fr y = true := by
  induction h with
  | nil => cases a
  | take h1 _ ih =>
    cases a with
    | here => exact ⟨.inl .here, h1⟩
    | there a => exact ⟨(ih a).1.imp .there id, (ih a).2⟩
  | skip _ ih => exact ⟨(ih a).1.imp .there id, (ih a).2⟩
  | more h1 h2 _ ih =>
    cases a with
    | here => exact ⟨.inr h2, h1⟩
    | there a => exact ih a

-- a scope's own marks, all by computation
structure CompOk (nm : List (Str × NameKind)) (scope : Scope) (x : Str) (caps : List Str) : Prop where
  kind : scope.kind = .function
  cell : ∀ y ∈ scope.names, y.2 ≠ .cell
  names : ∀ y ∈ scope.names, y.2 = .local → scope.names.lookup y.1 = some .local
  loc : scope.names.lookup x = some .local
  dbg : (x == ("__debug__" : Str)) = false
  free : ∀ y ∈ scope.names, y.2 = .free → y.1 ∈ caps
  caps : ∀ y ∈ caps, nm.lookup y = some .cell ∧ scope.names.lookup y = some .free
noncomputable def compOkB (nm : List (Str × NameKind)) (scope : Scope) (x : Str) (caps : List Str) : Bool :=
  (scope.kind == .function) && (scope.names.all fun y => y.2 != .cell) && (scope.names.all fun y => y.2 != .local || scope.names.lookup y.1 == some .local) && (scope.names.lookup x == some .local) &&
  (!(x == ("__debug__" : Str))) && (scope.names.all fun y => y.2 != .free || caps.contains y.1) && (caps.all fun y => nm.lookup y == some .cell && scope.names.lookup y == some .free)
theorem CompOk.of {nm scope x caps} (h : compOkB nm scope x caps = true) : CompOk nm scope x caps := by
  unfold compOkB at h
  simp only [Bool.and_eq_true, List.all_eq_true, Bool.or_eq_true, Bool.not_eq_true', beq_iff_eq, bne_iff_ne, ne_eq, List.contains_iff_mem] at h
  obtain ⟨⟨⟨⟨⟨⟨h1, h2⟩, h3⟩, h4⟩, h5⟩, h6⟩, h7⟩ := h
  exact ⟨h1, h2, fun y hy e => (h3 y hy).resolve_left (fun n => n e), h4, h5, fun y hy e => (h6 y hy).resolve_left (fun n => n e), h7⟩

theorem relabel_names {scope : Scope} {env : Env} {nm} (hk : env.scope.kind = .function) (hn : env.scope.names = nm) : (relabel scope env).names = relabelN scope.names nm := by
  unfold relabel relabelN Env.kindOf
  rw [hk, hn]
theorem lookup_map_eq {f : Str × NameKind → Str × NameKind} (hf : ∀ e, (f e).1 = e.1) : ∀ {names : List (Str × NameKind)} {y : Str} {k : NameKind}, names.lookup y = some k → (names.map f).lookup y = some (f (y, k)).2
  | [], _, _, h => by simp at h
  | (n, k') :: r, y, k, h => by
    rw [List.map_cons]
    have e : f (n, k') = (n, (f (n, k')).2) := Prod.ext (hf _) rfl
    rw [e, List.lookup_cons]
    rw [List.lookup_cons] at h
    cases hx : y == n with
    | true =>
      rw [hx] at h
      have hk : k' = k := by simpa using h
      have hy : y = n := by simpa using hx
      subst hk hy; rfl
    | false =>
      rw [hx] at h
      exact lookup_map_eq hf h

-- the closure: the cells of the names about it
theorem closure_of {scope : Scope} {env : Env} (h : ∀ y ∈ scope.names, y.2 = .free → ∃ a, env.cells.lookup y.1 = some a) :
    ∃ cl, closureFor scope env = pure cl ∧ ∀ y, scope.names.lookup y = some .free → cl.lookup y = env.cells.lookup y := by
  have key : ∀ (names : List (Str × NameKind)) (acc : List (Str × Addr)), (∀ y ∈ names, y.2 = .free → ∃ a, env.cells.lookup y.1 = some a) → (∀ y a, acc.lookup y = some a → env.cells.lookup y = some a) →
      ∃ cl, (forIn names acc fun (x : Str × NameKind) (r : List (Str × Addr)) => if (x.2 == NameKind.free) = true then (do let a ← cellOf env x.1; pure (ForInStep.yield ((x.1, a) :: r)) : Sem _) else pure (ForInStep.yield r)) = (pure cl : Sem _) ∧
        (∀ y a, cl.lookup y = some a → env.cells.lookup y = some a) ∧ (∀ y, (acc.lookup y).isSome = true → (cl.lookup y).isSome = true) ∧ (∀ y, names.lookup y = some .free → (cl.lookup y).isSome = true) := by
    intro names
    induction names with
    | nil => intro acc _ hacc; exact ⟨acc, by rw [List.forIn_nil], hacc, fun _ h => h, fun _ h => by simp at h⟩
    | cons e r ih =>
      intro acc hc hacc
      obtain ⟨n, k⟩ := e
      rw [List.forIn_cons]
      cases hk : (k == NameKind.free) with
      | true =>
        have hk' : k = .free := by simpa using hk
        obtain ⟨a, ha⟩ := hc (n, k) (.head _) hk'
        simp only [if_true]
        have e1 : cellOf env n = pure a := by unfold cellOf; simp only [] at ha; rw [ha]
        rw [e1]
        obtain ⟨cl, h1, h2, h3, h4⟩ := ih ((n, a) :: acc) (fun y hy => hc y (.tail _ hy)) (by
          intro y b hb
          rw [List.lookup_cons] at hb
          cases hx : y == n with
          | true => rw [hx] at hb; have : y = n := by simpa using hx
                    subst this; rw [← hb]; exact ha
          | false => rw [hx] at hb; exact hacc y b hb)
        refine ⟨cl, by simpa using h1, h2, fun y hy => h3 y ?_, fun y hy => ?_⟩
        · rw [List.lookup_cons]; cases y == n <;> simp_all
        · rw [List.lookup_cons] at hy
          cases hx : y == n with
          | true => exact h3 y (by rw [List.lookup_cons, hx]; rfl)
          | false => rw [hx] at hy; exact h4 y hy
      | false =>
        simp only [Bool.false_eq_true, if_false]
        obtain ⟨cl, h1, h2, h3, h4⟩ := ih acc (fun y hy => hc y (.tail _ hy)) hacc
        refine ⟨cl, by simpa using h1, h2, h3, fun y hy => ?_⟩
        rw [List.lookup_cons] at hy
        cases hx : y == n with
        | true => rw [hx] at hy; simp at hy; subst hy; simp at hk
        | false => rw [hx] at hy; exact h4 y hy
  obtain ⟨cl, h1, h2, _, h4⟩ := key scope.names [] h (by simp)
  refine ⟨cl, ?_, fun y hy => ?_⟩
  · rw [← h1]
    unfold closureFor
    simp only [bind_pure]
  · have := h4 y hy
    cases hl : cl.lookup y with
    | none => rw [hl] at this; cases this
    | some a => exact (h2 y a hl).symm
end
section
open PySem PySem.W PyProof.Rows
open PySem.Builtin PySem.Builtin.Str
set_option Elab.async false
set_option linter.unusedVariables false
variable {T : TC} {c : Cx} {σ : List Slot}

noncomputable def TrIf (T : TC) (c : Cx) (σ : List Slot) (ifs : List Expr) (b : Bool) : Prop :=
  ∀ A env U s, Ok c.d A → Rd T c σ U env s → ∀ E', wpAny (model T.prog T.w) A (forIn ifs true fun e r => if r = true then do let ok ← isTrue e env (eval e env); pure (ForInStep.yield ok) else pure (ForInStep.yield r))
    (fun ok s' => ok = b ∧ Ext s s') E' s
theorem TrIf.nil : TrIf T c σ [] true := fun A env U s O R E' => by rw [List.forIn_nil]; exact wpAny_pure ⟨rfl, Ext.refl s⟩
theorem TrIf.one {e b} (h : Tr T c σ e b) : TrIf T c σ [e] b := fun A env U s O R E' => by
  rw [List.forIn_cons]
  simp only [if_true]
  refine wpAny_bind (wpAny_bind (wpAny_mono (h A env U s O R) (fun r s' h' => wpAny_pure ?_) fun _ _ e => e.elim))
  dsimp only
  rw [List.forIn_nil]
  exact wpAny_pure h'

noncomputable def compR {α : Type} (n : Nat) (t : Nat → Bool) (f : Nat → α) : List α := ((List.range n).filter t).map f
theorem compR_succ {α : Type} (n : Nat) (t : Nat → Bool) (f : Nat → α) : compR (n + 1) t f = compR n t f ++ (if t n then [f n] else []) := by
  unfold compR
  rw [List.range_succ, List.filter_append, List.map_append]
  cases h : t n <;> simp [h]
theorem compR_len {α : Type} (n : Nat) (t : Nat → Bool) (f : Nat → α) : (compR n t f).length ≤ n := by
  unfold compR
  rw [List.length_map]
  exact Nat.le_trans (List.length_filter_le _ _) (by simp)

structure CompCx (T : TC) (c : Cx) (σ : List Slot) (scope : Scope) (x : Str) (c' : Cx) (caps : List Str) (cs : List Slot) : Prop where
  ok : CompOk c.nm scope x caps
  cap : CapL c.N σ caps cs
  d : c'.d = c.d
  nm : c'.nm = relabelN scope.names c.nm
  N : c'.N = x :: caps
  G : CapG T (fun y => scope.names.lookup y == some .globalImplicit) c.G c'.G

-- the inner names' state
theorem comp_rd {scope x c' caps cs} (H : CompCx T c σ scope x c' caps cs) {U U' : List Addr} {env : Env} {s s3 : Shared} {cl : List (Str × Addr)} {C : Addr} {m : Str → Option Value} {v : Value} {q : V}
    (R : Rd T c σ U env s) (e : Ext s s3) (hU : ∀ a o, s.heap.get? a = some o → a ∉ U → a ∉ U') (hl : ∀ a ∈ U', Live s3 a)
    (hcl : ∀ y, scope.names.lookup y = some .free → cl.lookup y = env.cells.lookup y) (hn : s3.heap.Ns C m) (hx : m x = some v) (hq : Rep T s3 U' v q) : Rd T c' (.val q :: cs) U' (compEnvC scope cl C env) s3 := by
  have ek : env.scope.kind = .function := R.kind
  have kx : (compEnvC scope cl C env).kindOf x = some .local := lookup_relabel_local H.ok.loc
  have ky : ∀ y ∈ caps, (compEnvC scope cl C env).kindOf y = some .cell ∧ (compEnvC scope cl C env).cells.lookup y = env.cells.lookup y ∧ env.kindOf y = some .cell := by
    intro y hy
    obtain ⟨h1, h2⟩ := H.ok.caps y hy
    have h3 : env.kindOf y = some .cell := by unfold Env.kindOf; rw [R.names]; exact h1
    refine ⟨?_, hcl y h2, h3⟩
    show (relabel scope env).names.lookup y = some .cell
    unfold relabel
    refine (lookup_map_eq (f := fun (n, k) => if (k == .free && env.scope.kind == .function && env.kindOf n == some .cell) then (n, .cell) else (n, k)) (fun e => by dsimp only; split <;> rfl) h2).trans ?_
    simp [ek, h3]
  have hv : ∀ y v, y ∈ caps → HoldsVar s.heap env y v → HoldsVar s3.heap (compEnvC scope cl C env) y v := by
    intro y v hy h
    obtain ⟨h1, h2, h3⟩ := ky y hy
    rcases h with ⟨a, _⟩ | ⟨_, cc, h4, h5⟩
    · rw [h3] at a; cases a
    · exact .inr ⟨h1, cc, by rw [h2]; exact h4, h5.keeps e.keep⟩
  refine ⟨R.top.trans e.keep, by show (relabel scope env).kind = _; exact H.ok.kind, ?_, R.globals, R.builtins, ?_, ?_, ?_, hl, Nat.lt_of_lt_of_le R.tok e.toks⟩
  · rw [H.nm]; exact relabel_names R.kind R.names
  · intro y p a
    rw [H.N] at a
    cases a with
    | here => exact ⟨H.ok.dbg, v, .inl ⟨kx, m, hn, hx⟩, hq⟩
    | there a =>
      obtain ⟨a1, a2⟩ := H.cap.val_of a
      obtain ⟨h1, v', h2, h3⟩ := R.var y p a1
      exact ⟨h1, v', hv y v' a2 h2, (h3.set hU).ext e⟩
  · intro y ps a
    rw [H.N] at a
    cases a with
    | there a =>
      obtain ⟨a1, a2⟩ := H.cap.own_of a
      obtain ⟨h1, b, it, n, h2, h3, h4, h5⟩ := R.own y ps a1
      exact ⟨h1, b, it, n, hv y _ a2 h2, e.keep _ _ h3, h4, (h5.set hU).ext e⟩
  · intro y p a
    obtain ⟨a1, a2⟩ := H.G.of a
    have a3 : GlobIs T y p := by
      rcases a1 with a1 | a1
      · obtain ⟨h1, v', ⟨_, h3⟩, h4⟩ := R.glob y p a1
        exact ⟨h1, v', h3, h4⟩
      · exact a1
    obtain ⟨h1, v', h3, h4⟩ := a3
    refine ⟨h1, v', ⟨?_, h3⟩, h4⟩
    show (relabel scope env).names.lookup y = some .globalImplicit
    unfold relabel
    exact (lookup_map_eq (f := fun (n, k) => if (k == .free && env.scope.kind == .function && env.kindOf n == some .cell) then (n, .cell) else (n, k)) (fun e => by dsimp only; split <;> rfl) (by simpa using a2)).trans (by rfl)

theorem comp_loop {elt iter : Expr} {x : Str} {px : Pos} {ifs : List Expr} {scope : Scope} {pos : Pos} {A : Around} {U : List Addr} {env : Env} {s s2 s3 : Shared} {c' caps cs} (H : CompCx T c σ scope x c' caps cs)
    {qs : List V} {t : Nat → Bool} {f : Nat → V} {it : Value} {I D C : Addr} {fp wr : List Addr} {P : Nat → Value → Prop} {St : Nat → Heap → Prop} {cl : List (Str × Addr)} {RR : Result → Shared → Prop}
    (htest : ∀ i q, qs[i]? = some q → TrIf T c' (.val q :: cs) ifs (t i)) (helt : ∀ i q, qs[i]? = some q → t i = true → Ev T c' (.val q :: cs) elt (f i))
    (O : Ok c.d A) (R : Rd T c σ U env s) (e2 : Ext s s2) (e3 : Ext s2 s3) (W : Wk T A U s it s2 I fp wr P St qs) (hsz : qs.length ≤ 1048576)
    (hcl : ∀ y, scope.names.lookup y = some .free → cl.lookup y = env.cells.lookup y)
    (hD : s2.heap.get? D = Option.none) (hC : s2.heap.get? C = Option.none) (hDC : D ≠ C) (hacc : s3.heap.PlainList D #[]) (m : Str → Option Value) (hn : s3.heap.Ns C m)
    (hRR : ∀ s' m' ys, s'.heap.PlainList D ys → s'.heap.Ns C m' → Reps T s' (D :: C :: (wr ++ U)) ys.toList (compR qs.length t f) → Ext s s' → RR (.ok .next) s') :
    codeAny (model T.prog T.w) A (.compLoop (.ListComp elt [⟨.Name x px, iter, ifs, 0⟩] scope pos) 0 (.ref I) (.ref D) (compEnvC scope cl C env)) RR s3 := by
  have Wk := W.walks
  have hDf : D ∉ fp := fun h => by obtain ⟨o, ho⟩ := W.live D h; rw [hD] at ho; cases ho
  have hCf : C ∉ fp := fun h => by obtain ⟨o, ho⟩ := W.live C h; rw [hC] at ho; cases ho
  have hDw : D ∉ wr := fun h => hDf (Wk.sub _ h)
  have hCw : C ∉ wr := fun h => hCf (Wk.sub _ h)
  have hx : (compEnvC scope cl C env).kindOf x = some .local := lookup_relabel_local H.ok.loc
  have hp : ((compEnvC scope cl C env).scope.kind == .class || ((compEnvC scope cl C env).scope.kind == .module && (compEnvC scope cl C env).locals != (compEnvC scope cl C env).globals)) = false := by
    have : (compEnvC scope cl C env).scope.kind = .function := H.ok.kind
    rw [this]; rfl
  have hU : ∀ a o, s.heap.get? a = some o → a ∉ U → a ∉ D :: C :: (wr ++ U) := by
    intro a o ha hu hm
    have h2 := e2.keep _ _ ha
    rcases List.mem_cons.mp hm with rfl | hm
    · rw [hD] at h2; cases h2
    rcases List.mem_cons.mp hm with rfl | hm
    · rw [hC] at h2; cases h2
    rcases List.mem_append.mp hm with hm | hm
    · have := W.fresh a hm; rw [ha] at this; cases this
    · exact hu hm
  -- what the turns keep
  refine codeAny_compLoop_tests
    (fun k s' => ∃ i m' ys, St i s'.heap ∧ s'.heap.PlainList D ys ∧ s'.heap.Ns C m' ∧ Reps T s' (D :: C :: (wr ++ U)) ys.toList (compR i t f) ∧ i ≤ qs.length ∧ k = qs.length + 1 - i ∧
      (∀ b o, b ≠ C → b ∉ wr → b ≠ D → s3.heap.get? b = some o → s'.heap.get? b = some o) ∧ Ext s s' ∧ (∀ b ∈ wr, Live s' b) ∧ s3.toks ≤ s'.toks) ?_ (qs.length + 1)
    ⟨0, m, #[], Wk.frame 0 _ _ W.start (fun b _ o e => e3.keep _ _ e), hacc, hn, by simp [compR]; exact Reps.nil, Nat.zero_le _, rfl, fun _ _ _ _ _ e => e, e2.trans e3, fun b hb => (W.live b (Wk.sub b hb)).ext e3, Nat.le_refl _⟩
  rintro k s' ⟨i, m', ys, hst', hacc', hn', hF, hi, rfl, hk, hE, hwl, htk⟩
  have liveU : ∀ (s'' : Shared) (m'' : Str → Option Value) (zs : Array Value), s''.heap.PlainList D zs → s''.heap.Ns C m'' → Ext s s'' → (∀ b ∈ wr, Live s'' b) → ∀ a ∈ D :: C :: (wr ++ U), Live s'' a := by
    intro s'' m'' zs h1 h2 h3 h4 a ha
    rcases List.mem_cons.mp ha with rfl | ha
    · obtain ⟨n, h⟩ := h1; exact ⟨_, h⟩
    rcases List.mem_cons.mp ha with rfl | ha
    · obtain ⟨o, _, _, h, _⟩ := h2; exact ⟨_, h⟩
    rcases List.mem_append.mp ha with ha | ha
    · exact h4 a ha
    · exact (R.used a ha).ext h3
  by_cases hlt : i < qs.length
  · refine wpAny_with_toks (n := s'.toks) (Nat.le_refl _) (Wk.item i s' _ _ hlt hst' fun v h₁ tk₁ hPv hst₁ hk₁ htk₁ => ?_)
    have htk₁ : s'.toks ≤ tk₁ := htk₁
    obtain ⟨q, hq, hrep⟩ := W.item i v hPv
    refine wpAny_assign_Name (wpAny_storeName_local hx (hn'.at' fun o e => hk₁ _ o hCw e) (fun h₂ hn₂ hs₂ => ?_) hp)
    have old : ∀ b o, s.heap.get? b = some o → s'.heap.get? b = some o := hE.keep
    have sne : ∀ b o, s.heap.get? b = some o → b ≠ C ∧ b ∉ wr ∧ b ≠ D := fun b o e => by
      refine ⟨?_, ?_, ?_⟩
      · rintro rfl; have := e2.keep _ _ e; rw [hC] at this; cases this
      · intro hm; have := W.fresh b hm; rw [e] at this; cases this
      · rintro rfl; have := e2.keep _ _ e; rw [hD] at this; cases this
    have up₂ : ∀ b o, b ≠ C → b ∉ wr → s'.heap.get? b = some o → h₂.get? b = some o := fun b o hbC hbf e => hs₂.extBut b o hbC (hk₁ b o hbf e)
    have hst₂ : St (i + 1) h₂ := Wk.frame _ _ _ hst₁ fun b hb o e => hs₂.extBut b o (fun (h : b = C) => hCf (h ▸ hb)) e
    have hE₂ : Ext s { s' with heap := h₂, toks := tk₁ + 1 } := ⟨fun b o e => up₂ b o (sne b o e).1 (sne b o e).2.1 (old b o e), hE.gens, hE.os, Nat.le_trans hE.toks (by show s'.toks ≤ tk₁ + 1; omega)⟩
    have hwl₂ : ∀ b ∈ wr, Live { s' with heap := h₂, toks := tk₁ + 1 } b := fun b hb => let ⟨o, _, h, _⟩ := W.lives _ _ hst₂ b hb; ⟨o, h⟩
    have hacc₂ : h₂.PlainList D ys := hacc'.at fun o e => up₂ D o hDC hDw e
    have rep₂ : Rep T { s' with heap := h₂, toks := tk₁ + 1 } (D :: C :: (wr ++ U)) v q := by
      have : Rep T s2 (D :: C :: (wr ++ U)) v q := Rep.set (fun a o ha hn hm => by
        rcases List.mem_cons.mp hm with rfl | hm
        · rw [hD] at ha; cases ha
        rcases List.mem_cons.mp hm with rfl | hm
        · rw [hC] at ha; cases ha
        · exact hn hm) hrep
      refine Rep.but (fun a o hn ha => ?_) (by have := e3.toks; show s2.toks ≤ tk₁ + 1; omega) this
      simp only [List.mem_cons, List.mem_append, not_or] at hn
      exact up₂ a o hn.2.1 hn.2.2.1 (hk a o hn.2.1 hn.2.2.1 hn.1 (e3.keep _ _ ha))
    have R₂ := comp_rd H R hE₂ hU (liveU _ _ _ hacc₂ hn₂ hE₂ hwl₂) hcl hn₂ (by simp) rep₂
    have O' : Ok c'.d A := by rw [H.d]; exact O
    refine wpAny_mono (htest i q hq A _ _ _ O' R₂ _) (fun ok s₃ h₃ => ?_) fun _ _ e => e
    obtain ⟨rfl, e₃⟩ := h₃
    have repsU : ∀ (s'' : Shared) {vs : List Value} {l : List V}, (∀ b o, b ≠ C → b ∉ wr → b ≠ D → s'.heap.get? b = some o → s''.heap.get? b = some o) → s'.toks ≤ s''.toks → Reps T s' (D :: C :: (wr ++ U)) vs l → Reps T s'' (D :: C :: (wr ++ U)) vs l := fun s'' vs l h1 h2 h3 =>
      Reps.but (fun a o hn ha => by simp only [List.mem_cons, List.mem_append, not_or] at hn; exact h1 a o hn.2.1 hn.2.2.1 hn.1 ha) h2 h3
    cases hpv : t i with
    | false =>
      simp only [Bool.false_eq_true, if_false]
      refine ⟨qs.length + 1 - (i + 1), by omega, i + 1, _, ys, Wk.frame _ _ _ hst₂ (fun b _ o e => e₃.keep _ _ e), hacc₂.at (fun o e => e₃.keep _ _ e), hn₂.keeps e₃.keep, ?_, hlt, rfl, ?_, hE₂.trans e₃, fun b hb => (hwl₂ b hb).ext e₃, ?_⟩
      · rw [compR_succ, hpv]
        simp only [Bool.false_eq_true, if_false, List.append_nil]
        exact repsU _ (fun b o h1 h2 h3 e => e₃.keep _ _ (up₂ b o h1 h2 e)) (Nat.le_trans (by show s'.toks ≤ tk₁ + 1; omega) e₃.toks) hF
      · exact fun b o h1 h2 h3 e => e₃.keep _ _ (up₂ b o h1 h2 (hk b o h1 h2 h3 e))
      · exact Nat.le_trans htk (Nat.le_trans (by show s'.toks ≤ tk₁ + 1; omega) e₃.toks)
    | true =>
      simp only [if_true]
      have R₃ := R₂.ext e₃
      refine wpAny_mono (helt i q hq hpv A _ _ _ O' R₃) (fun y s₄ h₄ => ?_) fun _ _ e => e.elim
      obtain ⟨hy, e₄⟩ := h₄
      have e34 := e₃.trans e₄
      have hys : ys.size ≤ sizeLine := by
        have e1 := hF.length
        have e2' := compR_len i t f
        have e4 : ys.toList.length = ys.size := by simp
        have : (2:Nat)^24 = sizeLine := rfl
        omega
      refine wpAny_list_append_plain (hsz := hys) (hacc₂.at fun o e => e34.keep _ _ e) fun h₅ hl₅ hs₅ => ?_
      refine ⟨qs.length + 1 - (i + 1), by omega, i + 1, _, ys.push y, ?_, hl₅, (hn₂.keeps e34.keep).sameBut hs₅ (Ne.symm hDC), ?_, hlt, rfl, ?_, ?_, ?_, ?_⟩
      · exact Wk.frame _ _ _ hst₂ fun b hb o e => hs₅.extBut b o (fun h => hDf (h ▸ hb)) (e34.keep _ _ e)
      · rw [compR_succ, hpv]
        simp only [if_true, Array.toList_push]
        refine Reps.append (repsU _ (fun b o h1 h2 h3 e => hs₅.extBut b o h3 (e34.keep _ _ (up₂ b o h1 h2 e))) (Nat.le_trans (by show s'.toks ≤ tk₁ + 1; omega) e34.toks) hF) (Reps.cons ?_ Reps.nil)
        refine Rep.but (s := s₄) (s' := { s₄ with heap := h₅ }) (fun a o hn ha => ?_) (Nat.le_refl _) hy
        simp only [List.mem_cons, not_or] at hn
        exact hs₅.extBut a o hn.1 ha
      · exact fun b o h1 h2 h3 e => hs₅.extBut b o h3 (e34.keep _ _ (up₂ b o h1 h2 (hk b o h1 h2 h3 e)))
      · have hE4 := hE₂.trans e34
        exact ⟨fun b o e => hs₅.extBut b o (sne b o e).2.2 (hE4.keep _ _ e), hE4.gens, hE4.os, hE4.toks⟩
      · intro b hb
        obtain ⟨o, ho⟩ := (hwl₂ b hb).ext e34
        exact ⟨o, hs₅.extBut b o (fun h => hDw (h ▸ hb)) ho⟩
      · exact Nat.le_trans htk (Nat.le_trans (by show s'.toks ≤ tk₁ + 1; omega) e34.toks)
  · have hin : i = qs.length := by omega
    subst hin
    refine wpAny_with_toks (n := s'.toks) (Nat.le_refl _) (Wk.done s' _ _ hst' fun h₁ tk₁ hk₁ htk₁ => ?_)
    refine hRR _ m' ys (hacc'.at fun o e => hk₁ _ o hDw e) (hn'.at' fun o e => hk₁ _ o hCw e) ?_ ?_
    · exact Reps.but (fun a o hn ha => by simp only [List.mem_cons, List.mem_append, not_or] at hn; exact hk₁ a o hn.2.2.1 ha) htk₁ hF
    · exact ⟨fun b o e => hk₁ b o (fun hm => by have := W.fresh b hm; rw [e] at this; cases this) (hE.keep _ _ e), hE.gens, hE.os, Nat.le_trans hE.toks htk₁⟩
end
section
open PySem PySem.W PyProof.Rows
open PySem.Builtin PySem.Builtin.Str
set_option Elab.async false
set_option linter.unusedVariables false
variable {T : TC} {c : Cx} {σ : List Slot}

theorem comp_core {elt iter : Expr} {x : Str} {px : Pos} {ifs : List Expr} {scope : Scope} {pos fpos : Pos} {A : Around} {U : List Addr} {env : Env} {s : Shared} {c' caps cs} (H : CompCx T c σ scope x c' caps cs)
    {qs : List V} {t : Nat → Bool} {f : Nat → V} {use : Option (Value → Sem Unit)} {Q : Value → Shared → Prop}
    (hit : It T c σ iter qs) (htest : ∀ i q, qs[i]? = some q → TrIf T c' (.val q :: cs) ifs (t i)) (helt : ∀ i q, qs[i]? = some q → t i = true → Ev T c' (.val q :: cs) elt (f i))
    (O : Ok c.d A) (R : Rd T c σ U env s) (hsz : qs.length ≤ 1048576) (hs : ∀ x, foldedSetIterable iter env x = pure x)
    (hend : ∀ D C wr s' m' ys n, s.heap.get? D = Option.none → s.heap.get? C = Option.none → D ≠ C → IsL s'.heap D ys n → s'.heap.Ns C m' → Reps T s' (D :: C :: (wr ++ U)) ys.toList (compR qs.length t f) → Ext s s' →
      compPost (model T.prog T.w) A (fun _ _ => False) use Q (.ref D) C (.ok .next) s') :
    wpAny (model T.prog T.w) A (comprehension (.ListComp elt [⟨.Name x px, iter, ifs, 0⟩] scope pos) scope env fpos (newList []) false (eval iter env) use) Q (fun _ _ => False) s := by
  have hcells : ∀ y ∈ scope.names, y.2 = .free → ∃ a, env.cells.lookup y.1 = some a := by
    intro y hy hf
    have hc := H.ok.free y hy hf
    have hk : env.kindOf y.1 = some .cell := by unfold Env.kindOf; rw [R.names]; exact (H.ok.caps y.1 hc).1
    have : ∃ v, HoldsVar s.heap env y.1 v := by
      rcases H.cap.any_of hc with ⟨p, h⟩ | ⟨p, h⟩
      · obtain ⟨_, v, h1, _⟩ := R.var _ _ h; exact ⟨v, h1⟩
      · obtain ⟨_, a, _, _, h1, _⟩ := R.own _ _ h; exact ⟨_, h1⟩
    obtain ⟨v, h | ⟨_, cc, h4, _⟩⟩ := this
    · rw [hk] at h; cases h.1
    · exact ⟨cc, h4⟩
  obtain ⟨cl, hclos, hcl⟩ := closure_of hcells
  refine wpAny_comprehension_free (use := use) rfl hs hclos H.ok.kind H.ok.names (wpB (hit A env U s O R) (fun xv s₁ h₁ => wpB h₁ (fun it s₂ h₂ => ?_)))
  obtain ⟨⟨I, fp, wr, P, St, W⟩, e2⟩ := h₂
  obtain rfl := W.ref
  refine wpAny_newObj_type (wpAny_newFunctionEnv H.ok.cell (by intro y hy; simp at hy) (fun h₁ hns₁ hsb₁ => ?_) H.ok.kind)
  dsimp only at hns₁ hsb₁ ⊢
  generalize hH2 : s₂.heap.push { cls := .type "list", dict := Option.none, data := .seq ([] : List Value).toArray } = H2 at hns₁ hsb₁ ⊢
  have hC : H2.objs.size = s₂.heap.objs.size + 1 := by rw [← hH2, Heap.size_push]
  have hDC : s₂.heap.objs.size ≠ H2.objs.size := by rw [hC]; exact Nat.ne_of_lt (Nat.lt_succ_self _)
  have hDn : s₂.heap.get? s₂.heap.objs.size = Option.none := get_size _
  have hCn : s₂.heap.get? H2.objs.size = Option.none := get_ge (by rw [hC]; exact Nat.le_succ _)
  have below : ∀ b, b < s₂.heap.objs.size → b ≠ H2.objs.size ∧ b ≠ s₂.heap.objs.size := fun b hb => ⟨by rw [hC]; exact Nat.ne_of_lt (Nat.lt_succ_of_lt hb), Nat.ne_of_lt hb⟩
  have old : ∀ b o, s₂.heap.get? b = some o → h₁.get? b = some o := fun b o e => hsb₁.extBut b o (below b (Heap.lt_size e)).1 (Heap.get?_push_of_some _ (hH2 ▸ Heap.get?_push_of_some _ e))
  have hacc : h₁.PlainList s₂.heap.objs.size #[] := ⟨_, hsb₁.extBut _ _ hDC (Heap.get?_push_of_some _ (hH2 ▸ Heap.get?_push_size _ rfl))⟩
  have loop : ∀ s₃ : Shared, s₃ = { s₂ with heap := h₁, toks := s₂.toks + ([] : List (Str × Value)).length } →
      codeAny (model T.prog T.w) A (.compLoop (.ListComp elt [⟨.Name x px, iter, ifs, 0⟩] scope pos) 0 (.ref I) (.ref s₂.heap.objs.size) (compEnvC scope cl H2.objs.size env))
        (compPost (model T.prog T.w) A (fun _ _ => False) use Q (.ref s₂.heap.objs.size) H2.objs.size) s₃ := by
    rintro s₃ rfl
    have e3 : Ext s₂ { s₂ with heap := h₁, toks := s₂.toks + ([] : List (Str × Value)).length } := ⟨old, rfl, rfl, Nat.le_add_right _ _⟩
    refine comp_loop H htest helt O R e2 e3 W hsz hcl hDn hCn hDC hacc _ hns₁ fun s' m' ys hpl hn hr he => ?_
    obtain ⟨n, hpl⟩ := hpl
    exact hend _ _ wr s' m' ys n (fresh_of e2 hDn) (fresh_of e2 hCn) hDC hpl hn hr he
  exact codeAny_compStart_list (loop _ rfl) (W.walks.self 0 { s₂ with heap := h₁, toks := s₂.toks + ([] : List (Str × Value)).length } _ _ (W.walks.frame _ _ _ W.start fun b _ o e => old b o e) (loop _ rfl))

theorem Ev.comp {elt iter : Expr} {x : Str} {px : Pos} {ifs : List Expr} {scope : Scope} {pos : Pos} {c' caps cs} {qs : List V} {t : Nat → Bool} {f : Nat → V} (H : CompCx T c σ scope x c' caps cs)
    (hit : It T c σ iter qs) (htest : ∀ i q, qs[i]? = some q → TrIf T c' (.val q :: cs) ifs (t i)) (helt : ∀ i q, qs[i]? = some q → t i = true → Ev T c' (.val q :: cs) elt (f i))
    (hsz : qs.length ≤ 1048576) (hs : ∀ env x, foldedSetIterable iter env x = pure x := by walk_at "r2") :
    Ev T c σ (.ListComp elt [⟨.Name x px, iter, ifs, 0⟩] scope pos) (.list (compR qs.length t f)) := fun A env U s O R => by
  rw [eval_ListComp]
  refine comp_core (use := Option.none) H hit htest helt O R hsz (hs env) fun D C wr s' m' ys n hD hC hDC hl hn hr he => ?_
  refine ⟨m', hn, fun h' hs' => ⟨?_, ?_⟩⟩
  · unfold Rep
    refine ⟨D, ys, n, rfl, new_not R.used hD, ?_, ?_, ?_⟩
    · exact hs'.extBut D _ hDC hl
    · exact Nat.le_trans (compR_len _ _ _) hsz
    · have h1 : Reps T { s' with heap := h' } (D :: C :: (wr ++ U)) ys.toList (compR qs.length t f) := Reps.but (s := s') (s' := { s' with heap := h' }) (fun a o hn' ha => by
        simp only [List.mem_cons, not_or] at hn'
        exact hs'.extBut a o hn'.2.1 ha) (Nat.le_refl _) hr
      exact Reps.sub h1 fun a ha => .tail _ (.tail _ (List.mem_append_right _ ha))
  · exact ⟨fun b o e => hs'.extBut b o (by rintro rfl; rw [hC] at e; cases e) (he.keep _ _ e), he.gens, he.os, he.toks⟩

-- plain forms of what a comprehension makes
theorem compR_map {α : Type} (n : Nat) (f : Nat → α) : compR n (fun _ => true) f = (List.range n).map f := by
  unfold compR; rw [List.filter_eq_self.mpr (fun _ _ => rfl)]
theorem compR_list {α β : Type} (xs : List α) (t : α → Bool) (f : α → β) (d : α) : compR xs.length (fun i => t (xs.getD i d)) (fun i => f (xs.getD i d)) = (xs.filter t).map f := by
  have : (List.range xs.length).map (fun i => xs.getD i d) = xs := by
    apply List.ext_getElem
    · simp
    · intro i h1 h2
      simp at h1
      simp [h1]
  conv => rhs; rw [← this]
  unfold compR
  rw [List.filter_map, List.map_map]
  rfl
-- sums
theorem Bco.sum {ns : List Int} : Bco T "sum" (ns.map .int) (.int ns.sum) := by
  intro A U s v O S x
  obtain ⟨a, it, n, rfl, hl, hL, hr⟩ := x
  rw [List.length_map] at hL
  have hsz : it.size = ns.length := by have := hr.length; rw [List.length_map] at this; simpa using this
  have hne : a ≠ s.heap.objs.size := fun e => by rw [e] at hl; have := get_size s.heap; rw [hl] at this; cases this
  have hpre : ∀ j, j ≤ ns.length → preSum (fun i => ns.getD i 0) j = (ns.take j).sum := by
    intro j
    induction j with
    | zero => intro _; simp [preSum]
    | succ j ih => intro hj; rw [preSum, ih (by omega), PySem.sum_take_succ]
  refine ext_of (call_sum_walkAnyS (wpAny_pyIter_list hl.isList ⟨s.heap.objs.size, [s.heap.objs.size, a], [s.heap.objs.size], _, it.size, _, _, fun i => ns.getD i 0, rfl,
    (Walks.list (prog := T.prog) (w := T.w) (A := A.in1) O.handled s.heap.objs.size a hne it).toS, ⟨⟨_, Heap.get?_push_size _ rfl, rfl, rfl⟩, (IsL.isList (n := n) (Heap.get?_push_of_some _ hl))⟩, ?_, ?_, ?_⟩))
  · intro b hb
    simp at hb
    rw [Heap.size_push]
    rcases hb with rfl | rfl
    · exact Nat.lt_succ_self _
    · exact Nat.lt_succ_of_lt (Heap.lt_size hl)
  · intro i v hv
    have hi : i < ns.length := by
      rcases Nat.lt_or_ge i ns.length with h | h
      · exact h
      · rw [Array.getElem?_eq_none (by omega)] at hv; cases hv
    obtain ⟨v', h1, h2⟩ := hr.get (i := i) (p := .int ns[i]) (by simp [hi])
    have : it.toList[i]? = some v := by simpa using hv
    rw [this] at h1; cases h1
    obtain ⟨t, rfl⟩ := rep_int h2
    exact ⟨t, by simp [hi]⟩
  · intro s' t' hm _
    refine ⟨?_, ?_⟩
    · rw [hsz, hpre _ (Nat.le_refl _), List.take_length]; exact Rep.int_
    · exact ⟨fun b o e => hm.heap b o (by intro hb; simp at hb; subst hb; rw [get_size] at e; cases e) (Heap.get?_push_of_some _ e), hm.gens, hm.os⟩
end
section
open PySem PySem.W PyProof.Rows
open PySem.Builtin PySem.Builtin.Str
set_option Elab.async false
set_option linter.unusedVariables false
variable {T : TC} {c : Cx} {σ : List Slot}

structure Fr (T : TC) (c : Cx) (s₀ : Shared) (U₀ : List Addr) (σ : List Slot) (U : List Addr) (env : Env) (s : Shared) : Prop where
  rd : Rd T c σ U env s
  base : Keeps T.h₀ s₀.heap
  ext : Ext s₀ s
  nodup : c.N.Nodup
  dbg : ∀ x ∈ c.N, (x == ("__debug__" : Str)) = false
  inU : ∀ a ∈ U, a ∈ U₀ ∨ s₀.heap.get? a = Option.none
  old : ∀ a ∈ U₀, a ∈ U ∧ Live s₀ a
  locU : env.locals ∈ U
  locN : s₀.heap.get? env.locals = Option.none
  ns : ∃ m, s.heap.Ns env.locals m
  cel : ∀ x a, env.cells.lookup x = some a → a ∈ U ∧ s₀.heap.get? a = Option.none ∧ ∃ v, s.heap.IsCell a v
  kinds : ∀ x ∈ c.N, env.kindOf x = some .local ∨ (env.kindOf x = some .cell ∧ ∃ a, env.cells.lookup x = some a)
  apart : ∀ x y a, env.cells.lookup x = some a → env.cells.lookup y = some a → x = y
  owned : ∀ x ps a, At c.N σ x (.own ps) → HoldsVar s.heap env x (.ref a) → a ∈ U ∧ s₀.heap.get? a = Option.none
  owap : ∀ x y ps qs a, At c.N σ x (.own ps) → At c.N σ y (.own qs) → HoldsVar s.heap env x (.ref a) → HoldsVar s.heap env y (.ref a) → x = y

variable {s₀ s s' : Shared} {U₀ U : List Addr} {env : Env}

theorem cell_not_list {h : Heap} {a : Addr} {v it n} (x : h.IsCell a v) (y : IsL h a it n) : False := by
  obtain ⟨o, h1, h2⟩ := x; rw [y] at h1; cases h1; cases h2
theorem ns_not_list {h : Heap} {a : Addr} {m it n} (x : h.Ns a m) (y : IsL h a it n) : False := by
  obtain ⟨o, es, ep, h1, h2, _⟩ := x; rw [y] at h1; cases h1; cases h2
theorem ns_not_cell {h : Heap} {a : Addr} {m v} (x : h.Ns a m) (y : h.IsCell a v) : False := by
  obtain ⟨o, es, ep, h1, h2, _⟩ := x; obtain ⟨o', h3, h4⟩ := y; rw [h1] at h3; cases h3; rw [h2] at h4; cases h4

-- only looked at since
theorem Fr.of_ext (F : Fr T c s₀ U₀ σ U env s) (e : Ext s s') : Fr T c s₀ U₀ σ U env s' where
  rd := F.rd.ext e
  base := F.base
  ext := F.ext.trans e
  nodup := F.nodup
  dbg := F.dbg
  inU := F.inU
  old := F.old
  locU := F.locU
  locN := F.locN
  ns := let ⟨m, h⟩ := F.ns; ⟨m, h.keeps e.keep⟩
  cel x a h := let ⟨h1, h2, v, h3⟩ := F.cel x a h; ⟨h1, h2, v, h3.keeps e.keep⟩
  kinds := F.kinds
  apart := F.apart
  owned x ps a h hv := by
    obtain ⟨_, b, _, _, h1, _⟩ := F.rd.own x ps h
    have := (h1.keep e.keep).uniq hv; cases this
    exact F.owned x ps a h h1
  owap x y ps qs a h1 h2 h3 h4 := by
    obtain ⟨_, b, _, _, k1, _⟩ := F.rd.own x ps h1
    have := (k1.keep e.keep).uniq h3; cases this
    obtain ⟨_, b', _, _, k2, _⟩ := F.rd.own y qs h2
    have := (k2.keep e.keep).uniq h4; cases this
    exact F.owap x y ps qs a h1 h2 k1 k2

-- more that may be written: what was not there when the names' values were
theorem Fr.grow (F : Fr T c s₀ U₀ σ U env s) (e : Ext s s') {W : List Addr} (hf : ∀ a ∈ W, s.heap.get? a = Option.none) (hl : ∀ a ∈ W, Live s' a) : Fr T c s₀ U₀ σ (W ++ U) env s' := by
  have F' := F.of_ext e
  have hU : ∀ a o, s.heap.get? a = some o → a ∉ U → a ∉ W ++ U := fun a o ha hn hm => by
    rcases List.mem_append.mp hm with h | h
    · have := hf a h; rw [ha] at this; cases this
    · exact hn h
  refine { F' with rd := ?_, inU := ?_, old := ?_, locU := List.mem_append_right _ F.locU, cel := ?_, owned := ?_ }
  · refine { F'.rd with var := ?_, own := ?_, used := ?_ }
    · intro y p a
      obtain ⟨h1, v, h2, h3⟩ := F.rd.var y p a
      exact ⟨h1, v, h2.keep e.keep, (h3.set hU).ext e⟩
    · intro y ps a
      obtain ⟨h1, b, it, n, h2, h3, h4, h5⟩ := F.rd.own y ps a
      exact ⟨h1, b, it, n, h2.keep e.keep, e.keep _ _ h3, h4, (h5.set hU).ext e⟩
    · intro a ha
      rcases List.mem_append.mp ha with h | h
      · exact hl a h
      · exact F'.rd.used a h
  · intro a ha
    rcases List.mem_append.mp ha with h | h
    · exact .inr (fresh_of F.ext (hf a h))
    · exact F.inU a h
  · exact fun a ha => ⟨List.mem_append_right _ (F.old a ha).1, (F.old a ha).2⟩
  · exact fun x a h => ⟨List.mem_append_right _ (F'.cel x a h).1, (F'.cel x a h).2⟩
  · exact fun x ps a h hv => ⟨List.mem_append_right _ (F'.owned x ps a h hv).1, (F'.owned x ps a h hv).2⟩

noncomputable def SlotOk (T : TC) (c : Cx) (s₀ : Shared) (σ : List Slot) (U : List Addr) (env : Env) (s s' : Shared) (x : Str) : Slot → Prop
  | .val p => ∃ v, HoldsVar s'.heap env x v ∧ Rep T s' U v p
  | .own ps => ∃ a it n, HoldsVar s'.heap env x (.ref a) ∧ IsL s'.heap a it n ∧ ps.length ≤ 1048576 ∧ Reps T s' U it.toList ps ∧ a ∈ U ∧ s₀.heap.get? a = Option.none ∧ ∀ y qs, y ≠ x → At c.N σ y (.own qs) → ¬ HoldsVar s.heap env y (.ref a)
  | .dead => True

-- one object turned, one name's slot anew
theorem Fr.upd (F : Fr T c s₀ U₀ σ U env s) {x sl σ'} (hu : Upd c.N σ x sl σ') {w : Addr} (hwU : w ∈ U) (hw0 : s₀.heap.get? w = Option.none) (hk : ∀ a o, a ≠ w → s.heap.get? a = some o → s'.heap.get? a = some o)
    (hg : s'.gens = s.gens) (ho : s'.os = s.os) (ht : s.toks ≤ s'.toks) (hlive : Live s' w) (hns : ∃ m, s'.heap.Ns env.locals m) (hcel : ∀ y a v, env.cells.lookup y = some a → s.heap.IsCell a v → ∃ v', s'.heap.IsCell a v')
    (hv : ∀ y v, y ≠ x → HoldsVar s.heap env y v → HoldsVar s'.heap env y v) (hIL : ∀ y ps a, y ≠ x → At c.N σ y (.own ps) → HoldsVar s.heap env y (.ref a) → a ≠ w)
    (hnew : SlotOk T c s₀ σ U env s s' x sl) : Fr T c s₀ U₀ σ' U env s' := by
  have hkU : ∀ a o, a ∉ U → s.heap.get? a = some o → s'.heap.get? a = some o := fun a o hn h => hk a o (fun e => hn (e ▸ hwU)) h
  have hE : Ext s₀ s' := ⟨fun b o h => hk b o (by rintro rfl; rw [hw0] at h; cases h) (F.ext.keep _ _ h), hg.trans F.ext.gens, ho.trans F.ext.os, Nat.le_trans F.ext.toks ht⟩
  have live : ∀ a ∈ U, Live s' a := fun a ha => by
    by_cases h : a = w
    · subst h; exact hlive
    · obtain ⟨o, h1⟩ := F.rd.used a ha; exact ⟨o, hk a o h h1⟩
  have hT : Keeps T.h₀ s'.heap := F.base.trans hE.keep
  have hat : ∀ y sl', At c.N σ' y sl' → (y = x ∧ sl' = sl) ∨ (y ≠ x ∧ At c.N σ y sl') := fun y sl' a => hu.at F.nodup a
  have hown : ∀ y ps, At c.N σ' y (.own ps) → ∃ a it n, HoldsVar s'.heap env y (.ref a) ∧ IsL s'.heap a it n ∧ ps.length ≤ 1048576 ∧ Reps T s' U it.toList ps ∧ a ∈ U ∧ s₀.heap.get? a = Option.none ∧ (y ≠ x → HoldsVar s.heap env y (.ref a)) ∧
      (y = x → ∀ z qs, z ≠ x → At c.N σ z (.own qs) → ¬ HoldsVar s.heap env z (.ref a)) := by
    intro y ps a
    rcases hat y _ a with ⟨rfl, h2⟩ | ⟨h1, h2⟩
    · subst h2
      obtain ⟨b, it, n, h3, h4, h5, h6, h7, h8, h9⟩ := hnew
      exact ⟨b, it, n, h3, h4, h5, h6, h7, h8, fun h => absurd rfl h, fun _ => h9⟩
    · obtain ⟨_, b, it, n, h3, h4, h5, h6⟩ := F.rd.own y ps h2
      obtain ⟨h7, h8⟩ := F.owned y ps b h2 h3
      exact ⟨b, it, n, hv y _ h1 h3, hk _ _ (hIL y ps b h1 h2 h3) h4, h5, Reps.but hkU ht h6, h7, h8, fun _ => h3, fun h => absurd h h1⟩
  refine { rd := ?_, base := F.base, ext := hE, nodup := F.nodup, dbg := F.dbg, inU := F.inU, old := F.old, locU := F.locU, locN := F.locN, ns := hns, cel := ?_, kinds := F.kinds, apart := F.apart, owned := ?_, owap := ?_ }
  · refine ⟨hT, F.rd.kind, F.rd.names, F.rd.globals, F.rd.builtins, ?_, ?_, F.rd.glob, live, Nat.lt_of_lt_of_le F.rd.tok ht⟩
    · intro y p a
      rcases hat y _ a with ⟨rfl, h2⟩ | ⟨h1, h2⟩
      · subst h2
        obtain ⟨v, h3, h4⟩ := hnew
        exact ⟨F.dbg _ hu.mem, v, h3, h4⟩
      · obtain ⟨h3, v, h4, h5⟩ := F.rd.var y p h2
        exact ⟨h3, v, hv y v h1 h4, h5.but hkU ht⟩
    · intro y ps a
      obtain ⟨b, it, n, h3, h4, h5, h6, _⟩ := hown y ps a
      exact ⟨F.dbg _ a.mem, b, it, n, h3, h4, h5, h6⟩
  · intro y a h
    obtain ⟨h1, h2, v, h3⟩ := F.cel y a h
    exact ⟨h1, h2, hcel y a v h h3⟩
  · intro y ps a h1 h2
    obtain ⟨b, it, n, h3, _, _, _, h7, h8, _⟩ := hown y ps h1
    have := h3.uniq h2; cases this
    exact ⟨h7, h8⟩
  · intro y z ps qs a h1 h2 h3 h4
    obtain ⟨b, it, n, k3, _, _, _, _, _, k7, k8⟩ := hown y ps h1
    have := k3.uniq h3; cases this
    obtain ⟨b', it', n', l3, _, _, _, _, _, l7, l8⟩ := hown z qs h2
    have := l3.uniq h4; cases this
    by_cases hy : y = x
    · by_cases hz : z = x
      · rw [hy, hz]
      · rcases hat z _ h2 with ⟨h, _⟩ | ⟨_, h⟩
        · exact absurd h hz
        · exact absurd (l7 hz) (k8 hy z qs hz h)
    · by_cases hz : z = x
      · rcases hat y _ h1 with ⟨h, _⟩ | ⟨_, h⟩
        · exact absurd h hy
        · exact absurd (k7 hy) (l8 hz y ps hy h)
      · rcases hat y _ h1 with ⟨h, _⟩ | ⟨_, hy'⟩
        · exact absurd h hy
        · rcases hat z _ h2 with ⟨h, _⟩ | ⟨_, hz'⟩
          · exact absurd h hz
          · exact F.owap y z ps qs _ hy' hz' (k7 hy) (l7 hz)

-- a name bound
theorem Fr.store (F : Fr T c s₀ U₀ σ U env s) {x sl σ' v} (hu : Upd c.N σ x sl σ') {M : Model} {A : Around} {E : Value → Shared → Prop} {Q : Unit → Shared → Prop}
    (hv : ∀ s', s.toks ≤ s'.toks → (∀ a o, a ∉ U → s.heap.get? a = some o → s'.heap.get? a = some o) → (∀ a it n, IsL s.heap a it n → IsL s'.heap a it n) → HoldsVar s'.heap env x v → SlotOk T c s₀ σ U env s s' x sl)
    (hQ : ∀ s', Fr T c s₀ U₀ σ' U env s' → s.toks ≤ s'.toks → (∀ a o, a ∉ U → s.heap.get? a = some o → s'.heap.get? a = some o) → (∀ a o, a ≠ env.locals → (∀ y, env.cells.lookup y ≠ some a) → s.heap.get? a = some o → s'.heap.get? a = some o) → Q () s') : wpAny M A (storeName env x v) Q E s := by
  rcases F.kinds x hu.mem with hl | ⟨hl, cc, hcc⟩
  · obtain ⟨m, hn⟩ := F.ns
    refine wpAny_storeName_local hl hn (fun h' hn' hs' => hQ _ ?_ (Nat.le_succ _) (fun a o h e => hs'.extBut a o (fun h' => h (h' ▸ F.locU)) e) (fun a o h _ e => hs'.extBut a o h e)) (by rw [F.rd.kind]; rfl)
    have hk : ∀ a o, a ≠ env.locals → s.heap.get? a = some o → h'.get? a = some o := fun a o h e => hs'.extBut a o h e
    have hx' : HoldsVar h' env x v := .inl ⟨hl, _, hn', by simp⟩
    refine F.upd hu F.locU F.locN hk rfl rfl (Nat.le_succ _) ⟨_, hn'.choose_spec.choose_spec.choose_spec.1⟩ ⟨_, hn'⟩ ?_ ?_ ?_ (hv _ (Nat.le_succ _) (fun a o h e => hk a o (fun h' => h (h' ▸ F.locU)) e) (fun a it n h => hk a _ (by rintro rfl; exact ns_not_list hn h) h) hx')
    · intro y a v' h1 h2
      exact ⟨v', h2.sameBut hs' (by rintro rfl; exact ns_not_cell hn h2)⟩
    · intro y v' hne h
      rcases h with ⟨a, m', b, d⟩ | ⟨a, c', b, d⟩
      · refine .inl ⟨a, _, hn', ?_⟩
        have := hn.agree b y
        simp only [hne, if_false]
        rw [this]; exact d
      · exact .inr ⟨a, c', b, d.sameBut hs' (by rintro rfl; exact ns_not_cell hn d)⟩
    · intro y ps a hne h1 h2
      obtain ⟨_, b, it, n, h3, h4, _⟩ := F.rd.own y ps h1
      have := h3.uniq h2; cases this
      rintro rfl
      exact ns_not_list hn h4
  · obtain ⟨h1, h2, v₀, h3⟩ := F.cel x cc hcc
    refine wpAny_storeName_cell F.rd.kind hl hcc h3 fun h' hc' hs' => hQ _ ?_ (Nat.le_refl _) (fun a o h e => hs'.extBut a o (fun h' => h (h' ▸ h1)) e) (fun a o _ h e => hs'.extBut a o (fun h' => h x (h' ▸ hcc)) e)
    have hk : ∀ a o, a ≠ cc → s.heap.get? a = some o → h'.get? a = some o := fun a o h e => hs'.extBut a o h e
    have hx' : HoldsVar h' env x v := .inr ⟨hl, cc, hcc, hc'⟩
    obtain ⟨m, hn⟩ := F.ns
    have hLc : env.locals ≠ cc := by intro e; rw [← e] at h3; exact ns_not_cell hn h3
    refine F.upd hu h1 h2 hk rfl rfl (Nat.le_refl _) ⟨_, hc'.choose_spec.1⟩ ⟨m, hn.sameBut hs' hLc⟩ ?_ ?_ ?_ (hv _ (Nat.le_refl _) (fun a o h e => hk a o (fun h' => h (h' ▸ h1)) e) (fun a it n h => hk a _ (by rintro rfl; exact cell_not_list h3 h) h) hx')
    · intro y a v' k1 k2
      by_cases hy : y = x
      · subst hy; rw [hcc] at k1; cases k1; exact ⟨_, hc'⟩
      · exact ⟨v', k2.sameBut hs' (by rintro rfl; exact hy (F.apart y x _ k1 hcc))⟩
    · intro y v' hne h
      rcases h with ⟨a, m', b, d⟩ | ⟨a, c', b, d⟩
      · exact .inl ⟨a, m', b.sameBut hs' hLc, d⟩
      · exact .inr ⟨a, c', b, d.sameBut hs' (by rintro rfl; exact hne (F.apart y x _ b hcc))⟩
    · intro y ps a hne k1 k2
      obtain ⟨_, b, it, n, k3, k4, _⟩ := F.rd.own y ps k1
      have := k3.uniq k2; cases this
      rintro rfl
      exact cell_not_list h3 k4
end
section
open PySem PySem.W PyProof.Rows
open PySem.Builtin PySem.Builtin.Str
set_option Elab.async false
set_option linter.unusedVariables false
variable {T : TC} {c : Cx} {σ σ' : List Slot}
variable {s₀ s s' : Shared} {U₀ U : List Addr} {env : Env}

theorem Fr.mut (F : Fr T c s₀ U₀ σ U env s) {x ps ps' a it n} (hx : At c.N σ x (.own ps)) (hh : HoldsVar s.heap env x (.ref a)) (hl : IsL s.heap a it n) (hu : Upd c.N σ x (.own ps') σ') (f : Array Value → Array Value) {k : Nat} (hk : s.toks ≤ k)
    (hL : ps'.length ≤ 1048576) (hr : Reps T s U (f it).toList ps') : Fr T c s₀ U₀ σ' U env { s with heap := s.heap.update a (Obj.mapSeq f), toks := k } := by
  obtain ⟨haU, ha0⟩ := F.owned x ps a hx hh
  have hk' : ∀ b o, b ≠ a → s.heap.get? b = some o → (s.heap.update a (Obj.mapSeq f)).get? b = some o := fun b o h e => (Heap.get?_update_other s.heap _ (Ne.symm h)).trans e
  obtain ⟨m, hn⟩ := F.ns
  have hLa : env.locals ≠ a := fun e => by rw [← e] at hl; exact ns_not_list hn hl
  have hla := hl.update f
  have keepV : ∀ y v, HoldsVar s.heap env y v → HoldsVar (s.heap.update a (Obj.mapSeq f)) env y v := by
    intro y v h
    rcases h with ⟨h1, m', h2, h3⟩ | ⟨h1, cc, h2, h3⟩
    · exact .inl ⟨h1, m', h2.at' fun o e => hk' _ o hLa e, h3⟩
    · refine .inr ⟨h1, cc, h2, ?_⟩
      obtain ⟨o, h4, h5⟩ := h3
      exact ⟨o, hk' _ o (by rintro rfl; exact cell_not_list ⟨o, h4, h5⟩ hl) h4, h5⟩
  refine F.upd hu haU ha0 hk' rfl rfl hk ⟨_, hla⟩ ⟨m, hn.at' fun o e => hk' _ o hLa e⟩ ?_ (fun y v _ h => keepV y v h) ?_ ?_
  · intro y b v h1 h2
    obtain ⟨o, h4, h5⟩ := h2
    exact ⟨v, o, hk' _ o (by rintro rfl; exact cell_not_list ⟨o, h4, h5⟩ hl) h4, h5⟩
  · intro y qs b hne h1 h2 e
    subst e
    exact hne (F.owap y x qs ps _ h1 hx h2 hh)
  · refine ⟨a, _, _, keepV x _ hh, hla, hL, ?_, haU, ha0, ?_⟩
    · exact Reps.but (fun b o hb e => hk' b o (by rintro rfl; exact hb haU) e) hk hr
    · intro y qs hne h1 h2
      exact hne (F.owap y x qs ps _ h1 hx h2 hh)

-- what is no longer turned
-- a list grown is done: a value from now on
theorem Fr.freeze (F : Fr T c s₀ U₀ σ U env s) {x ps} (hx : At c.N σ x (.own ps)) (hu : Upd c.N σ x (.val (.list ps)) σ') : ∃ U', Fr T c s₀ U₀ σ' U' env s ∧ ∀ b ∈ U', b ∈ U := by
  obtain ⟨hd, a, it, n, hh, hl, hL, hr⟩ := F.rd.own x ps hx
  obtain ⟨haU, ha0⟩ := F.owned x ps a hx hh
  refine ⟨U.filter (· != a), ?_, fun b h => (List.mem_filter.mp h).1⟩
  have hs : ∀ b, b ∈ U.filter (· != a) → b ∈ U := fun b h => (List.mem_filter.mp h).1
  have hin : ∀ b, b ∈ U → b ≠ a → b ∈ U.filter (· != a) := fun b h hne => List.mem_filter.mpr ⟨h, by simpa using hne⟩
  have hat : ∀ y sl', At c.N σ' y sl' → (y = x ∧ sl' = .val (.list ps)) ∨ (y ≠ x ∧ At c.N σ y sl') := fun y sl' h => hu.at F.nodup h
  have hne0 : ∀ b ∈ U₀, b ≠ a := fun b hb e => by obtain ⟨o, ho⟩ := (F.old b hb).2; rw [e, ha0] at ho; cases ho
  obtain ⟨m, hn⟩ := F.ns
  refine { F with rd := ?_, inU := fun b h => F.inU b (hs b h), old := fun b h => ⟨hin b (F.old b h).1 (hne0 b h), (F.old b h).2⟩, locU := hin _ F.locU (by rintro e; rw [← e] at hl; exact ns_not_list hn hl), cel := ?_, owned := ?_, owap := ?_ }
  · refine { F.rd with var := ?_, own := ?_, used := fun b h => F.rd.used b (hs b h) }
    · intro y p h
      rcases hat y _ h with ⟨rfl, h2⟩ | ⟨h1, h2⟩
      · cases h2
        refine ⟨hd, .ref a, hh, ?_⟩
        unfold Rep
        exact ⟨a, it, n, rfl, by simp, hl, hL, hr.sub hs⟩
      · obtain ⟨h3, v, h4, h5⟩ := F.rd.var y p h2
        exact ⟨h3, v, h4, h5.sub hs⟩
    · intro y qs h
      rcases hat y _ h with ⟨rfl, h2⟩ | ⟨h1, h2⟩
      · cases h2
      · obtain ⟨h3, b, it', n', h4, h5, h6, h7⟩ := F.rd.own y qs h2
        exact ⟨h3, b, it', n', h4, h5, h6, h7.sub hs⟩
  · intro y b h
    obtain ⟨h1, h2, v, h3⟩ := F.cel y b h
    exact ⟨hin b h1 (by rintro rfl; exact cell_not_list h3 hl), h2, v, h3⟩
  · intro y qs b h hv
    rcases hat y _ h with ⟨rfl, h2⟩ | ⟨h1, h2⟩
    · cases h2
    · obtain ⟨h3, h4⟩ := F.owned y qs b h2 hv
      exact ⟨hin b h3 (by rintro rfl; exact h1 (F.owap y x qs ps _ h2 hx hv hh)), h4⟩
  · intro y z qs rs b h1 h2 h3 h4
    rcases hat y _ h1 with ⟨_, h⟩ | ⟨_, h1⟩
    · cases h
    rcases hat z _ h2 with ⟨_, h⟩ | ⟨_, h2⟩
    · cases h
    exact F.owap y z qs rs b h1 h2 h3 h4
-- less known
theorem Fr.weak (F : Fr T c s₀ U₀ σ U env s) (w : Weak σ σ') : Fr T c s₀ U₀ σ' U env s := by
  refine { F with rd := ?_, owned := fun x ps a h hv => F.owned x ps a (w.at h (by intro e; cases e)) hv, owap := fun x y ps qs a h1 h2 h3 h4 => F.owap x y ps qs a (w.at h1 (by intro e; cases e)) (w.at h2 (by intro e; cases e)) h3 h4 }
  exact { F.rd with var := fun y p a => F.rd.var y p (w.at a (by intro e; cases e)), own := fun y ps a => F.rd.own y ps (w.at a (by intro e; cases e)) }

-- statements
structure Step (U : List Addr) (s : Shared) (U' : List Addr) (s' : Shared) : Prop where
  keep : ∀ a o, a ∉ U → s.heap.get? a = some o → s'.heap.get? a = some o
  new : ∀ a ∈ U', a ∈ U ∨ s.heap.get? a = Option.none
  toks : s.toks ≤ s'.toks
theorem Step.refl : Step U s U s := ⟨fun _ _ _ h => h, fun _ h => .inl h, Nat.le_refl _⟩
theorem Step.trans {U1 U2 : List Addr} {s1 s2 : Shared} (x : Step U s U1 s1) (y : Step U1 s1 U2 s2) : Step U s U2 s2 := by
  refine ⟨fun a o hn h => y.keep a o (fun h1 => ?_) (x.keep a o hn h), fun a h => ?_, Nat.le_trans x.toks y.toks⟩
  · rcases x.new a h1 with h2 | h2
    · exact hn h2
    · rw [h] at h2; cases h2
  · rcases y.new a h with h1 | h1
    · exact x.new a h1
    · by_cases hu : a ∈ U
      · exact .inl hu
      · refine .inr ?_
        cases e : s.heap.get? a with
        | none => rfl
        | some o => have := x.keep a o hu e; rw [h1] at this; cases this
theorem Step.ext (e : Ext s s') : Step U s U s' := ⟨fun a o _ h => e.keep a o h, fun _ h => .inl h, e.toks⟩
theorem Step.sub {U' : List Addr} (h : ∀ b ∈ U', b ∈ U) : Step U s U' s := ⟨fun _ _ _ h => h, fun a ha => .inl (h a ha), Nat.le_refl _⟩
theorem Step.upd {a : Addr} (h : a ∈ U) (f : Obj → Obj) {k : Nat} (hk : s.toks ≤ k) : Step U s U { s with heap := s.heap.update a f, toks := k } :=
  ⟨fun b o hb e => (Heap.get?_update_other s.heap _ (fun (h' : a = b) => hb (h' ▸ h))).trans e, fun _ h => .inl h, hk⟩
theorem Step.rep {U' : List Addr} (x : Step U s U' s') {v p} (h : Rep T s U v p) : Rep T s' U' v p :=
  (h.set (U' := U' ++ U) (fun a o ha hn hm => by
    rcases List.mem_append.mp hm with h1 | h1
    · rcases x.new a h1 with h2 | h2
      · exact hn h2
      · rw [ha] at h2; cases h2
    · exact hn h1)).but (fun a o hn ha => x.keep a o (fun h => hn (List.mem_append_right _ h)) ha) x.toks |>.sub fun a h => List.mem_append_left _ h
inductive Out where
  | next (σ : List Slot)
  | ret (p : V)
noncomputable def Ends (T : TC) (c : Cx) (s₀ : Shared) (U₀ : List Addr) (env : Env) (U : List Addr) (s : Shared) : Out → Flow → Shared → Prop
  | .next σ', f, s' => f = .next ∧ ∃ U', Fr T c s₀ U₀ σ' U' env s' ∧ Step U s U' s'
  | .ret p, f, s' => ∃ v, f = .ret v ∧ Rep T s' U₀ v p ∧ Ext s₀ s'
theorem Ends.of {U1 : List Addr} {s1 : Shared} (x : Step U s U1 s1) {o f s'} (h : Ends T c s₀ U₀ env U1 s1 o f s') : Ends T c s₀ U₀ env U s o f s' := by
  cases o with
  | next σ' => obtain ⟨h1, U', h2, h3⟩ := h; exact ⟨h1, U', h2, x.trans h3⟩
  | ret p => exact h
noncomputable def Ex (T : TC) (c : Cx) (σ : List Slot) (ss : List Stmt) (o : Out) : Prop :=
  ∀ A env s₀ U₀ U s, Ok c.d A → Fr T c s₀ U₀ σ U env s → wpAny (model T.prog T.w) A (execs ss env) (fun f s' => Ends T c s₀ U₀ env U s o f s') (fun _ _ => False) s
noncomputable def Ex1 (T : TC) (c : Cx) (σ : List Slot) (st : Stmt) (o : Out) : Prop :=
  ∀ A env s₀ U₀ U s, Ok c.d A → Fr T c s₀ U₀ σ U env s → wpAny (model T.prog T.w) A (exec st env) (fun f s' => Ends T c s₀ U₀ env U s o f s') (fun _ _ => False) s

theorem Ex.nil : Ex T c σ [] (.next σ) := fun A env s₀ U₀ U s O F => wpAny_execs_nil ⟨rfl, U, F, Step.refl⟩
theorem Ex.cons {st rest σ1 o} (h1 : Ex1 T c σ st (.next σ1)) (h2 : Ex T c σ1 rest o) : Ex T c σ (st :: rest) o := fun A env s₀ U₀ U s O F =>
  wpAny_execs_cons (wpB (h1 A env s₀ U₀ U s O F) fun f s' ⟨hf, U', F', S'⟩ => by subst hf; exact wpB (h2 A env s₀ U₀ U' s' O F') fun _ _ h => Ends.of S' h)
theorem Ex.ret {st rest p} (h1 : Ex1 T c σ st (.ret p)) : Ex T c σ (st :: rest) (.ret p) := fun A env s₀ U₀ U s O F =>
  wpAny_execs_cons (wpB (h1 A env s₀ U₀ U s O F) fun f s' ⟨v, hf, h⟩ => by subst hf; exact ⟨v, rfl, h⟩)
theorem Ex.weak {σ1 ss o} (w : Weak σ σ1) (h : Ex T c σ1 ss o) : Ex T c σ ss o := fun A env s₀ U₀ U s O F => h A env s₀ U₀ U s O (F.weak w)
theorem Ex.freeze {x ps σ1 ss o} (hx : At c.N σ x (.own ps)) (hu : Upd c.N σ x (.val (.list ps)) σ1) (h : Ex T c σ1 ss o) : Ex T c σ ss o := fun A env s₀ U₀ U s O F =>
  let ⟨U', F', hs⟩ := F.freeze hx hu; wpB (h A env s₀ U₀ U' s O F') fun _ _ h => Ends.of (Step.sub hs) h
theorem Ex1.weak {st σ1 σ2} (h : Ex1 T c σ st (.next σ1)) (w : Weak σ1 σ2) : Ex1 T c σ st (.next σ2) := fun A env s₀ U₀ U s O F =>
  wpB (h A env s₀ U₀ U s O F) fun f s' ⟨hf, U', F', S'⟩ => ⟨hf, U', F'.weak w, S'⟩
theorem Ex.weakout {ss σ1 σ2} (h : Ex T c σ ss (.next σ1)) (w : Weak σ1 σ2) : Ex T c σ ss (.next σ2) := fun A env s₀ U₀ U s O F =>
  wpB (h A env s₀ U₀ U s O F) fun f s' ⟨hf, U', F', S'⟩ => ⟨hf, U', F'.weak w, S'⟩
theorem Ex.castn {ss σ1 σ2} (h : Ex T c σ ss (.next σ1)) (e : σ1 = σ2) : Ex T c σ ss (.next σ2) := e ▸ h
theorem Ex.castr {ss p q} (h : Ex T c σ ss (.ret p)) (e : p = q) : Ex T c σ ss (.ret q) := e ▸ h
theorem store_ends (F : Fr T c s₀ U₀ σ U env s) {x p σ' v} (hu : Upd c.N σ x (.val p) σ') (hr : Rep T s U v p) {M : Model} {A : Around} {E : Value → Shared → Prop} {Uo : List Addr} {so : Shared} (S : Step Uo so U s) :
    wpAny M A (storeName env x v) (fun _ s' => Ends T c s₀ U₀ env Uo so (.next σ') .next s') E s :=
  F.store hu (fun s' h1 h2 _ h3 => ⟨v, h3, hr.but h2 h1⟩) fun s' F' ht hk _ => ⟨rfl, U, F', S.trans ⟨hk, fun _ h => .inl h, ht⟩⟩

theorem Ex1.assign {x px e pos p σ1} (h : Ev T c σ e p) (hu : Upd c.N σ x (.val p) σ1) (hs : ∀ env, swapsWith e (some (.Name x px)) pos.line env = pure false := by walk_at "r1") : Ex1 T c σ (.Assign [.Name x px] e pos) (.next σ1) := fun A env s₀ U₀ U s O F =>
  wpAny_Assign_Name (wpB (h A env U s O F.rd) fun v s1 ⟨a1, e1⟩ => store_ends (F.of_ext e1) hu a1 (Step.ext e1)) (hs env)
theorem fresh_own' (F : Fr T c s₀ U₀ σ U env s) (e : Ext s s') {a : Addr} (h : s.heap.get? a = Option.none) {y qs} (hy : At c.N σ y (.own qs)) : ¬ HoldsVar s'.heap env y (.ref a) := fun hv => by
  obtain ⟨_, b, it, n, h1, h2, _⟩ := F.rd.own y qs hy
  have := (h1.keep e.keep).uniq hv; cases this
  have h3 : s.heap.get? a = some _ := h2
  rw [h] at h3; cases h3
theorem Ex1.assign_new {x px e pos ps σ1} (h : EvN T c σ e ps) (hu : Upd c.N σ x (.own ps) σ1) (hs : ∀ env, swapsWith e (some (.Name x px)) pos.line env = pure false := by walk_at "r1") : Ex1 T c σ (.Assign [.Name x px] e pos) (.next σ1) := fun A env s₀ U₀ U s O F =>
  wpAny_Assign_Name (wpB (h A env U s O F.rd) fun v s1 ⟨⟨a, it, n, hv, hf, hl, hL, hfl, hr⟩, e1⟩ => by
    subst hv
    have F' := F.grow e1 (W := [a]) (by intro b hb; simp at hb; subst hb; exact hf) (by intro b hb; simp at hb; subst hb; exact ⟨_, hl⟩)
    have S1 : Step U s ([a] ++ U) s1 := ⟨fun b o _ h => e1.keep b o h, fun b hb => by
      rcases List.mem_append.mp hb with h | h
      · simp at h; subst h; exact .inr hf
      · exact .inl h, e1.toks⟩
    refine F'.store hu (fun s' h1 h2 h4 h3 => ⟨a, it, n, h3, h4 _ _ _ hl, hL, Reps.but h2 h1 (hr.flat hfl (Nat.le_refl _)), List.mem_append_left _ (.head _), fresh_of F.ext hf, fun y qs _ hy => fresh_own' F e1 hf hy⟩) fun s' F'' ht hk _ => ⟨rfl, _, F'', S1.trans ⟨hk, fun _ h => .inl h, ht⟩⟩) (hs env)
theorem Ex1.assign2 {x px y py e pos p σ1 σ2} (h : Ev T c σ e p) (hu : Upd c.N σ x (.val p) σ1) (hu2 : Upd c.N σ1 y (.val p) σ2)
    (he : ∀ env, (assignEach [Expr.Name x px, Expr.Name y py] env).map (·.2) = [PySem.assign (Expr.Name x px) env, PySem.assign (Expr.Name y py) env] := by walk_at "r1")
    (hw : ∀ env, swappedStores [Expr.Name x px, Expr.Name y py] e env = pure Option.none := by walk_at "r1") : Ex1 T c σ (.Assign [Expr.Name x px, Expr.Name y py] e pos) (.next σ2) := fun A env s₀ U₀ U s O F =>
  wpAny_Assign_two (wpB (h A env U s O F.rd) fun v s1 ⟨a1, e1⟩ => wpAny_assign_Name ((F.of_ext e1).store hu (fun s' h1 h2 _ h3 => ⟨v, h3, a1.but h2 h1⟩) fun s' F' ht hk _ =>
    wpAny_assign_Name (store_ends F' hu2 (a1.but hk ht) ((Step.ext e1).trans ⟨hk, fun _ h => .inl h, ht⟩)))) (he env) (hw env)
theorem Ex1.aug {x px op e pos p q r σ1} (hx : At c.N σ x (.val p)) (h : Ev T c σ e q) (ho : ∀ A U s va vb, Ok 0 A → Su T U s → Rep T s U va p → Rep T s U vb q → wpAny (model T.prog T.w) A (inplaceOp op va vb) (fun v s' => Rep T s' U v r ∧ Ext s s') (fun _ _ => False) s)
    (hu : Upd c.N σ x (.val r) σ1) : Ex1 T c σ (.AugAssign (.Name x px) op e pos) (.next σ1) := fun A env s₀ U₀ U s O F =>
  wpAny_AugAssign_Name (by
    obtain ⟨_, v, h1, h2⟩ := F.rd.var x p hx
    refine load_var F.rd.kind h1 (wpB (h A env U s O F.rd) fun w s1 ⟨a1, e1⟩ => wpB (ho A U s1 v w O.zero (F.rd.ext e1).su (h2.ext e1) a1) fun u s2 ⟨a2, e2⟩ => ?_)
    exact store_ends (F.of_ext (e1.trans e2)) hu a2 (Step.ext (e1.trans e2)))
theorem Ex1.if_ {test body orelse pos b o} (h1 : Tr T c σ test b) (h2 : b = true → Ex T c σ body o) (h3 : b = false → Ex T c σ orelse o) : Ex1 T c σ (.If test body orelse pos) o := fun A env s₀ U₀ U s O F =>
  wpAny_If (wpB (h1 A env U s O F.rd) fun r s1 ⟨a1, e1⟩ => by
    subst a1
    cases r with
    | true => rw [if_pos rfl]; exact wpB (h2 rfl A env s₀ U₀ U s1 O (F.of_ext e1)) fun _ _ h => Ends.of (Step.ext e1) h
    | false => rw [if_neg (by decide)]; exact wpB (h3 rfl A env s₀ U₀ U s1 O (F.of_ext e1)) fun _ _ h => Ends.of (Step.ext e1) h)
theorem Ex1.skip {test body pos} (h1 : Tr T c σ test false) : Ex1 T c σ (.If test body [] pos) (.next σ) := Ex1.if_ h1 (fun h => nomatch h) (fun _ => Ex.nil)
theorem Ex1.return_ {e pos p} (h : Ev T c σ e p) : Ex1 T c σ (.Return (some e) pos) (.ret p) := fun A env s₀ U₀ U s O F =>
  wpAny_Return_some (wpB (h A env U s O F.rd) fun v s1 ⟨a1, e1⟩ => ⟨v, rfl, a1.sub fun a h => (F.old a h).1, F.ext.trans e1⟩)
theorem Ex1.assert {test msg pos} (h : Tr T c σ test true) : Ex1 T c σ (.Assert test msg pos) (.next σ) := fun A env s₀ U₀ U s O F =>
  wpAny_Assert_holds (wpB (h A env U s O F.rd) fun r s1 ⟨a1, e1⟩ => ⟨a1, rfl, U, F.of_ext e1, Step.ext e1⟩)
end
section
open PySem PySem.W PyProof.Rows
open PySem.Builtin PySem.Builtin.Str
set_option Elab.async false
set_option linter.unusedVariables false
variable {T : TC} {c : Cx} {σ σ' : List Slot}
variable {s₀ s s' : Shared} {U₀ U : List Addr} {env : Env}

theorem inter_no (h : env.scope.kind = .function) : interactive env = false := by unfold interactive; rw [h]; rfl

-- x.append(e)
theorem Ex1.append {x px apos e cpos pos ps p σ1} (hx : At c.N σ x (.own ps)) (h : Ev T c σ e p) (hL : ps.length < 1048576) (hu : Upd c.N σ x (.own (ps ++ [p])) σ1)
    (hbase : ∀ env, attributeBase (.Name x px) "append" env (eval (.Name x px) env) = eval (.Name x px) env := by walk_at "r1")
    (hs : ∀ env, starEach [e] env = [(false, eval e env)] := by walk_at "r1") (hline : (apos.endLine == cpos.line) = true := by rfl)
    (hsw : ∀ env, swapsWith (.Call (.Attribute (.Name x px) "append" apos) [e] [] cpos) Option.none pos.line env = pure false := by walk_at "r1") :
    Ex1 T c σ (.Expr (.Call (.Attribute (.Name x px) "append" apos) [e] [] cpos) pos) (.next σ1) := fun A env s₀ U₀ U s O F => by
  refine PySem.wpAny_Expr_any (Call_method1 (hbase env) (hs env) hline ?_) (inter_no F.rd.kind) (hsw env)
  obtain ⟨hd, a, it, n, h1, h2, h4, h3⟩ := F.rd.own x ps hx
  refine wpAny_Name (load_var F.rd.kind h1 ?_) hd
  refine ⟨"list", _, PySem.F.plainAttrs_list, PySem.F.slot_list_append, PySem.F.type_list_append, h2.isList.typeIs, fun b e => ⟨_, by cases e; exact h2, rfl⟩, ?_⟩
  refine P.append_list (wpB (h A env U s O F.rd) fun v s1 ⟨a1, e1⟩ => ?_)
  have F1 := F.of_ext e1
  have hl1 := e1.keep _ _ h2
  have hsz : it.size = ps.length := by rw [← h3.length]; simp
  refine ⟨it, n, by have : (2:Nat)^24 = sizeLine := rfl; omega, hl1, rfl, U, ?_, (Step.ext e1).trans (Step.upd (F.owned x ps a hx h1).1 _ (Nat.le_refl _))⟩
  exact F1.mut hx (h1.keep e1.keep) hl1 hu _ (Nat.le_refl _) (by simp; omega) (by simpa using Reps.append (h3.ext e1) (Reps.cons a1 Reps.nil))
-- x.extend(e)
-- x[i] = e
theorem Ex1.setitem {x px i e tpos pos ps p k σ1} (h : Ev T c σ e p) (hx : At c.N σ x (.own ps)) (hi : Ev T c σ i (.int k)) (h0 : 0 ≤ k) (hk : k < ps.length) (hu : Upd c.N σ x (.own (ps.set k.toNat p)) σ1)
    (hs : ∀ env, swapsWith e (some (.Subscript (.Name x px) i tpos)) pos.line env = pure false := by walk_at "r1") :
    Ex1 T c σ (.Assign [.Subscript (.Name x px) i tpos] e pos) (.next σ1) := fun A env s₀ U₀ U s O F => by
  refine wpAny_Assign_Subscript (wpB (h A env U s O F.rd) fun v s1 ⟨a1, e1⟩ => ?_) (hs env)
  have F1 := F.of_ext e1
  obtain ⟨hd, a, it, n, h1, h2, h4, h3⟩ := F1.rd.own x ps hx
  refine wpAny_Name (load_var F1.rd.kind h1 (wpB (hi A env U s1 O F1.rd) fun w s2 ⟨a2, e2⟩ => ?_)) hd
  obtain ⟨t, rfl⟩ := rep_int a2
  have F2 := F1.of_ext e2
  have hl2 := e2.keep _ _ h2
  have hsz : it.size = ps.length := by rw [← h3.length]; simp
  refine ki_setAt (n := n) hl2 h0 (by omega) (by omega) ⟨rfl, U, ?_, (Step.ext (e1.trans e2)).trans (Step.upd (F1.owned x ps a hx h1).1 _ (Nat.le_refl _))⟩
  exact F2.mut hx (h1.keep e2.keep) hl2 hu _ (Nat.le_refl _) (by simpa using h4) (by simpa using Reps.set' k.toNat (h3.ext e2) (a1.ext e2))
-- x[i] op= e
-- del x[i]
theorem Reps.erase {s : Shared} {U} : ∀ {ps : List V} {vs : List Value} (k : Nat), Reps T s U vs ps → Reps T s U (vs.eraseIdx k) (ps.eraseIdx k)
  | [], _, k, x => by unfold Reps at x; subst x; simp [Reps]
  | q :: ps, _, k, x => by
    unfold Reps at x; obtain ⟨v, r, rfl, h2, h3⟩ := x
    cases k with
    | zero => exact h3
    | succ k => exact Reps.cons h2 (Reps.erase k h3)
theorem Ex1.delitem {x px i tpos pos ps k σ1} {j : Nat} (hx : At c.N σ x (.own ps)) (hi : Ev T c σ i (.int k)) (hj : seqIndex? k ps.length = some j) (hjl : j < ps.length) (hk : -1000 ≤ k ∧ k ≤ 1048576) (hu : Upd c.N σ x (.own (ps.eraseIdx j)) σ1) :
    Ex1 T c σ (.Delete [.Subscript (.Name x px) i tpos] pos) (.next σ1) := fun A env s₀ U₀ U s O F => by
  obtain ⟨hd, a, it, n, h1, h2, h4, h3⟩ := F.rd.own x ps hx
  refine wpAny_Delete (wpAny_deleteEach_cons (delete_Subscript (wpAny_Name (load_var F.rd.kind h1 (wpB (hi A env U s O F.rd) fun w s2 ⟨a2, e2⟩ => ?_)) hd)))
  obtain ⟨t, rfl⟩ := rep_int a2
  have F2 := F.of_ext e2
  have hl2 := e2.keep _ _ h2
  have hsz : it.size = ps.length := by rw [← h3.length]; simp
  have h24 : (2:Nat)^24 = sizeLine := rfl
  refine P.delItem_list hl2 ?_ (by rw [hsz]; exact hj) (wpAny_deleteEach_nil ⟨rfl, U, ?_, (Step.ext e2).trans (Step.upd (F.owned x ps a hx h1).1 _ (Nat.le_refl _))⟩) (by omega)
  · unfold Builtin.List.listFitsIndex; simp; omega
  · refine F2.mut hx (h1.keep e2.keep) hl2 hu _ (Nat.le_refl _) (by rw [List.length_eraseIdx]; split <;> omega) ?_
    have : (it.eraseIdxIfInBounds j).toList = it.toList.eraseIdx j := by simp
    rw [this]
    exact Reps.erase j (h3.ext e2)
end
section
open PySem PySem.W PyProof.Rows
open PySem.Builtin PySem.Builtin.Str
set_option Elab.async false
set_option linter.unusedVariables false
variable {T : TC} {c : Cx} {σ σ' : List Slot}
variable {s₀ s s' : Shared} {U₀ U : List Addr} {env : Env}

-- the first turn that leaves
noncomputable def firstB (B : Nat → Option V) : Nat → Option V
  | 0 => Option.none
  | n + 1 => match firstB B n with
    | some p => some p
    | Option.none => B n
theorem firstB_none {B : Nat → Option V} : ∀ {n}, (∀ j < n, B j = Option.none) → firstB B n = Option.none
  | 0, _ => rfl
  | n + 1, h => by
    show (match firstB B n with | some p => some p | Option.none => B n) = _
    rw [firstB_none fun j hj => h j (Nat.lt_succ_of_lt hj)]
    exact h n (Nat.lt_succ_self n)
theorem firstB_some {B : Nat → Option V} {i p} : ∀ {n}, i < n → (∀ j < i, B j = Option.none) → B i = some p → firstB B n = some p
  | n + 1, hi, h, hp => by
    show (match firstB B n with | some p => some p | Option.none => B n) = _
    by_cases e : i = n
    · subst e; rw [firstB_none h]; exact hp
    · rw [firstB_some (by omega) h hp]
noncomputable def outOf (σ : List Slot) : Option V → Out
  | Option.none => .next σ
  | some p => .ret p

-- values hold no object of fields
mutual
theorem Rep.setF {s : Shared} {U U' : List Addr} (k : ∀ a o, s.heap.get? a = some o → (∀ v, o.data ≠ .fields v) → a ∉ U → a ∉ U') : ∀ {p : V} {v : Value}, Rep T s U v p → Rep T s U' v p
  | .none, _, x => x
  | .bool _, _, x => x
  | .int _, _, x => x
  | .str _, _, x => x
  | .strt _, _, x => x
  | .fn _, _, x => x
  | .raw _, _, x => x
  | .dict _, _, x => by
    unfold Rep at x ⊢
    obtain ⟨a, vs, n, h1, h2, h6, ⟨o, es, h3, h4⟩, h5⟩ := x
    exact ⟨a, vs, n, h1, k _ _ h3 (by intro v e; rw [h4.2.1] at e; cases e) h2, h6, ⟨o, es, h3, h4⟩, h5⟩
  | .list ps, _, x => by
    unfold Rep at x ⊢
    obtain ⟨a, items, n, h1, h2, h3, h5, h4⟩ := x
    exact ⟨a, items, n, h1, k _ _ h3 (by intro v e; cases e) h2, h3, h5, Reps.setF k h4⟩
theorem Reps.setF {s : Shared} {U U' : List Addr} (k : ∀ a o, s.heap.get? a = some o → (∀ v, o.data ≠ .fields v) → a ∉ U → a ∉ U') : ∀ {ps : List V} {vs : List Value}, Reps T s U vs ps → Reps T s U' vs ps
  | [], _, x => x
  | p :: ps, _, x => by
    unfold Reps at x ⊢
    obtain ⟨v, r, h1, h2, h3⟩ := x
    exact ⟨v, r, h1, Rep.setF k h2, Reps.setF k h3⟩
end
-- objects of fields turned: no name feels it
theorem Fr.other (F : Fr T c s₀ U₀ σ U env s) {W : List Addr} (hW : ∀ b ∈ W, s₀.heap.get? b = Option.none ∧ ∃ o v, s.heap.get? b = some o ∧ o.data = .fields v)
    (hk : ∀ a o, a ∉ W → s.heap.get? a = some o → s'.heap.get? a = some o) (hg : s'.gens = s.gens) (ho : s'.os = s.os) (ht : s.toks ≤ s'.toks) (hl : ∀ b ∈ W, b ∉ U) : Fr T c s₀ U₀ σ U env s' := by
  have hE : Ext s₀ s' := ⟨fun b o h => hk b o (by intro hm; have := (hW b hm).1; rw [h] at this; cases this) (F.ext.keep _ _ h), hg.trans F.ext.gens, ho.trans F.ext.os, Nat.le_trans F.ext.toks ht⟩
  obtain ⟨m, hn⟩ := F.ns
  have hLW : env.locals ∉ W := fun hm => by
    obtain ⟨o, v, h1, h2⟩ := (hW _ hm).2
    obtain ⟨o', _, _, h3, h4, _⟩ := hn
    rw [h1] at h3; cases h3; rw [h2] at h4; cases h4
  have hcW : ∀ a v, s.heap.IsCell a v → a ∉ W := fun a v hc hm => by
    obtain ⟨o, w, h1, h2⟩ := (hW _ hm).2
    obtain ⟨o', h3, h4⟩ := hc
    rw [h1] at h3; cases h3; rw [h2] at h4; cases h4
  have hlW : ∀ a it n, IsL s.heap a it n → a ∉ W := fun a it n hi hm => by
    obtain ⟨o, w, h1, h2⟩ := (hW _ hm).2
    rw [show s.heap.get? a = some _ from hi] at h1; cases h1; cases h2
  have keepC : ∀ a v, s.heap.IsCell a v → s'.heap.IsCell a v := fun a v hc => by
    have := hcW a v hc
    obtain ⟨o, h3, h4⟩ := hc
    exact ⟨o, hk _ _ this h3, h4⟩
  have hU : ∀ a o, s.heap.get? a = some o → (∀ v, o.data ≠ .fields v) → a ∉ U → a ∉ W ++ U := fun a o h hd hn hm => by
    rcases List.mem_append.mp hm with h1 | h1
    · obtain ⟨o', v, h2, h3⟩ := (hW a h1).2
      rw [h] at h2; cases h2; exact hd v h3
    · exact hn h1
  have hkU : ∀ a o, a ∉ W ++ U → s.heap.get? a = some o → s'.heap.get? a = some o := fun a o hn h => hk a o (fun e => hn (List.mem_append_left _ e)) h
  have hv : ∀ y v, HoldsVar s.heap env y v → HoldsVar s'.heap env y v := by
    intro y v h
    rcases h with ⟨h1, m', h2, h3⟩ | ⟨h1, cc, h2, h3⟩
    · exact .inl ⟨h1, m', h2.at' fun o e => hk _ o hLW e, h3⟩
    · exact .inr ⟨h1, cc, h2, keepC _ _ h3⟩
  refine { rd := ?_, base := F.base, ext := hE, nodup := F.nodup, dbg := F.dbg, inU := F.inU, old := F.old, locU := F.locU, locN := F.locN, ns := ⟨m, hn.at' fun o e => hk _ o hLW e⟩, cel := ?_, kinds := F.kinds, apart := F.apart, owned := ?_, owap := ?_ }
  · refine ⟨F.base.trans hE.keep, F.rd.kind, F.rd.names, F.rd.globals, F.rd.builtins, ?_, ?_, F.rd.glob, ?_, Nat.lt_of_lt_of_le F.rd.tok ht⟩
    · intro y p a
      obtain ⟨h3, v, h4, h5⟩ := F.rd.var y p a
      exact ⟨h3, v, hv y v h4, ((h5.setF hU).but hkU ht).sub fun a h => List.mem_append_right _ h⟩
    · intro y ps a
      obtain ⟨h3, b, it, n, h4, h5, h6, h7⟩ := F.rd.own y ps a
      exact ⟨h3, b, it, n, hv y _ h4, hk _ _ (hlW _ _ _ h5) h5, h6, (Reps.but hkU ht (h7.setF hU)).sub fun a h => List.mem_append_right _ h⟩
    · intro a ha
      obtain ⟨o, h1⟩ := F.rd.used a ha
      exact ⟨o, hk a o (fun h => hl a h ha) h1⟩
  · intro y a h
    obtain ⟨h1, h2, v, h3⟩ := F.cel y a h
    exact ⟨h1, h2, v, keepC _ _ h3⟩
  · intro y ps a h1 h2
    obtain ⟨_, b, it, n, h3, _⟩ := F.rd.own y ps h1
    have := (hv y _ h3).uniq h2; cases this
    exact F.owned y ps a h1 h3
  · intro y z ps qs a h1 h2 h3 h4
    obtain ⟨_, b, it, n, k3, _⟩ := F.rd.own y ps h1
    have := (hv y _ k3).uniq h3; cases this
    obtain ⟨_, b', it', n', l3, _⟩ := F.rd.own z qs h2
    have := (hv z _ l3).uniq h4; cases this
    exact F.owap y z ps qs _ h1 h2 k3 l3

theorem Ex1.for_ {x px iter body pos qs} (L : Nat → List Slot) (B : Nat → Option V) (hit : It T c σ iter qs) (h0 : Weak σ (L 0))
    (hbody : ∀ i q, qs[i]? = some q → (∀ j < i, B j = Option.none) → ∃ σi, Upd c.N (L i) x (.val q) σi ∧ Ex T c σi body (outOf (L (i + 1)) (B i)))
    (hs : ∀ env x, foldedSetIterable iter env x = pure x := by walk_at "r2") : Ex1 T c σ (.For (.Name x px) iter body [] pos) (outOf (L qs.length) (firstB B qs.length)) := fun A env s₀ U₀ U s O F => by
  refine wpAny_For (wpB (hit A env U s O F.rd) fun xv s1 h1 => wpB h1 fun it s2 ⟨⟨I, fp, wr, P, St, W⟩, e2⟩ => ?_) (hs env)
  obtain rfl := W.ref
  have Wk := W.walks
  have F2 : Fr T c s₀ U₀ (L 0) U env s2 := (F.of_ext e2).weak h0
  have S2 : Step U s (wr ++ U) s2 := ⟨fun a o _ h => e2.keep a o h, fun a h => by
    rcases List.mem_append.mp h with h | h
    · exact .inr (W.fresh a h)
    · exact .inl h, e2.toks⟩
  refine codeAny_forLoop (fun k s' => ∃ i U', St i s'.heap ∧ Fr T c s₀ U₀ (L i) U' env s' ∧ Step (wr ++ U) s2 U' s' ∧ (∀ b ∈ fp, b ∉ U') ∧ (∀ b ∈ fp, Live s' b) ∧ i ≤ qs.length ∧ k = qs.length + 1 - i ∧ (∀ j < i, B j = Option.none)) ?_ (qs.length + 1)
    ⟨0, U, W.start, F2, Step.sub (fun b hb => List.mem_append_right _ hb), W.apart, W.live, Nat.zero_le _, rfl, fun j hj => absurd hj (Nat.not_lt_zero j)⟩
  rintro k s' ⟨i, U', hst, F', S', hfp, hfl, hi, rfl, hB⟩
  have hW : ∀ b ∈ wr, s₀.heap.get? b = Option.none ∧ ∃ o v, s'.heap.get? b = some o ∧ o.data = .fields v := fun b hb => ⟨fresh_of F.ext (W.fresh b hb), W.lives _ _ hst b hb⟩
  by_cases hlt : i < qs.length
  · refine wpAny_with_toks (n := s'.toks) (Nat.le_refl _) (Wk.item i s' _ _ hlt hst fun v h₁ tk₁ hPv hst₁ hk₁ htk₁ => ?_)
    have hlw : ∀ b ∈ wr, Live { s' with heap := h₁, toks := tk₁ } b := fun b hb => let ⟨o, _, h, _⟩ := W.lives _ _ hst₁ b hb; ⟨o, h⟩
    have F3 := F'.other (s' := { s' with heap := h₁, toks := tk₁ }) hW hk₁ rfl rfl htk₁ fun b hb => hfp b (Wk.sub b hb)
    have S3 : Step (wr ++ U) s2 U' { s' with heap := h₁, toks := tk₁ } := ⟨fun a o hn h => hk₁ a o (fun hm => hn (List.mem_append_left _ hm)) (S'.keep a o hn h), S'.new, Nat.le_trans S'.toks htk₁⟩
    obtain ⟨q, hq, hrep⟩ := W.item i v hPv
    obtain ⟨σi, hu, hb⟩ := hbody i q hq hB
    refine wpAny_assign_Name (F3.store hu (fun s' h1 h2 _ h3 => ⟨v, h3, (S3.rep hrep).but h2 h1⟩) fun s4 F4 ht4 hk4 _ => ?_)
    have S4 : Step (wr ++ U) s2 U' s4 := S3.trans ⟨hk4, fun _ h => .inl h, ht4⟩
    refine wpAny_mono (hb A env s₀ U₀ U' s4 O F4) (fun f s5 h5 => ?_) fun _ _ e => e.elim
    cases hBi : B i with
    | some p =>
      rw [hBi] at h5
      obtain ⟨v', rfl, h6, h7⟩ := h5
      show Ends T c s₀ U₀ env U s (outOf (L qs.length) (firstB B qs.length)) (.ret v') s5
      rw [firstB_some hlt hB hBi]
      exact ⟨v', rfl, h6, h7⟩
    | none =>
      rw [hBi] at h5
      obtain ⟨rfl, U5, F5, S5⟩ := h5
      have live4 : ∀ b ∈ fp, Live s4 b := fun b hb => by
        by_cases hbw : b ∈ wr
        · obtain ⟨o, h⟩ := hlw b hbw; exact ⟨o, hk4 _ _ (hfp b hb) h⟩
        · obtain ⟨o, h⟩ := hfl b hb; exact ⟨o, hk4 _ _ (hfp b hb) (hk₁ _ _ hbw h)⟩
      refine ⟨qs.length + 1 - (i + 1), by omega, i + 1, U5, ?_, F5, S4.trans S5, ?_, ?_, hlt, rfl, ?_⟩
      · exact Wk.frame _ _ _ hst₁ fun b hb o e => S5.keep _ _ (hfp b hb) (hk4 _ _ (hfp b hb) e)
      · intro b hb hm
        rcases S5.new b hm with h | h
        · exact hfp b hb h
        · obtain ⟨o, ho⟩ := live4 b hb; rw [h] at ho; cases ho
      · intro b hb
        obtain ⟨o, ho⟩ := live4 b hb
        exact ⟨o, S5.keep _ _ (hfp b hb) ho⟩
      · intro j hj
        rcases Nat.lt_succ_iff_lt_or_eq.mp hj with h | rfl
        · exact hB j h
        · exact hBi
  · have hin : i = qs.length := by omega
    subst hin
    refine wpAny_with_toks (n := s'.toks) (Nat.le_refl _) (Wk.done s' _ _ hst fun h₁ tk₁ hk₁ htk₁ => wpAny_execs_nil ?_)
    have F3 := F'.other (s' := { s' with heap := h₁, toks := tk₁ }) hW hk₁ rfl rfl htk₁ fun b hb => hfp b (Wk.sub b hb)
    have S3 : Step (wr ++ U) s2 U' { s' with heap := h₁, toks := tk₁ } := ⟨fun a o hn h => hk₁ a o (fun hm => hn (List.mem_append_left _ hm)) (S'.keep a o hn h), S'.new, Nat.le_trans S'.toks htk₁⟩
    show Ends T c s₀ U₀ env U s (outOf (L qs.length) (firstB B qs.length)) .next _
    rw [firstB_none hB]
    exact ⟨rfl, U', F3, S2.trans S3⟩

theorem Ex1.forAll {x px iter body pos qs} (L : Nat → List Slot) (hit : It T c σ iter qs) (h0 : Weak σ (L 0))
    (hbody : ∀ i q, qs[i]? = some q → ∃ σi, Upd c.N (L i) x (.val q) σi ∧ Ex T c σi body (.next (L (i + 1))))
    (hs : ∀ env x, foldedSetIterable iter env x = pure x := by walk_at "r2") : Ex1 T c σ (.For (.Name x px) iter body [] pos) (.next (L qs.length)) := by
  have := Ex1.for_ (pos := pos) (px := px) L (fun _ => Option.none) hit h0 (fun i q h _ => hbody i q h) hs
  rw [firstB_none (fun _ _ => rfl)] at this
  exact this

-- while
theorem Ex1.while_ {test body pos} (L : Nat → List Slot) (n : Nat) (h0 : L 0 = σ) (ht : ∀ i < n, Tr T c (L i) test true) (hb : ∀ i < n, Ex T c (L i) body (.next (L (i + 1)))) (hf : Tr T c (L n) test false) :
    Ex1 T c σ (.While test body [] pos) (.next (L n)) := fun A env s₀ U₀ U s O F => by
  subst h0
  refine wpAny_While (codeAny_whileLoop (fun k s' => ∃ i U', Fr T c s₀ U₀ (L i) U' env s' ∧ Step U s U' s' ∧ i ≤ n ∧ k = n - i) ?_ n ⟨0, U, F, Step.refl, Nat.zero_le _, rfl⟩)
  rintro k s' ⟨i, U', F', S', hi, rfl⟩
  by_cases hlt : i < n
  · refine wpAny_mono (ht i hlt A env U' s' O F'.rd) (fun r s1 ⟨hr, e1⟩ => ?_) fun _ _ e => e.elim
    subst hr
    simp only [if_true]
    refine wpAny_mono (hb i hlt A env s₀ U₀ U' s1 O (F'.of_ext e1)) (fun f s2 ⟨hf, U2, F2, S2⟩ => ?_) fun _ _ e => e.elim
    subst hf
    exact ⟨n - (i + 1), by omega, i + 1, U2, F2, S'.trans ((Step.ext e1).trans S2), hlt, rfl⟩
  · have : i = n := by omega
    subst this
    refine wpAny_mono (hf A env U' s' O F'.rd) (fun r s1 ⟨hr, e1⟩ => ?_) fun _ _ e => e.elim
    subst hr
    simp only [Bool.false_eq_true, if_false]
    exact wpAny_execs_nil ⟨rfl, U', F'.of_ext e1, S'.trans (Step.ext e1)⟩

-- try, where nothing is raised
theorem Ex1.try_ {body h hs pos o} (hb : Ex T c σ body o) : Ex1 T c σ (.Try body (h :: hs) [] [] pos) o := fun A env s₀ U₀ U s O F =>
  wpAny_Try_except (wpAny_mono (hb A env s₀ U₀ U s O F) (fun f s1 h1 => by
    cases f with
    | next => exact wpAny_execs_nil h1
    | _ => exact h1) fun _ _ e => e.elim)

-- an object that may be written, of no name, turned and given up
theorem Fr.turn {w : Addr} (F : Fr T c s₀ U₀ σ ([w] ++ U) env s) {m : Str → Option Value} (hU : w ∉ U) (h0 : s₀.heap.get? w = Option.none) (hm : s.heap.Ns w m) (hL : env.locals ≠ w)
    (hk : ∀ a o, a ≠ w → s.heap.get? a = some o → s'.heap.get? a = some o) (hg : s'.gens = s.gens) (ho : s'.os = s.os) (ht : s.toks ≤ s'.toks) : Fr T c s₀ U₀ σ U env s' := by
  have hE : Ext s₀ s' := ⟨fun b o h => hk b o (by rintro rfl; rw [h] at h0; cases h0) (F.ext.keep _ _ h), hg.trans F.ext.gens, ho.trans F.ext.os, Nat.le_trans F.ext.toks ht⟩
  obtain ⟨m', hn⟩ := F.ns
  have hcw : ∀ a v, s.heap.IsCell a v → a ≠ w := fun a v hc => by rintro rfl; exact ns_not_cell hm hc
  have keepC : ∀ a v, s.heap.IsCell a v → s'.heap.IsCell a v := fun a v hc => by
    have := hcw a v hc
    obtain ⟨o, h3, h4⟩ := hc
    exact ⟨o, hk _ _ this h3, h4⟩
  have hin : ∀ a, a ∈ [w] ++ U → a ≠ w → a ∈ U := fun a h hne => (List.mem_append.mp h).elim (fun h => by simp at h; exact absurd h hne) id
  have hsub : ∀ a, a ∈ U → a ∈ [w] ++ U := fun a h => List.mem_append_right _ h
  have hkU : ∀ a o, a ∉ [w] ++ U → s.heap.get? a = some o → s'.heap.get? a = some o := fun a o hn h => hk a o (by rintro rfl; exact hn (List.mem_append_left _ (.head _))) h
  have hv : ∀ y v, HoldsVar s.heap env y v → HoldsVar s'.heap env y v := by
    intro y v h
    rcases h with ⟨h1, m', h2, h3⟩ | ⟨h1, cc, h2, h3⟩
    · exact .inl ⟨h1, m', h2.at' fun o e => hk _ o hL e, h3⟩
    · exact .inr ⟨h1, cc, h2, keepC _ _ h3⟩
  refine { rd := ?_, base := F.base, ext := hE, nodup := F.nodup, dbg := F.dbg, inU := fun a h => F.inU a (hsub a h), old := ?_, locU := hin _ F.locU hL, locN := F.locN, ns := ⟨m', hn.at' fun o e => hk _ o hL e⟩, cel := ?_, kinds := F.kinds, apart := F.apart, owned := ?_, owap := ?_ }
  · refine ⟨F.base.trans hE.keep, F.rd.kind, F.rd.names, F.rd.globals, F.rd.builtins, ?_, ?_, F.rd.glob, ?_, Nat.lt_of_lt_of_le F.rd.tok ht⟩
    · intro y p a
      obtain ⟨h3, v, h4, h5⟩ := F.rd.var y p a
      exact ⟨h3, v, hv y v h4, (h5.but hkU ht).sub hsub⟩
    · intro y ps a
      obtain ⟨h3, b, it, n, h4, h5, h6, h7⟩ := F.rd.own y ps a
      exact ⟨h3, b, it, n, hv y _ h4, hk _ _ (by rintro rfl; exact ns_not_list hm h5) h5, h6, (Reps.but hkU ht h7).sub hsub⟩
    · intro a ha
      obtain ⟨o, h1⟩ := F.rd.used a (hsub a ha)
      exact ⟨o, hk a o (by rintro rfl; exact hU ha) h1⟩
  · intro a ha
    obtain ⟨h1, h2⟩ := F.old a ha
    refine ⟨hin a h1 ?_, h2⟩
    rintro rfl
    obtain ⟨o, h⟩ := h2; rw [h0] at h; cases h
  · intro y a h
    obtain ⟨h1, h2, v, h3⟩ := F.cel y a h
    exact ⟨hin a h1 (hcw a v h3), h2, v, keepC _ _ h3⟩
  · intro y ps a h1 h2
    obtain ⟨_, b, it, n, h3, h4, _⟩ := F.rd.own y ps h1
    have := (hv y _ h3).uniq h2; cases this
    obtain ⟨h5, h6⟩ := F.owned y ps a h1 h3
    exact ⟨hin a h5 (by rintro rfl; exact ns_not_list hm h4), h6⟩
  · intro y z ps qs a h1 h2 h3 h4
    obtain ⟨_, b, it, n, k3, _⟩ := F.rd.own y ps h1
    have := (hv y _ k3).uniq h3; cases this
    obtain ⟨_, b', it', n', l3, _⟩ := F.rd.own z qs h2
    have := (hv z _ l3).uniq h4; cases this
    exact F.owap y z ps qs _ h1 h2 k3 l3

-- whether a comprehension's store is exchanged
noncomputable def swapB (nm : List (Str × NameKind)) (t : Str) (line line2 : Nat) (names : List (Str × NameKind)) : Bool :=
  nm.lookup t == some .local && line == line2 && !(names.any fun x => x.1 == t && (x.2 == .local || x.2 == .cell))
theorem swaps_eq {elt : Expr} {gs : List Comprehension} {scope : Scope} {pos : Pos} {t : Str} {p : Pos} {line : Nat} {nm} (hk : env.scope.kind = .function) (hn : env.scope.names = nm) :
    swapsWith (.ListComp elt gs scope pos) (some (.Name t p)) line env = pure (swapB nm t p.line pos.line scope.names) := by
  subst hn
  show (pure (env.blockKind == .function && env.kindOf t == some .local && p.line == pos.line && !(scope.names.any fun (n, k) => n == t && (k == .local || k == .cell))) : Sem Bool) = _
  unfold swapB Env.kindOf Env.blockKind
  rw [hk]
  rfl
-- a list made by a comprehension, named
theorem Ex1.assign_comp {elt iter : Expr} {x y : Str} {px py : Pos} {ifs : List Expr} {scope : Scope} {pos spos : Pos} {c' caps cs} {qs : List V} {t : Nat → Bool} {f : Nat → V} {σ1} (H : CompCx T c σ scope x c' caps cs)
    (hit : It T c σ iter qs) (htest : ∀ i q, qs[i]? = some q → TrIf T c' (.val q :: cs) ifs (t i)) (helt : ∀ i q, qs[i]? = some q → t i = true → Ev T c' (.val q :: cs) elt (f i))
    (hsz : qs.length ≤ 1048576) (hu : Upd c.N σ y (.val (.list (compR qs.length t f))) σ1) (hs : ∀ env x, foldedSetIterable iter env x = pure x := by walk_at "r2") :
    Ex1 T c σ (.Assign [.Name y py] (.ListComp elt [⟨.Name x px, iter, ifs, 0⟩] scope pos) spos) (.next σ1) := fun A env s₀ U₀ U s O F => by
  have hsw := swaps_eq (elt := elt) (gs := [⟨.Name x px, iter, ifs, 0⟩]) (scope := scope) (pos := pos) (t := y) (p := py) (line := spos.line) F.rd.kind F.rd.names
  cases hb : swapB c.nm y py.line pos.line scope.names with
  | false =>
    rw [hb] at hsw
    exact wpAny_Assign_Name (wpB (Ev.comp (px := px) (pos := pos) H hit htest helt hsz hs A env U s O F.rd) fun v s1 ⟨a1, e1⟩ => store_ends (F.of_ext e1) hu a1 (Step.ext e1)) hsw
  | true =>
    rw [hb] at hsw
    rw [exec_Assign_Name_used _ _ _ _ hsw]
    refine wpAny_bind (wpAny_standAt (wpAny_bind ?_))
    show wpAny _ A (do let _ ← comprehension (.ListComp elt [⟨.Name x px, iter, ifs, 0⟩] scope pos) scope env _ (newList []) false (eval iter env) (some (PySem.assign (.Name y py) env))) _ _ s
    refine wpAny_bind (wpAny_mono (comp_core (Q := fun _ s' => Ends T c s₀ U₀ env U s (.next σ1) .next s') (use := some (PySem.assign (.Name y py) env)) H hit htest helt O F.rd hsz (hs env) fun D C wr s' m' ys n hD hC hDC hl hn hr he => ?_) (fun _ s' hq => wpAny_pure (wpAny_pure hq)) fun _ _ e => e)
    have hrep : Rep T s' ([C] ++ U) (.ref D) (.list (compR qs.length t f)) := by
      unfold Rep
      refine ⟨D, ys, n, rfl, ?_, hl, Nat.le_trans (compR_len _ _ _) hsz, Reps.sub hr fun a ha => ?_⟩
      · intro hm
        rcases List.mem_append.mp hm with h | h
        · simp at h; exact hDC h
        · exact new_not F.rd.used hD h
      · rcases List.mem_append.mp ha with h | h
        · simp at h; subst h; exact .tail _ (.head _)
        · exact .tail _ (.tail _ (List.mem_append_right _ h))
    have hlC : Live s' C := by obtain ⟨o, _, _, h, _⟩ := hn; exact ⟨o, h⟩
    have F1 := F.grow he (W := [C]) (by intro b hb; simp at hb; subst hb; exact hC) (by intro b hb; simp at hb; subst hb; exact hlC)
    have S1 : Step U s ([C] ++ U) s' := ⟨fun b o _ h => he.keep b o h, fun b hb => by
      rcases List.mem_append.mp hb with h | h
      · simp at h; subst h; exact .inr hC
      · exact .inl h, he.toks⟩
    have hLC : env.locals ≠ C := by
      rintro rfl
      obtain ⟨_, o, _, _, h, _⟩ := F.ns
      rw [hC] at h; cases h
    show wpAny _ A (PySem.assign (.Name y py) env (.ref D)) _ _ s'
    refine wpAny_assign_Name (F1.store hu (fun s' h1 h2 _ h3 => ⟨_, h3, hrep.but h2 h1⟩) fun s2 F2 ht hk hst => ?_)
    have hn2 : s2.heap.Ns C m' := by
      refine hn.at' fun o e => hst C o (Ne.symm hLC) ?_ e
      intro y hy
      obtain ⟨_, _, v, o', h1, h2⟩ := F.cel y C hy
      rw [hC] at h1; cases h1
    refine ⟨m', hn2, fun h' hs' => ?_⟩
    have F3 := F2.turn (s' := { s2 with heap := h' }) (w := C) (new_not F.rd.used hC) (fresh_of F.ext hC) hn2 hLC (fun a o h e => hs'.extBut a o h e) rfl rfl (Nat.le_refl _)
    refine ⟨rfl, _, F3, S1.trans ((⟨hk, fun _ h => .inl h, ht⟩ : Step ([C] ++ U) s' ([C] ++ U) s2).trans ⟨fun a o hn e => hs'.extBut a o (by rintro rfl; exact hn (List.mem_append_left _ (.head _))) e, fun _ h => .inl (List.mem_append_right _ h), Nat.le_refl _⟩)⟩
end
section
open PySem PySem.W PyProof.Rows
open PySem.Builtin PySem.Builtin.Str
set_option Elab.async false
set_option linter.unusedVariables false
variable {T : TC} {c : Cx} {σ σ' : List Slot}

-- a frame made; one parameter that no inner scope sees draws a sign
theorem newEnv_toks {M : Model} {A : Around} {E : Value → Shared → Prop} {s : Shared} {scope : Scope} {globals : Addr} {binds : List (Str × Value)} {qual : Str} {func : Option Addr} {code : Value} {builtins : Addr} {Q : Env → Shared → Prop}
    (hk : scope.kind = .function)
    (hkind : ∀ x ∈ binds, scope.names.lookup x.1 = some .local ∨ (scope.names.lookup x.1 = some .cell ∧ ((cellsFrom (s.heap.objs.size + 1) scope.names []).lookup x.1).isSome = true))
    (hQ : ∀ env, env = newEnv scope s.heap.objs.size globals (cellsFrom (s.heap.objs.size + 1) scope.names []) qual func code Option.none builtins →
      ∀ s', InCallC s env.locals (bindL env.kindOf binds fun _ => Option.none) env.cells (bindC env.kindOf binds fun _ => Option.none) s' → s.toks ≤ s'.toks → (∀ n v, binds = [(n, v)] → scope.names.lookup n = some .local → s.toks < s'.toks) → Q env s') :
    wpAny M A (newFunctionEnv scope globals [] binds qual func code Option.none builtins) Q E s := by
  by_cases h1 : ∃ n v, binds = [(n, v)] ∧ scope.names.lookup n = some .local
  · obtain ⟨n, v, rfl, hl⟩ := h1
    simp only [newFunctionEnv, Option.isSome_none, Bool.false_eq_true, if_false]
    refine wpAny_bind (wpAny_alloc (wpAny_bind (wpAny_layCells _ (fun name kind cells => by cases hkc : kind == NameKind.cell <;> simp [hkc]) _ _ _ _ ?_)))
    have ok := cellsFrom_ok scope.names (s.heap.push { cls := .type "frame", data := .dict #[] }) (s.heap.objs.size + 1) [] ⟨fun _ _ hm => (nomatch hm), List.Pairwise.nil⟩ (by rw [Heap.size_push]; exact Nat.le_refl _)
    have hsz : ({ s with heap := s.heap.push { cls := .type "frame", data := .dict #[] } } : Shared).heap.objs.size = s.heap.objs.size + 1 := Heap.size_push ..
    rw [Heap.size_push] at ok
    rw [hsz]
    generalize hH : pushCells (s.heap.push { cls := .type "frame", data := .dict #[] }) scope.names = H at ok ⊢
    have hold : ∀ b o, (s.heap.push { cls := .type "frame", data := .dict #[] }).get? b = some o → H.get? b = some o := fun b o e => hH ▸ pushCells_keeps _ _ b o e
    have hns : H.Ns s.heap.objs.size fun _ => Option.none := (Heap.Ns.new s.heap (.type "frame")).keeps hold
    refine wpAny_bind ?_
    rw [List.forIn_cons]
    refine wpAny_bind (wpAny_bind (wpAny_storeName_local hl hns (fun h' hn' hs' => wpAny_pure ?_) (by simp only [hk]; rfl)))
    dsimp only
    rw [List.forIn_nil]
    refine wpAny_pure (wpAny_pure (hQ _ rfl _ ⟨⟨⟨_, _, rfl⟩, ?_, fun b o e => ?_, Nat.le_refl _⟩, fun k c hc => ?_, ok.apart, fun k c hm => (ok.empty k c hm).2⟩ (Nat.le_succ _) fun _ _ _ _ => Nat.lt_succ_self _))
    · show h'.Ns _ (bindL _ [(n, v)] _)
      unfold bindL
      rw [if_pos (show (newEnv scope s.heap.objs.size globals (cellsFrom (s.heap.objs.size + 1) scope.names []) qual func code Option.none builtins).kindOf n = some .local from hl)]
      exact hn'
    · exact hs'.extBut b o (Nat.ne_of_lt (Heap.lt_size e)) (hold _ _ (Heap.get?_push_of_some _ e))
    · show h'.IsCell c (bindC _ [(n, v)] _ k)
      unfold bindC
      rw [if_pos (show (newEnv scope s.heap.objs.size globals (cellsFrom (s.heap.objs.size + 1) scope.names []) qual func code Option.none builtins).kindOf n = some .local from hl)]
      obtain ⟨h3, h4⟩ := ok.empty k c (mem_of_lookup hc)
      exact h3.sameBut hs' (Nat.ne_of_gt h4)
  · refine wpAny_with_toks (Nat.le_refl _) (wpAny_newFunctionEnv_cells hk hkind fun env he s' x htk => hQ env he s' x htk fun n v hb hl => absurd ⟨n, v, hb, hl⟩ h1)
theorem call_cells {prog : Program} {w : World} {A : Around} {s : Shared} {R : Result → Shared → Prop} {a : Addr} {o : Obj} {fd : FuncData} {body : List Stmt} {vals : List Value} {binds : List (Str × Value)}
    (hroom : A.depth < recursionLimit) (ho : s.heap.get? a = some o) (hdata : o.data = .func fd) (hlim : s.heap.NoLimit) (hcd : s.heap.CodeRec fd.code fd.qualname)
    (hbody : fd.body = .stmts body) (hbind : bindArgs fd ⟨vals, []⟩ = pure binds) (hclo : fd.closure = [])
    (hkind : ∀ x ∈ binds, fd.scope.names.lookup x.1 = some .local ∨ (fd.scope.names.lookup x.1 = some .cell ∧ ((cellsFrom (s.heap.objs.size + 1) fd.scope.names []).lookup x.1).isSome = true))
    (h : ∀ s₁, InCallC s (callEnvC fd s.heap.objs.size a).locals (bindL (callEnvC fd s.heap.objs.size a).kindOf binds fun _ => Option.none) (callEnvC fd s.heap.objs.size a).cells
        (bindC (callEnvC fd s.heap.objs.size a).kindOf binds fun _ => Option.none) s₁ → s.toks ≤ s₁.toks → (∀ n v, binds = [(n, v)] → fd.scope.names.lookup n = some .local → s.toks < s₁.toks) →
      wpAny (model prog w) (A.deeper (callEnvC fd s.heap.objs.size a)) (execs body (callEnvC fd s.heap.objs.size a)) (fun f s' => R (.ok (.ret (match f with | .ret v => v | _ => .none))) s')
        (fun e s' => wpAny (model prog w) (A.deeper (callEnvC fd s.heap.objs.size a)) (leaving (callEnvC fd s.heap.objs.size a) e) (fun _ s'' => R (.error e) s'') (fun e' s'' => R (.error e') s'') s') s₁)
    (hco : fd.scope.isCoroutine = false) (hgen : fd.scope.isGenerator = false) (hk : fd.scope.kind = .function) :
    codeAny (model prog w) A (.call (.ref a) ⟨vals, []⟩) R s := by
  refine codeAny_call_function hroom ho hdata hco hgen hbody hcd ?_
  rw [hbind, hclo]
  refine wpAny_pure (newEnv_toks hk hkind fun env he s' x htk htk1 => ?_)
  subst he
  exact ⟨hlim.keeps x.toInCall.keep, codeAny_func (h s' x htk htk1)⟩

theorem bindL_other {k : Str → Option NameKind} : ∀ {binds : List (Str × Value)} {m : Str → Option Value} {x : Str}, x ∉ binds.map (·.1) → bindL k binds m x = m x
  | [], m, x, _ => rfl
  | (n, v) :: r, m, x, h => by
    rw [List.map_cons, List.mem_cons, not_or] at h
    show bindL k r (if k n = some .local then _ else m) x = m x
    rw [bindL_other h.2]
    split
    · simp [h.1]
    · rfl
theorem bindC_other {k : Str → Option NameKind} : ∀ {binds : List (Str × Value)} {m : Str → Option Value} {x : Str}, x ∉ binds.map (·.1) → bindC k binds m x = m x
  | [], m, x, _ => rfl
  | (n, v) :: r, m, x, h => by
    rw [List.map_cons, List.mem_cons, not_or] at h
    show bindC k r (if k n = some .local then m else _) x = m x
    rw [bindC_other h.2]
    split
    · rfl
    · simp [h.1]
theorem bindL_of {k : Str → Option NameKind} : ∀ {binds : List (Str × Value)} {m : Str → Option Value} {x : Str} {v : Value}, (binds.map (·.1)).Nodup → (x, v) ∈ binds → k x = some .local → bindL k binds m x = some v
  | (n, u) :: r, m, x, v, hn, hm, hk => by
    rw [List.map_cons, List.nodup_cons] at hn
    show bindL k r (if k n = some .local then _ else m) x = some v
    rcases List.mem_cons.mp hm with e | hm
    · cases e
      rw [bindL_other hn.1, if_pos hk]; simp
    · exact bindL_of hn.2 hm hk
theorem bindC_of {k : Str → Option NameKind} : ∀ {binds : List (Str × Value)} {m : Str → Option Value} {x : Str} {v : Value}, (binds.map (·.1)).Nodup → (x, v) ∈ binds → k x ≠ some .local → bindC k binds m x = some v
  | (n, u) :: r, m, x, v, hn, hm, hk => by
    rw [List.map_cons, List.nodup_cons] at hn
    show bindC k r (if k n = some .local then m else _) x = some v
    rcases List.mem_cons.mp hm with e | hm
    · cases e
      rw [bindC_other hn.1, if_neg hk]; simp
    · exact bindC_of hn.2 hm hk
theorem cells_have : ∀ {names : List (Str × NameKind)} {n : Nat} {acc : List (Str × Addr)} {x : Str}, names.lookup x = some .cell ∨ (acc.lookup x).isSome = true → ((cellsFrom n names acc).lookup x).isSome = true
  | [], n, acc, x, h => by
    rcases h with h | h
    · simp at h
    · exact h
  | (y, k) :: r, n, acc, x, h => by
    unfold cellsFrom
    split
    · rename_i hk
      refine cells_have ?_
      rcases h with h | h
      · rw [List.lookup_cons] at h
        cases hx : x == y with
        | true => exact .inr (by rw [List.lookup_cons, hx]; rfl)
        | false => rw [hx] at h; exact .inl h
      · refine .inr ?_
        rw [List.lookup_cons]
        cases x == y <;> simp_all
    · rename_i hk
      refine cells_have ?_
      rcases h with h | h
      · rw [List.lookup_cons] at h
        cases hx : x == y with
        | true => rw [hx] at h; simp at h; subst h; simp at hk
        | false => rw [hx] at h; exact .inl h
      · exact .inr h

theorem at_params : ∀ {xs ys : List Str} {as : List V} {n : Nat} {x : Str} {p : V}, xs.length = as.length → At (xs ++ ys) (as.map .val ++ List.replicate n .dead) x (.val p) → ∃ i : Nat, xs[i]? = some x ∧ as[i]? = some p
  | [], ys, [], n, x, p, _, h => by
    exfalso
    simp only [List.map_nil, List.nil_append] at h
    generalize hr : List.replicate n Slot.dead = r at h
    have hd : ∀ sl ∈ r, sl = .dead := fun sl hm => by rw [← hr] at hm; exact (List.mem_replicate.mp hm).2
    clear hr
    induction ys generalizing r with
    | nil => cases h
    | cons y ys ih =>
      cases h with
      | here => have := hd _ (.head _); cases this
      | there h => exact ih _ h fun sl hm => hd sl (.tail _ hm)
  | y :: xs, ys, a :: as, n, x, p, hl, h => by
    simp only [List.map_cons, List.cons_append] at h
    cases h with
    | here => exact ⟨0, rfl, rfl⟩
    | there h =>
      obtain ⟨i, h1, h2⟩ := at_params (by simpa using hl) h
      exact ⟨i + 1, h1, h2⟩
theorem at_params_own : ∀ {xs ys : List Str} {as : List V} {n : Nat} {x : Str} {ps : List V}, xs.length = as.length → At (xs ++ ys) (as.map .val ++ List.replicate n .dead) x (.own ps) → False
  | [], ys, [], n, x, p, _, h => by
    simp only [List.map_nil, List.nil_append] at h
    generalize hr : List.replicate n Slot.dead = r at h
    have hd : ∀ sl ∈ r, sl = .dead := fun sl hm => by rw [← hr] at hm; exact (List.mem_replicate.mp hm).2
    clear hr
    induction ys generalizing r with
    | nil => cases h
    | cons y ys ih =>
      cases h with
      | here => have := hd _ (.head _); cases this
      | there h => exact ih _ h fun sl hm => hd sl (.tail _ hm)
  | y :: xs, ys, a :: as, n, x, p, hl, h => by
    simp only [List.map_cons, List.cons_append] at h
    cases h with
    | there h => exact at_params_own (by simpa using hl) h

structure FnCx (T : TC) (d : DefRec) (c : Cx) (params rest : List Str) : Prop where
  mem : d ∈ recsOf T.view
  nm : c.nm = d.scope.names
  N : c.N = params ++ rest
  nodup : c.N.Nodup
  dbg : ∀ x ∈ c.N, (x == ("__debug__" : Str)) = false
  kinds : ∀ x ∈ c.N, c.nm.lookup x = some .local ∨ c.nm.lookup x = some .cell
  kind : d.scope.kind = .function
  co : d.scope.isCoroutine = false
  gen : d.scope.isGenerator = false
  glob : ∀ x p, AtG c.G x p → (x == ("__debug__" : Str)) = false ∧ c.nm.lookup x = some .globalImplicit ∧ ∃ v, (T.mg x = some v ∨ (T.mg x = Option.none ∧ T.mb x = some v)) ∧ ∀ s U, Rep T s U v p
  bind : ∀ pm code doc vals, vals.length = params.length → bindArgs (Calls.docDef d.name d.params d.body d.scope pm code doc) ⟨vals, []⟩ = pure (params.zip vals)

theorem Cal.run {T : TC} {dd : Nat} {d : DefRec} {c : Cx} {params rest : List Str} (H : FnCx T d c params rest) {ps : List V} {q : V} (hps : params.length = ps.length) (hd : c.d + 1 ≤ dd)
    (hb : Ex T c (ps.map .val ++ List.replicate rest.length .dead) d.body (.ret q)) {A : Around} {U : List Addr} {s : Shared} {a : Addr} {args : List Value} (O : Ok dd A) (htop : Keeps T.h₀ s.heap) (hused : ∀ b ∈ U, Live s b)
    (hmg : T.mg d.name = some (.ref a)) (hr : Reps T s U args ps) (htok : 0 < s.toks ∨ ∃ n, params = [n] ∧ d.scope.names.lookup n = some .local) :
    wpAny (model T.prog T.w) A (call (.ref a) args) (fun v s' => Rep T s' U v q ∧ Ext s s') (fun _ _ => False) s := by
  obtain ⟨a', o, pm, code, doc, h1, h2, h3, h4⟩ := T.top.fn d H.mem
  rw [hmg] at h1; cases h1
  have hlen : args.length = params.length := by rw [hps]; exact hr.length
  have O1 := O.mono hd
  refine wpAny_call (call_cells (fd := Calls.docDef d.name d.params d.body d.scope pm code doc) (by have := O1.depth; show A.depth < 1000; omega) (htop _ _ h2) h3 (T.top.nolimit.keeps htop) (h4.keeps htop) rfl (H.bind pm code doc args hlen) rfl ?_ (fun s₁ x htk htk1 => ?_) H.co H.gen H.kind)
  · intro y hy
    have hy1 : y.1 ∈ c.N := by rw [H.N]; exact List.mem_append_left _ (List.of_mem_zip hy).1
    rcases H.kinds y.1 hy1 with h | h
    · exact .inl (by rw [H.nm] at h; exact h)
    · rw [H.nm] at h
      exact .inr ⟨h, cells_have (.inl h)⟩
  · generalize hE : callEnvC (Calls.docDef d.name d.params d.body d.scope pm code doc) s.heap.objs.size a = env at x
    have en : env.scope.names = c.nm := by rw [← hE, H.nm]; rfl
    have ek : env.scope.kind = .function := by rw [← hE]; exact H.kind
    have eg : env.globals = mainGlobals := by rw [← hE]; rfl
    have eb : env.builtins = builtinsNs := by rw [← hE]; rfl
    have eL : env.locals = s.heap.objs.size := by rw [← hE]; rfl
    have ec : env.cells = cellsFrom (s.heap.objs.size + 1) d.scope.names [] := by rw [← hE]; rfl
    have kof : ∀ y, env.kindOf y = c.nm.lookup y := fun y => by unfold Env.kindOf; rw [en]
    have e1 : Ext s s₁ := by
      obtain ⟨h, tk, e⟩ := x.toInCall.same
      exact ⟨x.toInCall.keep, by rw [e], by rw [e], htk⟩
    have htok1 : 0 < s₁.toks := by
      rcases htok with h | ⟨n, hn, hl⟩
      · exact Nat.lt_of_lt_of_le h htk
      · subst hn
        match args, hlen with
        | [v], _ => exact Nat.lt_of_le_of_lt (Nat.zero_le _) (htk1 n v rfl hl)
    have hcellOf : ∀ y b, env.cells.lookup y = some b → s.heap.get? b = Option.none ∧ ∃ v, s₁.heap.IsCell b v := by
      intro y b h
      refine ⟨get_ge ?_, _, x.cell y b h⟩
      have := x.above y b (mem_of_lookup h)
      rw [eL] at this
      exact Nat.le_of_lt this
    have hnodup : ((params.zip args).map (·.1)).Nodup := by
      have : (params.zip args).map (·.1) = params := by rw [List.map_fst_zip]; omega
      rw [this]
      have := H.nodup; rw [H.N] at this
      exact (List.nodup_append.mp this).1
    have F : Fr T c s U (ps.map .val ++ List.replicate rest.length .dead) (env.locals :: (env.cells.filterMap (fun e => env.cells.lookup e.1) ++ U)) env s₁ := by
      have hnew : ∀ b ∈ env.cells.filterMap (fun e => env.cells.lookup e.1), s.heap.get? b = Option.none ∧ Live s₁ b := by
        intro b hb
        obtain ⟨⟨y, b'⟩, h1, h2⟩ := List.mem_filterMap.mp hb
        obtain ⟨h3, v, o, h4, _⟩ := hcellOf y b h2
        exact ⟨h3, o, h4⟩
      have hU : ∀ b o, s.heap.get? b = some o → b ∉ U → b ∉ env.locals :: (env.cells.filterMap (fun e => env.cells.lookup e.1) ++ U) := by
        intro b o h hn hm
        rcases List.mem_cons.mp hm with rfl | hm
        · rw [eL, get_size] at h; cases h
        rcases List.mem_append.mp hm with hm | hm
        · rw [(hnew b hm).1] at h; cases h
        · exact hn hm
      have hown : ∀ y ps', ¬ At c.N (ps.map .val ++ List.replicate rest.length .dead) y (.own ps') := fun y ps' h => by rw [H.N] at h; exact at_params_own hps h
      refine { rd := ⟨htop.trans e1.keep, ek, en, eg, eb, ?_, fun y qs h => absurd h (hown y qs), ?_, ?_, htok1⟩, base := htop, ext := e1, nodup := H.nodup, dbg := H.dbg, inU := ?_, old := fun b hb => ⟨.tail _ (List.mem_append_right _ hb), hused b hb⟩, locU := .head _, locN := by rw [eL]; exact get_size _, ns := ⟨_, x.toInCall.ns⟩, cel := ?_, kinds := ?_, apart := ?_, owned := fun y qs _ h => absurd h (hown y qs), owap := fun y _ qs _ _ h => absurd h (hown y qs) }
      · intro y p h
        refine ⟨H.dbg y h.mem, ?_⟩
        have hyN := h.mem
        rw [H.N] at h
        obtain ⟨i, h1, h2⟩ := at_params hps h
        obtain ⟨v, h3, h4⟩ := hr.get h2
        have hz : (y, v) ∈ params.zip args := by
          refine List.mem_iff_getElem?.mpr ⟨i, ?_⟩
          rw [List.getElem?_zip_eq_some]; exact ⟨h1, h3⟩
        refine ⟨v, ?_, (h4.set hU).ext e1⟩
        rcases H.kinds y hyN with k | k
        · exact .inl ⟨by rw [kof]; exact k, _, x.toInCall.ns, bindL_of hnodup hz (by rw [kof]; exact k)⟩
        · have hsome : (env.cells.lookup y).isSome = true := by rw [ec]; exact cells_have (.inl (by rw [← H.nm]; exact k))
          obtain ⟨b, hb⟩ := Option.isSome_iff_exists.mp hsome
          refine .inr ⟨by rw [kof]; exact k, b, hb, ?_⟩
          have := x.cell y b hb
          rw [bindC_of hnodup hz (by rw [kof, k]; simp)] at this
          exact this
      · intro y p h
        obtain ⟨h1, h2, v, h3, h4⟩ := H.glob y p h
        exact ⟨h1, v, ⟨by rw [kof]; exact h2, h3⟩, h4⟩
      · intro b hb
        rcases List.mem_cons.mp hb with rfl | hb
        · obtain ⟨o, _, _, h, _⟩ := x.toInCall.ns; exact ⟨o, h⟩
        rcases List.mem_append.mp hb with hb | hb
        · exact (hnew b hb).2
        · exact (hused b hb).ext e1
      · intro b hb
        rcases List.mem_cons.mp hb with rfl | hb
        · exact .inr (by rw [eL]; exact get_size _)
        rcases List.mem_append.mp hb with hb | hb
        · exact .inr (hnew b hb).1
        · exact .inl hb
      · intro y b h
        obtain ⟨h1, h2⟩ := hcellOf y b h
        exact ⟨.tail _ (List.mem_append_left _ (List.mem_filterMap.mpr ⟨(y, b), mem_of_lookup h, h⟩)), h1, h2⟩
      · intro y hy
        rcases H.kinds y hy with k | k
        · exact .inl (by rw [kof]; exact k)
        · refine .inr ⟨by rw [kof]; exact k, ?_⟩
          have hsome : (env.cells.lookup y).isSome = true := by rw [ec]; exact cells_have (.inl (by rw [← H.nm]; exact k))
          exact Option.isSome_iff_exists.mp hsome
      · intro y z b h1 h2
        exact name_of_addr x.apart (mem_of_lookup h1) (mem_of_lookup h2)
    subst hE
    refine wpAny_mono (hb _ _ s U _ s₁ O1.deeper F) (fun f s' h => ?_) fun _ _ e => e.elim
    obtain ⟨v, rfl, h5, h6⟩ := h
    exact ⟨h5, h6⟩
theorem Cal.of {d : DefRec} {c : Cx} {params rest : List Str} (H : FnCx T d c params rest) {ps : List V} {q : V} (hps : params.length = ps.length) (hd : c.d + 1 ≤ dd)
    (hb : Ex T c (ps.map .val ++ List.replicate rest.length .dead) d.body (.ret q)) : Cal T dd d.name ps q :=
  fun A U s a args O S hmg hr => Cal.run H hps hd hb O S.top S.used hmg hr (.inl S.tok)
end
section
open PySem PySem.W PyProof.Rows
open PySem.Builtin PySem.Builtin.Str
set_option Elab.async false
set_option linter.unusedVariables false
variable {T : TC} {c : Cx} {σ σ' : List Slot}
variable {s₀ s s' : Shared} {U₀ U : List Addr} {env : Env}

noncomputable def Ip2 (T : TC) (op : Operator) (p q r : V) : Prop :=
  ∀ A U s va vb, Ok 0 A → Su T U s → Rep T s U va p → Rep T s U vb q → wpAny (model T.prog T.w) A (inplaceOp op va vb) (fun v s' => Rep T s' U v r ∧ Ext s s') (fun _ _ => False) s
theorem Ip2.add {a b : Int} : Ip2 T .Add (.int a) (.int b) (.int (a + b)) := by
  intro A U s va vb O S x y
  obtain ⟨t, rfl⟩ := rep_int x; obtain ⟨u, rfl⟩ := rep_int y
  exact P.iadd_int ⟨Rep.int_, Ext.toks' s⟩
theorem Ip2.sub {a b : Int} : Ip2 T .Sub (.int a) (.int b) (.int (a - b)) := by
  intro A U s va vb O S x y
  obtain ⟨t, rfl⟩ := rep_int x; obtain ⟨u, rfl⟩ := rep_int y
  exact P.isub_int ⟨Rep.int_, Ext.toks' s⟩

theorem EvN.listrange {f p e pos a b d} {n : Nat} (hf : Ev T c σ (.Name f p) (.raw (.type "list"))) (h : Rn T c σ e a b d) (hsm : Builtin.Range.small a b d = true) (hn : Builtin.Range.rangeSize a b d = n) (hlen : n ≤ 1048576)
    (hs : ∀ env, backTo pos (starEach [e] env) = [(false, eval e env)] := by walk_at "r1") : EvN T c σ (.Call (.Name f p) [e] [] pos) ((List.range n).map fun (i : Nat) => .int (a + i * d)) := fun A env U s O R => by
  show wpAny _ A (do callWith pos (← eval (.Name f p) env) [] (backTo pos (starEach [e] env)) (backToKw pos (keywordEach [] env))) _ _ s
  refine wpAny_bind (wpB (hf A env U s O R) fun v s1 ⟨a1, e1⟩ => ?_)
  unfold Rep at a1
  subst a1
  rw [hs]
  refine PySem.callWith_type rfl (Calls.evalArgs_plain (Calls.spliced_cons (wpB (h A env U s1 O (R.ext e1)) fun v2 s2 ⟨a2, e2⟩ => Calls.spliced_nil ?_)))
  obtain ⟨r, t, u, w, rfl, hr, hfr⟩ := a2
  have e12 := e1.trans e2
  refine wpB (ext_of (P := fun v s' => NewL T s U ((List.range n).map fun (i : Nat) => V.int (a + i * d)) v s') (call_list_range O.handled hr hsm hn (by omega) fun h' tk acc' c' hk hS' hacc _ => ⟨?_, Ext0.of hk⟩)) fun v s' ⟨h1, h2⟩ => ⟨h1, e12.trans h2⟩
  refine ⟨_, acc', c', rfl, fresh_size e12, hS', by simpa using hlen, by simp [V.flat], ?_⟩
  obtain ⟨hsz, hit⟩ := hacc
  have key : ∀ (k : Nat) (l : List Value), l = acc'.toList.drop k → Reps T { s2 with heap := h', toks := tk } U l (((List.range n).drop k).map fun (i : Nat) => V.int (a + i * d)) := by
    intro k l
    induction l generalizing k with
    | nil =>
      intro hl
      have : n ≤ k := by
        have := congrArg List.length hl
        simp at this; omega
      rw [List.drop_eq_nil_of_le (by simpa using this)]
      exact Reps.nil
    | cons v l ih =>
      intro hl
      have hk : k < n := by
        have := congrArg List.length hl
        simp at this; omega
      have hv : acc'[k]? = some v := by
        have : (acc'.toList.drop k)[0]? = some v := by rw [← hl]; rfl
        simpa using this
      obtain ⟨t', rfl⟩ := hit k v hv
      rw [List.drop_eq_getElem_cons (by simpa using hk)]
      simp only [List.map_cons, List.getElem_range]
      refine Reps.cons Rep.int_ (ih (k + 1) ?_)
      have : l = (acc'.toList.drop k).drop 1 := by rw [← hl]; rfl
      rw [this, List.drop_drop]
  exact key 0 _ rfl

-- two names at once, exchanged stores
theorem Ex1.tuple2 {x y : Str} {px py : Pos} {k tp e1 e2 k' vp pos p q σ1 σ2} (h1 : Ev T c σ e1 p) (h2 : Ev T c σ e2 q) (hu1 : Upd c.N σ y (.val q) σ1) (hu2 : Upd c.N σ1 x (.val p) σ2)
    (hw : ∀ env, env.scope.kind = .function → env.scope.names = c.nm → swappedStores [Expr.Tuple [Expr.Name x px, Expr.Name y py] k tp] (Expr.Tuple [e1, e2] k' vp) env = pure (some [x, y]))
    (hb : ∀ env, backTo vp (starEach [e1, e2] env) = [e1, e2].map fun e => (false, eval e env) := by walk_at "r1") :
    Ex1 T c σ (.Assign [Expr.Tuple [Expr.Name x px, Expr.Name y py] k tp] (Expr.Tuple [e1, e2] k' vp) pos) (.next σ2) := fun A env s₀ U₀ U s O F => by
  rw [exec_Assign_arm]
  refine wpAny_bind (wpAny_standAt ?_)
  rw [show swapsWithSole [Expr.Tuple [Expr.Name x px, Expr.Name y py] k tp] (Expr.Tuple [e1, e2] k' vp) pos.line env = pure false from rfl]
  refine wpAny_bind (wpAny_pure ?_)
  rw [if_neg (by decide)]
  refine wpAny_bind (wpAny_Tuple (spl (hb env) (wpB (EvL.cons h1 (EvL.cons h2 EvL.nil) A env U s O F.rd) fun vs s1 ⟨a1, e1'⟩ => ?_)))
  obtain ⟨v, w, rfl, r1, r2⟩ := reps2 a1
  refine ⟨Nat.le_of_ble_eq_true rfl, ?_⟩
  rw [hw env F.rd.kind F.rd.names]
  refine wpAny_bind (wpAny_pure ?_)
  have E1 : Ext s1 { s1 with heap := s1.heap.push { cls := .type "tuple", data := .seq [v, w].toArray } } := Ext.push' s1 _
  show wpAny _ A (do rule "assign.swapped-stores"; let items ← unpackItems (.ref s1.heap.objs.size) [x, y].length Option.none; assignInOrder ([x, y].reverse.map fun n => bindName env n) items.reverse; pure Flow.next) _ _ _
  refine wpAny_bind (wpAny_rule (wpAny_bind (wpAny_unpackItems_tuple (items := [v, w].toArray) O.handled ⟨_, Heap.get?_push_size _ rfl, rfl, 0, rfl⟩ fun h' he' => ?_)))
  have E2 : Ext { s1 with heap := s1.heap.push { cls := .type "tuple", data := .seq [v, w].toArray } } { s1 with heap := h' } := Ext.of (s := { s1 with heap := s1.heap.push { cls := .type "tuple", data := .seq [v, w].toArray } }) (fun b o hb => he' b o (Nat.ne_of_lt (Heap.lt_size hb)) hb)
  have E := (e1'.trans E1).trans E2
  have E12 := E1.trans E2
  show wpAny _ A (do assignInOrder [bindName env y, bindName env x] [w, v]; pure Flow.next) _ _ _
  have F1 := F.of_ext E
  refine wpAny_bind ?_
  show wpAny _ A (do holding [v] (bindName env y w); assignInOrder [bindName env x] [v]) _ _ _
  refine wpAny_bind (wpAny_holding (wpAny_bindName (F1.store hu1 (fun s' k1 k2 _ k3 => ⟨w, k3, (r2.ext E12).but k2 k1⟩) fun s2 F2 ht hk _ => ?_)))
  show wpAny _ A (do holding [] (bindName env x v); assignInOrder [] []) _ _ _
  refine wpAny_bind (wpAny_holding (wpAny_bindName (F2.store hu2 (fun s' k1 k2 _ k3 => ⟨v, k3, ((r1.ext E12).but hk ht).but k2 k1⟩) fun s3 F3 ht3 hk3 _ => ?_)))
  exact wpAny_pure (wpAny_pure ⟨rfl, U, F3, (Step.ext E).trans ((⟨hk, fun _ h => .inl h, ht⟩ : Step U { s1 with heap := h' } U s2).trans ⟨hk3, fun _ h => .inl h, ht3⟩)⟩)
end
section
open PySem PySem.W PyProof.Rows
open PySem.Builtin PySem.Builtin.Str
set_option Elab.async false
set_option linter.unusedVariables false
variable {T : TC} {c : Cx} {σ σ' : List Slot}
theorem bits_small {b : Int} (h : -1000000000000 ≤ b ∧ b ≤ 1000000000000) : Builtin.Int.intBits b ≤ 64 := by
  unfold Builtin.Int.intBits
  split
  · omega
  · have hb : b.natAbs < 2 ^ 60 := by have : (2:Nat)^60 = 1152921504606846976 := rfl; omega
    by_cases h0 : b.natAbs = 0
    · rw [h0]; decide
    · have := (Nat.log2_lt h0).mpr hb
      omega
theorem Op2.mulr {a b : Int} (h : -1000000000000 ≤ b ∧ b ≤ 1000000000000) : Op2 T .Mult (.int a) (.int b) (.int (a * b)) := Op2.mul (.of_right (bits_small h))
theorem Op2.mull {a b : Int} (h : -1000000000000 ≤ a ∧ a ≤ 1000000000000) : Op2 T .Mult (.int a) (.int b) (.int (a * b)) := Op2.mul (.of_left (bits_small h))
theorem Op2.mod' {a b : Int} (h : 0 < b) : Op2 T .Mod (.int a) (.int b) (.int (a % b)) := by
  have := Op2.mod (T := T) (a := a) (b := b) (by omega)
  rwa [Int.fmod_eq_emod_of_nonneg _ (by omega)] at this
theorem Op2.div' {a b : Int} (h : 0 < b) (h2 : b ≤ 1000000000) : Op2 T .FloorDiv (.int a) (.int b) (.int (a / b)) := by
  have := Op2.div (T := T) (a := a) (b := b) (by omega) (PyProof.noPylong_small (by omega))
  rwa [Int.fdiv_eq_ediv_of_nonneg _ (by omega)] at this
end
section
open PySem PySem.W PyProof.Rows
set_option Elab.async false
set_option linter.unusedVariables false
variable {T : TC} {c : Cx} {σ σ' : List Slot}
theorem Ex.for_ {x px iter body pos qs rest o} (L : Nat → List Slot) (B : Nat → Option V) (hit : It T c σ iter qs) (h0 : Weak σ (L 0))
    (hbody : ∀ i q, qs[i]? = some q → (∀ j < i, B j = none) → ∃ σi, Upd c.N (L i) x (.val q) σi ∧ Ex T c σi body (outOf (L (i + 1)) (B i)))
    (hn : firstB B qs.length = none → Ex T c (L qs.length) rest o) (hr : ∀ p, firstB B qs.length = some p → o = .ret p)
    (hs : ∀ env x, foldedSetIterable iter env x = pure x := by walk_at "r2") : Ex T c σ (.For (.Name x px) iter body [] pos :: rest) o := by
  have h := Ex1.for_ (pos := pos) (px := px) L B hit h0 hbody hs
  cases hB : firstB B qs.length with
  | none => rw [hB] at h; exact Ex.cons h (hn hB)
  | some p => rw [hB] at h; rw [hr p hB]; exact Ex.ret h
theorem Ex.forAll {x px iter body pos qs rest o} (L : Nat → List Slot) (hit : It T c σ iter qs) (h0 : Weak σ (L 0))
    (hbody : ∀ i q, qs[i]? = some q → ∃ σi, Upd c.N (L i) x (.val q) σi ∧ Ex T c σi body (.next (L (i + 1))))
    (hn : Ex T c (L qs.length) rest o)
    (hs : ∀ env x, foldedSetIterable iter env x = pure x := by walk_at "r2") : Ex T c σ (.For (.Name x px) iter body [] pos :: rest) o :=
  Ex.cons (Ex1.forAll L hit h0 hbody hs) hn
end
section
set_option Elab.async false
set_option linter.unusedVariables false
-- the plain distance
noncomputable def cpl : List Nat → List Nat → Nat
  | x :: xs, y :: ys => if x = y then cpl xs ys + 1 else 0
  | _, _ => 0
noncomputable def mn2 (a b : Int) : Int := if b < a then b else a
noncomputable def inS (sub : Nat → Int) (row0 : List Int) (base : Int) : Nat → Int × Int × Int × List Int
  | 0 => (base, base, 9223372036854775807, row0)
  | i + 1 =>
    let q := inS sub row0 base i
    let d := q.2.2.2.getD i 0
    let r := mn2 (mn2 q.2.1 d + 2) (q.1 + sub i)
    (d, r, (if r < q.2.2.1 then r else q.2.2.1), q.2.2.2.set i r)
noncomputable def outS (sub : Nat → Nat → Int) (n : Nat) : Nat → Int × List Int
  | 0 => (0, (List.range n).map fun i => ((2 + i * 2 : Nat) : Int))
  | j + 1 =>
    let q := inS (sub j) (outS sub n j).2 (j * 2) n
    (q.2.1, q.2.2.2)
noncomputable def minS (sub : Nat → Nat → Int) (n : Nat) (j : Nat) : Int := (inS (sub j) (outS sub n j).2 (j * 2) n).2.2.1
-- the first row whose least is over the bound
noncomputable def overS (sub : Nat → Nat → Int) (n : Nat) (mx : Int) (m : Nat) : Bool := (List.range m).any fun j => decide (mx < minS sub n j)
noncomputable def gridP (sub : Nat → Nat → Int) (n m : Nat) (mx : Int) : Int := if overS sub n mx m then mx + 1 else (outS sub n m).1
noncomputable def pairP (sub : Nat → Nat → Int) (a b : List Nat) (mx : Int) : Int :=
  if ((b.length : Int) - a.length) * 2 > mx then mx + 1 else gridP (fun j i => sub (b.getD j 0) (a.getD i 0)) a.length b.length mx
noncomputable def coreP (sub : Nat → Nat → Int) (a b : List Nat) (mx : Int) : Int :=
  if a = [] ∨ b = [] then 2 * ((a.length : Int) + b.length)
  else if a.length > 40 ∨ b.length > 40 then mx + 1
  else if b.length < a.length then pairP sub b a mx else pairP sub a b mx
noncomputable def levP (sub : Nat → Nat → Int) (a b : List Nat) (mx : Int) : Int :=
  if a = b then 0 else
  let k := cpl a b
  let a1 := a.drop k
  let b1 := b.drop k
  let l := cpl a1.reverse b1.reverse
  coreP sub (a1.take (a1.length - l)) (b1.take (b1.length - l)) mx

theorem cpl_le : ∀ a b : List Nat, cpl a b ≤ a.length ∧ cpl a b ≤ b.length
  | x :: xs, y :: ys => by
    have := cpl_le xs ys
    unfold cpl
    split <;> simp <;> omega
  | [], _ => by simp [cpl]
  | _ :: _, [] => by simp [cpl]
theorem cpl_same : ∀ (a b : List Nat) (i : Nat), i < cpl a b → ∃ x, a[i]? = some x ∧ b[i]? = some x
  | x :: xs, y :: ys, i, h => by
    unfold cpl at h
    split at h
    · rename_i e
      subst e
      cases i with
      | zero => exact ⟨x, rfl, rfl⟩
      | succ i =>
        obtain ⟨z, h1, h2⟩ := cpl_same xs ys i (by omega)
        exact ⟨z, by simpa using h1, by simpa using h2⟩
    · omega
  | [], _, i, h => by simp [cpl] at h
  | _ :: _, [], i, h => by simp [cpl] at h
theorem cpl_end : ∀ (a b : List Nat), a.drop (cpl a b) = [] ∨ b.drop (cpl a b) = [] ∨ ∃ x y, a[cpl a b]? = some x ∧ b[cpl a b]? = some y ∧ x ≠ y
  | x :: xs, y :: ys => by
    unfold cpl
    split
    · rename_i e
      rcases cpl_end xs ys with h | h | ⟨u, v, h1, h2, h3⟩
      · exact .inl (by simpa using h)
      · exact .inr (.inl (by simpa using h))
      · exact .inr (.inr ⟨u, v, by simpa using h1, by simpa using h2, h3⟩)
    · rename_i e
      exact .inr (.inr ⟨x, y, rfl, rfl, e⟩)
  | [], _ => .inl (by simp [cpl])
  | _ :: _, [] => .inr (.inl (by simp [cpl]))
theorem inS_len (sub : Nat → Int) (row0 : List Int) (base : Int) : ∀ i, (inS sub row0 base i).2.2.2.length = row0.length
  | 0 => rfl
  | i + 1 => by
    show (List.set _ _ _).length = _
    rw [List.length_set, inS_len sub row0 base i]
theorem outS_len (sub : Nat → Nat → Int) (n : Nat) : ∀ j, (outS sub n j).2.length = n
  | 0 => by simp [outS]
  | j + 1 => by
    show (inS _ _ _ _).2.2.2.length = _
    rw [inS_len, outS_len sub n j]
end
section
open PySem PySem.W PyProof.Rows
set_option Elab.async false
set_option linter.unusedVariables false
-- the plain match
noncomputable def posP (got : List Nat) (hi : Int) (ws : List (List Nat)) (s0 : Int) : Nat → Int
  | 0 => s0
  | k + 1 => findI got (ws.getD k []) (posP got hi ws s0 k) hi + (ws.getD k []).length
noncomputable def allP (got : List Nat) (hi : Int) (ws : List (List Nat)) (s0 : Int) : Bool :=
  (List.range ws.length).all fun k => decide (0 ≤ findI got (ws.getD k []) (posP got hi ws s0 k) hi)
noncomputable def scanP (got : List Nat) (hi : Int) : List (List Nat) → Int → Bool
  | [], _ => true
  | w :: ws, s => let r := findI got w s hi; if r < 0 then false else scanP got hi ws (r + w.length)
theorem posP_cons (got : List Nat) (hi : Int) (w : List Nat) (ws : List (List Nat)) (s : Int) : ∀ k, posP got hi (w :: ws) s (k + 1) = posP got hi ws (findI got w s hi + w.length) k
  | 0 => rfl
  | k + 1 => by
    show findI got ((w :: ws).getD (k + 1) []) (posP got hi (w :: ws) s (k + 1)) hi + _ = _
    rw [posP_cons got hi w ws s k]
    rfl
theorem allP_scan (got : List Nat) (hi : Int) : ∀ (ws : List (List Nat)) (s : Int), allP got hi ws s = scanP got hi ws s
  | [], s => rfl
  | w :: ws, s => by
    have ih := allP_scan got hi ws (findI got w s hi + w.length)
    unfold allP at ih ⊢
    rw [List.length_cons, List.range_succ_eq_map, List.all_cons, List.all_map]
    have : ((fun k => decide (0 ≤ findI got ((w :: ws).getD k []) (posP got hi (w :: ws) s k) hi)) ∘ Nat.succ) = fun k => decide (0 ≤ findI got (ws.getD k []) (posP got hi ws (findI got w s hi + w.length) k) hi) := by
      funext k
      show decide (0 ≤ findI got ((w :: ws).getD (k + 1) []) (posP got hi (w :: ws) s (k + 1)) hi) = _
      rw [posP_cons]; rfl
    rw [this, ih]
    show (decide (0 ≤ findI got w s hi) && _) = (if findI got w s hi < 0 then false else scanP got hi ws (findI got w s hi + w.length))
    by_cases h : findI got w s hi < 0
    · rw [if_pos h, decide_eq_false (by omega)]; rfl
    · rw [if_neg h, decide_eq_true (by omega)]; rfl
noncomputable def tailP (got : List Nat) (ws : List (List Nat)) (s e : Int) : Bool := if s > e then false else scanP got e ws s
noncomputable def lastP (got : List Nat) (ws : List (List Nat)) (s : Int) : Bool :=
  let w := ws.getLastD []
  if w = [] then tailP got ws s got.length
  else if w.isSuffixOf got then tailP got ws.dropLast s ((got.length : Int) - w.length) else false
noncomputable def emP (ps : List (List Nat)) (got : List Nat) : Bool :=
  match ps with
  | [] => true
  | [p] => p == got
  | w :: q :: r =>
    if w = [] then lastP got (w :: q :: r) 0
    else if w.isPrefixOf got then lastP got (q :: r) w.length else false
end
section
open PySem PySem.W PyProof.Rows
open PySem.Builtin PySem.Builtin.Str
set_option Elab.async false
set_option linter.unusedVariables false
variable {T : TC} {c : Cx} {σ : List Slot}

-- dict displays of strs
noncomputable def DR : List (Value × Value) → List (List Nat × List Nat) → Prop
  | [], [] => True
  | (k, v) :: r, (a, b) :: q => (∃ t, k = .str (S a) t) ∧ (∃ t, v = .str (S b) t ∧ b.length ≤ 1048576) ∧ DR r q
  | _, _ => False
theorem DR.carries : ∀ {r : List (Value × Value)} {q : List (List Nat × List Nat)}, DR r q → ∃ kv : List (Str × Value), Carries (strKind T.prog T.w) r kv ∧ kv.map (·.1) = q.map (fun e => S e.1) ∧ kv.length = q.length ∧
    (∀ (i : Nat) (k : Str) (x : Value), kv[i]? = some (k, x) → ∃ t y, x = Value.str (S y) t ∧ y.length ≤ 1048576 ∧ q[i]? = some (k.cps.toList, y))
  | [], [], _ => ⟨[], trivial, rfl, rfl, by intro i k x h; simp at h⟩
  | (k, v) :: r, (a, b) :: q, h => by
    obtain ⟨⟨t, rfl⟩, ⟨u, rfl, hb⟩, h⟩ := h
    obtain ⟨kv, h1, h2, h3, h4⟩ := DR.carries h
    refine ⟨(S a, .str (S b) u) :: kv, ⟨strKind_is _ _ _ _, rfl, h1⟩, by simp [h2], by simp [h3], ?_⟩
    intro i k x hx
    cases i with
    | zero =>
      simp only [List.getElem?_cons_zero, Option.some.injEq, Prod.mk.injEq] at hx
      obtain ⟨rfl, rfl⟩ := hx
      exact ⟨u, b, rfl, hb, by simp [S_cps]⟩
    | succ i =>
      simp only [List.getElem?_cons_succ] at hx
      obtain ⟨t', y, e1, e2, e3⟩ := h4 i k x hx
      exact ⟨t', y, e1, e2, by simpa using e3⟩
  | [], _ :: _, h => h.elim
  | _ :: _, [], h => h.elim

noncomputable def EvD (T : TC) (c : Cx) (σ : List Slot) (ks : List (Option Expr)) (vs : List Expr) (q : List (List Nat × List Nat)) : Prop :=
  ∀ A env U s pos, Ok c.d A → Rd T c σ U env s → wpAny (model T.prog T.w) A (evalPairs (pairTrees ks vs env pos)) (fun r s' => DR r q ∧ Ext s s') (fun _ _ => False) s
theorem EvD.nil : EvD T c σ [] [] [] := fun _ _ _ s _ _ _ => pairTrees_nil_walk ⟨trivial, Ext.refl s⟩
theorem EvD.cons {k v ks vs a b q} (h1 : Ev T c σ k (.str a)) (h2 : Ev T c σ v (.str b)) (h3 : EvD T c σ ks vs q) : EvD T c σ (some k :: ks) (v :: vs) ((a, b) :: q) := fun A env U s pos O R =>
  pairTrees_cons_walk (wpB (h1 A env U s O R) fun kv s1 ⟨a1, e1⟩ => wpB (h2 A env U s1 O (R.ext e1)) fun vv s2 ⟨a2, e2⟩ => wpB (h3 A env U s2 pos O ((R.ext e1).ext e2)) fun r s3 ⟨a3, e3⟩ => by
    obtain ⟨t, rfl, _⟩ := rep_str a1
    obtain ⟨u, rfl, hb⟩ := rep_str a2
    exact ⟨⟨⟨t, rfl⟩, ⟨u, rfl, hb⟩, a3⟩, (e1.trans e2).trans e3⟩)
theorem low_of {s : Shared} {U : List Addr} (S' : Su T U s) : sysModules < s.heap.objs.size := by
  exact modules_low (T.top.nolimit.keeps S'.top)
theorem nodup_S {q : List (List Nat × List Nat)} (h : (q.map (·.1)).Nodup) : (q.map fun e => S e.1).Nodup := by
  have : (q.map fun e => S e.1) = (q.map (·.1)).map S := by rw [List.map_map]; rfl
  rw [this]
  exact List.Pairwise.map _ (fun a b hab e => hab (S_inj e)) h
theorem Ev.dict {ks vs pos q} (h : EvD T c σ ks vs q) (hn : (q.map (·.1)).Nodup) (hall : ks.all (·.isSome) = true := by rfl) (hl : ks.length = vs.length := by rfl) (h0 : ks ≠ [] := by walk_at "ne") (hlen : ks.length ≤ 15 := by decide) : Ev T c σ (.Dict ks vs pos) (.dict q) := fun A env U s O R => by
  have e0 : Ext s { s with heap := s.heap.push { cls := .type "dict", data := .dict #[] } } := Ext.push' s _
  refine wpAny_Dict_walk (knd := strKind T.prog T.w) hall hl h0 hlen (wpB (h A env U _ pos O (R.ext e0)) fun r s1 ⟨a1, e1⟩ => ?_)
  obtain ⟨kv, h1, h2, h3, h4⟩ := DR.carries (T := T) a1
  refine ⟨kv, h1, (Heap.DictOf.new s.heap).keep e1.keep, fun h' hm hs => ?_⟩
  rw [merged_nil_of_nodup kv (by rw [h2]; exact nodup_S hn)] at hm
  obtain ⟨ep, hm⟩ := hm.dictAt
  refine ⟨?_, ?_⟩
  · unfold Rep
    refine ⟨_, kv, ep, rfl, new_not R.used (get_size _), ?_, hm, h3, h4⟩
    have := low_of R.su
    exact beq_false_of_ne (Nat.ne_of_gt this)
  · have e2 : Ext { s with heap := s.heap.push { cls := .type "dict", data := .dict #[] } } s1 := e1
    refine ⟨fun b o hb => ?_, e1.gens, e1.os, Nat.le_trans e1.toks (Nat.le_add_right _ _)⟩
    rw [hs.2 b (by rintro rfl; rw [get_size] at hb; cases hb)]
    exact e1.keep _ _ (e0.keep _ _ hb)

-- an item of a dict
theorem valueAt_of : ∀ {kv : List (Str × Value)} {q : List (List Nat × List Nat)} {k y : List Nat}, kv.length = q.length →
    (∀ (i : Nat) (k : Str) (x : Value), kv[i]? = some (k, x) → ∃ t y, x = Value.str (S y) t ∧ y.length ≤ 1048576 ∧ q[i]? = some (k.cps.toList, y)) → q.lookup k = some y → ∃ t, valueAt kv (S k) = some (.str (S y) t) ∧ y.length ≤ 1048576
  | [], [], k, y, _, _, h => by cases h
  | (a, x) :: kv, (b, z) :: q, k, y, hl, hi, h => by
    obtain ⟨t, y', rfl, hy, e⟩ := hi 0 a x rfl
    simp only [List.getElem?_cons_zero, Option.some.injEq, Prod.mk.injEq] at e
    obtain ⟨rfl, rfl⟩ := e
    rw [List.lookup_cons] at h
    unfold valueAt
    rw [List.find?_cons]
    by_cases hk : k = a.cps.toList
    · subst hk
      rw [beq_self_eq_true] at h
      cases h
      refine ⟨t, ?_, hy⟩
      have : a = S a.cps.toList := (S_of a).symm
      simp [S_of]
    · have h1 : (k == a.cps.toList) = false := beq_false_of_ne hk
      rw [h1] at h
      have hne : ¬ a = S k := by intro e; apply hk; rw [e, S_cps]
      simp only [hne, decide_false]
      exact valueAt_of (by simpa using hl) (fun i k x hx => by
        obtain ⟨t, y, e1, e2, e3⟩ := hi (i + 1) k x (by simpa using hx)
        exact ⟨t, y, e1, e2, by simpa using e3⟩) h
  | [], _ :: _, k, y, hl, _, _ => by simp at hl
  | _ :: _, [], k, y, hl, _, _ => by simp at hl
theorem Sb.dict {q : List (List Nat × List Nat)} {k y : List Nat} (h : q.lookup k = some y) : Sb T (.dict q) (.str k) (.str y) := by
  intro A U s vo vi O S' a b
  obtain ⟨u, rfl, _⟩ := rep_str b
  unfold Rep at a
  obtain ⟨d, kv, n, rfl, _, _, hd, hl, hi⟩ := a
  obtain ⟨t, h1, h2⟩ := valueAt_of hl hi h
  exact ⟨"dict", _, slot_dict_getitem.lookup, hd.dictOf.typeIs, wpAny_getItem_of (strKind_is _ _ _ _) hd.dictOf.mapOf h1 ⟨Rep.str_ h2, Ext.toks' s⟩⟩

-- two equal dicts
theorem hits_of {A : Around} {s : Shared} {q : List (List Nat × List Nat)} {kb : List (Str × Value)} (hn : (q.map (·.1)).Nodup) (hlb : kb.length = q.length)
    (hb : ∀ (i : Nat) (k : Str) (x : Value), kb[i]? = some (k, x) → ∃ t y, x = Value.str (S y) t ∧ y.length ≤ 1048576 ∧ q[i]? = some (k.cps.toList, y)) :
    ∀ (ka : List (Str × Value)), (∀ k x, (k, x) ∈ ka → ∃ t y, x = Value.str (S y) t ∧ q.lookup k.cps.toList = some y) → KeqHits A s kb ka true
  | [], _ => .nil
  | (k, x) :: ka, h => by
    obtain ⟨t, y, rfl, hq⟩ := h k x (.head _)
    obtain ⟨u, h1, _⟩ := valueAt_of hlb hb hq
    rw [S_of] at h1
    have := KeqHits.hit (A := A) (s := s) h1 (SeqAt.EqAt.str_str (S y) t (S y) u) (hits_of hn hlb hb ka fun k x hm => h k x (.tail _ hm))
    simpa using this
theorem lookup_of_get : ∀ {q : List (List Nat × List Nat)} {i : Nat} {k y : List Nat}, (q.map (·.1)).Nodup → q[i]? = some (k, y) → q.lookup k = some y
  | [], i, k, y, _, h => by simp at h
  | (a, b) :: q, 0, k, y, hn, h => by
    simp only [List.getElem?_cons_zero, Option.some.injEq, Prod.mk.injEq] at h
    obtain ⟨rfl, rfl⟩ := h
    rw [List.lookup_cons, beq_self_eq_true]
  | (a, b) :: q, i + 1, k, y, hn, h => by
    rw [List.map_cons, List.nodup_cons] at hn
    simp only [List.getElem?_cons_succ] at h
    rw [List.lookup_cons]
    have : (k == a) = false := by
      refine beq_false_of_ne ?_
      rintro rfl
      exact hn.1 (List.mem_map.mpr ⟨(k, y), List.mem_of_getElem? h, rfl⟩)
    rw [this]
    exact lookup_of_get hn.2 h
theorem Cm2.neD {q : List (List Nat × List Nat)} (hn : (q.map (·.1)).Nodup) : Cm2 T .NotEq (.dict q) (.dict q) false := by
  intro A U s va vb O S' x y
  unfold Rep at x y
  obtain ⟨a, ka, n, rfl, _, la, da, hla, ha⟩ := x
  obtain ⟨b, kb, m, rfl, _, lb, db, hlb, hb⟩ := y
  refine keq_ne (r := true) la lb da.dictOf db.dictOf (by have := O.units; have : cLine = 9900 := rfl; omega) (fun _ => hits_of hn hlb hb ka fun k x hm => ?_) ⟨?_, Ext.refl s⟩
  · obtain ⟨i, hi⟩ := List.mem_iff_getElem?.mp hm
    obtain ⟨t, y, e1, _, e2⟩ := ha i k x hi
    exact ⟨t, y, e1, lookup_of_get hn e2⟩
  · rw [hla, hlb]; simp

-- index
theorem Mth.index {x y : List Nat} {i : Nat} (h : findP x y 0 x.length = some i) : Mth T "index" (.str x) [.str y] (.int i) := by
  refine ⟨"str", _, F.plainAttrs_str, F.slot_str_index, F.type_str_index, Mty.str, ?_⟩
  intro A U s vs O S' hr
  obtain ⟨v, w, rfl, h1, h2⟩ := reps2 hr
  obtain ⟨t, rfl, _⟩ := rep_str h1; obtain ⟨u, rfl, _⟩ := rep_str h2
  have ho := occ_find x y 0 x.length
  rw [h] at ho
  cases hoc : occurrences (S x) (S y) 0 x.length 1 with
  | nil => rw [hoc] at ho; simp at ho
  | cons k r =>
    rw [hoc] at ho
    have hk : k = i := by have h9 : (k : Int) = i := ho; omega
    subst hk
    exact call_gives F.slot_str_index (typeIs_str _ _ _) F.entry_str_index (F.args_str_index_2 _ _) (gives_str_index (S x) (S y) t u k r (by rw [S_len]; exact hoc)) ⟨Rep.int_, Ext.toks' s⟩
end
section
open PySem PySem.W PyProof.Rows
open PySem.Builtin PySem.Builtin.Str
set_option Elab.async false
set_option linter.unusedVariables false
variable {T : TC} {c : Cx} {σ : List Slot}

-- a statement whose outcome is one of several
theorem Ex.consEx {α : Type} {st rest o} {P : α → Prop} {σ1 : α → List Slot}
    (h1 : ∀ A env s₀ U₀ U s, Ok c.d A → Fr T c s₀ U₀ σ U env s → wpAny (model T.prog T.w) A (exec st env) (fun f s' => ∃ a, P a ∧ Ends T c s₀ U₀ env U s (.next (σ1 a)) f s') (fun _ _ => False) s)
    (h2 : ∀ a, P a → Ex T c (σ1 a) rest o) : Ex T c σ (st :: rest) o := fun A env s₀ U₀ U s O F =>
  wpAny_execs_cons (wpB (h1 A env s₀ U₀ U s O F) fun f s' ⟨a, ha, hf, U', F', S'⟩ => by subst hf; exact wpB (h2 a ha A env s₀ U₀ U' s' O F') fun _ _ h => Ends.of S' h)

noncomputable def dec : Value → List Nat
  | .str y _ => y.cps.toList
  | _ => []
theorem zip_dec : ∀ (xs : List (List Nat)) (l : List (Str × Tok)), l.map (·.1) = xs.map S →
    (∀ p ∈ (xs.map fun x => (x.length : Int)).zip (strValues l), p.1 = ((dec p.2).length : Int) ∧ ∃ t, p.2 = .str (S (dec p.2)) t) ∧ (((xs.map fun x => (x.length : Int)).zip (strValues l)).map fun p => dec p.2) = xs ∧ (strValues l).length = xs.length
  | [], [], _ => ⟨by intro p hp; simp [strValues] at hp, rfl, rfl⟩
  | [], _ :: _, h => by simp at h
  | _ :: _, [], h => by simp at h
  | x :: xs, (y, t) :: l, h => by
    simp only [List.map_cons, List.cons.injEq] at h
    obtain ⟨h1, h2⟩ := h
    have h1 : y = S x := h1
    subst h1
    obtain ⟨i1, i2, i3⟩ := zip_dec xs l h2
    have e : strValues ((S x, t) :: l) = .str (S x) t :: strValues l := rfl
    rw [e]
    refine ⟨?_, ?_, ?_⟩
    · intro p hp
      rw [List.map_cons, List.zip_cons_cons] at hp
      rcases List.mem_cons.mp hp with rfl | hp
      · exact ⟨by simp [dec, S_cps], t, by simp [dec, S_cps]⟩
      · exact i1 p hp
    · rw [List.map_cons, List.zip_cons_cons, List.map_cons, i2]; simp [dec, S_cps]
    · simp [i3]
-- all the objects of a heap but one
noncomputable def allBut (h : Heap) (L : Addr) : List (Addr × Obj) := (List.range h.objs.size).filterMap fun b => if b = L then none else (h.get? b).map fun o => (b, o)
theorem allBut_mem {h : Heap} {L b : Addr} {o : Obj} : (b, o) ∈ allBut h L ↔ b ≠ L ∧ h.get? b = some o := by
  unfold allBut
  rw [List.mem_filterMap]
  constructor
  · rintro ⟨k, _, h2⟩
    split at h2
    · cases h2
    · rename_i hk
      cases e : h.get? k with
      | none => rw [e] at h2; cases h2
      | some o' => rw [e] at h2; cases h2; exact ⟨hk, e⟩
  · rintro ⟨h1, h2⟩
    exact ⟨b, List.mem_range.mpr (Heap.lt_size h2), by rw [if_neg h1, h2]; rfl⟩

theorem Ex.sortlen {x px p1 p2 p3 pos pos2 arg rest o} {xs : List (List Nat)} {σ1 : List (List Nat) → List Slot} (harg : EvO T c σ arg (xs.map .str)) (hs : AtG c.G (Str.ofString "sorted") (.raw (.builtin "sorted"))) (hl : AtG c.G (Str.ofString "len") (.raw (.builtin "len")))
    (hn : xs.length < 64) (hu : Upd c.N σ x .dead σ) (hu2 : ∀ ws, Upd c.N σ x (.val (.list (ws.map .str))) (σ1 ws)) (hst : ∀ env, starEach [arg] env = [(false, eval arg env)])
    (hsw : ∀ env, swapsWith (.Call (.Name (Str.ofString "sorted") p1) [arg] [⟨some (Str.ofString "key"), .Name (Str.ofString "len") p2, p3⟩] pos) (some (.Name x px)) pos2.line env = pure false)
    (h : ∀ ws, ws.Perm xs → ws.Pairwise (fun a b => a.length ≤ b.length) → Ex T c (σ1 ws) rest o) :
    Ex T c σ (.Assign [.Name x px] (.Call (.Name (Str.ofString "sorted") p1) [arg] [⟨some (Str.ofString "key"), .Name (Str.ofString "len") p2, p3⟩] pos) pos2 :: rest) o := by
  refine Ex.consEx (P := fun ws => ws.Perm xs ∧ ws.Pairwise (fun a b => a.length ≤ b.length)) (σ1 := σ1) (fun A env s₀ U₀ U s O F => ?_) (fun ws hw => h ws hw.1 hw.2)
  refine wpAny_Assign_Name ?_ (hsw env)
  show wpAny _ A (do callWith pos (← eval (.Name (Str.ofString "sorted") p1) env) [] (backTo pos (starEach [arg] env)) (backToKw pos (keywordEach [⟨some (Str.ofString "key"), .Name (Str.ofString "len") p2, p3⟩] env))) _ _ s
  refine wpAny_bind (wpB (Ev.glob (pos := p1) hs A env U s O F.rd) fun v s1 ⟨a1, e1⟩ => ?_)
  unfold Rep at a1
  subst a1
  have hb : backTo pos (starEach [arg] env) = [(false, do let v ← eval arg env; standAt pos; pure v)] ∨ backTo pos (starEach [arg] env) = [(false, eval arg env)] := by
    rw [hst]; first | exact .inr rfl | exact .inl rfl
  refine callWith_kw (e := arg) (rest := []) ?_ (by rw [hst]; rfl) (by rw [hst]; rfl)
  have F1 := F.of_ext e1
  have R1 := F1.rd
  have main : ∀ vo s2, Pk T s2 U vo (xs.map .str) → Ext s1 s2 → wpAny (model T.prog T.w) A (evalAll ((backToKw pos (keywordEach [⟨some (Str.ofString "key"), .Name (Str.ofString "len") p2, p3⟩] env)).map (·.2)))
      (fun kvs s3 => wpAny (model T.prog T.w) A (call (.builtin "sorted") [vo] (((backToKw pos (keywordEach [⟨some (Str.ofString "key"), .Name (Str.ofString "len") p2, p3⟩] env)).filterMap (·.1)).zip kvs))
        (fun v s' => wpAny (model T.prog T.w) A (storeName env x v) (fun _ s'' => ∃ a, (a.Perm xs ∧ a.Pairwise (fun a b => a.length ≤ b.length)) ∧ Ends T c s₀ U₀ env U s (.next (σ1 a)) .next s'') (fun _ _ => False) s') (fun _ _ => False) s3) (fun _ _ => False) s2 := by
    intro vo s2 a2 e2
    have F2 := F1.of_ext e2
    refine kws_cons (wpB (Ev.glob (pos := p2) hl A env U s2 O F2.rd) fun v s3 ⟨a3, e3⟩ => kws_nil ?_)
    unfold Rep at a3
    subst a3
    have F3 := F2.of_ext e3
    obtain ⟨a, it, n, rfl, hil, hL, hr⟩ := a2.ext e3
    obtain ⟨l, hle, hlS⟩ := strs_of hr
    obtain ⟨z1, z2, z3⟩ := zip_dec xs l hlS
    have hx : ∀ x ∈ xs, x.length ≤ 1048576 := by
      intro x hx
      obtain ⟨i, hi⟩ := List.mem_iff_getElem?.mp hx
      obtain ⟨v, _, h2⟩ := hr.get (i := i) (p := .str x) (by rw [List.getElem?_map, hi]; rfl)
      obtain ⟨_, _, h3⟩ := rep_str h2
      exact h3
    obtain ⟨m, hns⟩ := F3.ns
    have F0 : PyProof.Rows.Fr ({} : Heap) env.locals s3.heap m := ⟨hns, fun b o e => absurd (Heap.lt_size e) (Nat.not_lt_zero b), Nat.zero_le _⟩
    have N0 : News ({} : Heap) env.locals s3.heap (allBut s3.heap env.locals) := fun p hp => by
      obtain ⟨h1, h2⟩ := allBut_mem.mp hp
      exact ⟨h2, h1, get_ge (Nat.zero_le _)⟩
    have hil2 : s3.heap.IsList a (strValues l).toArray := by
      have := hil.isList; rw [← hle]; simpa using this
    refine wpAny_mono (wpAny_toks (Q := fun v s' => s3.toks ≤ s'.toks → wpAny (model T.prog T.w) A (storeName env x v) (fun _ s'' => ∃ a, (a.Perm xs ∧ a.Pairwise (fun a b => a.length ≤ b.length)) ∧ Ends T c s₀ U₀ env U s (.next (σ1 a)) .next s'') (fun _ _ => False) s') (ksk_sorted (b := false) (kz := xs.map fun x => (x.length : Int)) (f := .builtin "len") (kw := [(Str.ofString "key", .builtin "len")]) F0 N0 hil2 (by rw [List.length_map, z3]) (by rw [z3]; exact hn) (ksk_s1 _ _) (fun _ => ksk_l1 _ _) (fun _ => ksk_t4 _ _) ?_ ?_)) (fun v s' hq => hq.2 hq.1) (fun _ _ hF => hF.2)
    rotate_left
    · intro D h' tk out ep F' N' hlow ko htk
      obtain ⟨ps, hp, ho, hpw⟩ := ko
      have zp : ∀ p ∈ ps, p.1 = ((dec p.2).length : Int) ∧ ∃ t, p.2 = .str (S (dec p.2)) t := fun p hm => z1 p (hp.mem_iff.mp hm)
      have hperm : (ps.map fun p => dec p.2).Perm xs := by
        have := hp.map fun p => dec p.2
        rw [z2] at this
        exact this
      have hord : (ps.map fun p => dec p.2).Pairwise (fun a b => a.length ≤ b.length) := by
        rw [List.pairwise_map]
        refine hpw.imp_of_mem fun {p q} h1 h2 h3 => ?_
        have h3 : p.1 ≤ q.1 := h3
        rw [(zp p h1).1, (zp q h2).1] at h3
        omega
      have nD := N' (D, _) (.head _)
      have keep : ∀ b o, b ≠ env.locals → s3.heap.get? b = some o → h'.get? b = some o := fun b o hb hg => (N' (b, o) (.tail _ (allBut_mem.mpr ⟨hb, hg⟩))).1
      have hDf : s3.heap.get? D = none := by
        cases e : s3.heap.get? D with
        | none => rfl
        | some o => exact absurd (hlow (D, o) (allBut_mem.mpr ⟨nD.2.1, e⟩)) (Nat.lt_irrefl _)
      have hlen : (ps.map fun p => dec p.2).length < 64 := by rw [hperm.length_eq]; exact hn
      have F4 : Fr T c s₀ U₀ σ U env { s3 with heap := h', toks := tk } := by
        refine F3.upd hu F3.locU F3.locN (fun b o hb hg => keep b o hb hg) rfl rfl htk ?_ ⟨m, F'.ns⟩ ?_ ?_ ?_ trivial
        · obtain ⟨o, _, _, ho, _⟩ := F'.ns; exact ⟨o, ho⟩
        · intro y b v hy hc
          have : b ≠ env.locals := by rintro rfl; exact ns_not_cell hns hc
          obtain ⟨o, h1, h2⟩ := hc
          exact ⟨v, o, keep _ _ this h1, h2⟩
        · intro y v _ hv
          rcases hv with ⟨h1, m', h2, h3⟩ | ⟨h1, cc, h2, h3⟩
          · refine .inl ⟨h1, m, F'.ns, ?_⟩
            rw [hns.agree h2 y]; exact h3
          · refine .inr ⟨h1, cc, h2, ?_⟩
            have : cc ≠ env.locals := by rintro rfl; exact ns_not_cell hns h3
            obtain ⟨o, h4, h5⟩ := h3
            exact ⟨o, keep _ _ this h4, h5⟩
        · intro y ps' b _ hy hv
          obtain ⟨_, b', it', n', k1, k2, _⟩ := F3.rd.own y ps' hy
          have := k1.uniq hv
          cases this
          rintro rfl
          exact ns_not_list hns k2
      have hrep : Rep T { s3 with heap := h', toks := tk } U (.ref D) (.list ((ps.map fun p => dec p.2).map .str)) := by
        unfold Rep
        refine ⟨D, out, ep, rfl, new_not F3.rd.used hDf, nD.1, by rw [List.length_map]; omega, ?_⟩
        have ho' : out.toList = ps.map Prod.snd := ho
        rw [ho']
        have hx' : ∀ p ∈ ps, (dec p.2).length ≤ 1048576 := fun p hm => hx _ (hperm.mem_iff.mp (List.mem_map.mpr ⟨p, hm, rfl⟩))
        clear ho ho' hpw hperm hord hlen hp
        induction ps with
        | nil => exact Reps.nil
        | cons p ps ih =>
          obtain ⟨_, t, h2⟩ := zp p (.head _)
          have h3 := hx' p (.head _)
          rw [List.map_cons, List.map_cons, List.map_cons]
          refine Reps.cons ?_ (ih (fun q hq => zp q (.tail _ hq)) fun q hq => hx' q (.tail _ hq))
          rw [h2] at h3 ⊢
          have : dec (.str (S (dec p.2)) t) = dec p.2 := by simp [dec, S_cps]
          rw [this] at h3 ⊢
          exact Rep.str_ h3
      refine wpB (store_ends F4 (hu2 (ps.map fun p => dec p.2)) hrep ?_) fun _ s'' he => ⟨_, ⟨hperm, hord⟩, he⟩
      refine (Step.ext ((e1.trans e2).trans e3)).trans ⟨fun b o hb hg => keep b o (fun e => hb (e ▸ F3.locU)) hg, fun _ h => .inl h, htk⟩
    · intro i v k hv hk h tk own F' N'
      have hp : (k, v) ∈ (xs.map fun x => (x.length : Int)).zip (strValues l) := by
        rw [List.mem_iff_getElem?]
        exact ⟨i, by rw [List.getElem?_zip_eq_some]; exact ⟨hk, hv⟩⟩
      obtain ⟨h1', t, h2'⟩ := z1 _ hp
      have h1 : k = ((dec v).length : Int) := h1'
      have h2 : v = .str (S (dec v)) t := h2'
      clear h1' h2'
      have h3 : (dec v).length ≤ 1048576 := by
        refine hx _ ?_
        rw [← z2]
        exact List.mem_map.mpr ⟨_, hp, rfl⟩
      clear hp hv hk
      generalize dec v = d at h1 h2 h3
      subst h1
      subst h2
      refine SBL.len (by rw [S_len]; omega) ?_
      rw [S_len]
      exact KskEnd.intro F' N' fun p hp => hp
  rw [hst]
  first
    | exact Calls.spliced_cons (wpB (harg A env U s1 O R1) fun vo s2 ⟨a2, e2⟩ => Calls.spliced_nil (main vo s2 a2 e2))
    | exact Calls.spliced_cons (wpAny_bind (wpB (harg A env U s1 O R1) fun vo s2 ⟨a2, e2⟩ => wpAny_bind (wpAny_standAt (wpAny_pure (Calls.spliced_nil (main vo s2 a2 e2))))))
end
section
open PySem PySem.W PyProof.Rows
open PySem.Builtin PySem.Builtin.Str
set_option Elab.async false
set_option linter.unusedVariables false
variable {T : TC} {c : Cx} {σ : List Slot}

-- what lies about an item's reading of a slice
theorem slice_item9 {A : Around} {E : Value → Shared → Prop} {s : Shared} {value : Expr} {lo hi st : Option Expr} {p : Pos} {o i : Value} {Q : Value → Shared → Prop}
    (hs : ∃ ops, subscripted (.Slice lo hi st p) false o i = operate ops (getItem o i)) (h : ItemOn (model T.prog T.w) A E o i Q s) : wpAny (model T.prog T.w) A (subscriptTail value (.Slice lo hi st p) o i) Q E s := by
  obtain ⟨Ty, id, hl, hT, h⟩ := h
  obtain ⟨ops, hs⟩ := hs
  unfold subscriptTail
  refine wpAny_bind ?_
  rw [getitemInPython_of_ne hT.not_modules]
  refine wpAny_bind (wpAny_specialOf hT hl ?_)
  have fin : wpAny (model T.prog T.w) A (subscripted (.Slice lo hi st p) false o i) (fun r s₃ => wpAny (model T.prog T.w) A (letTemporaryGo value o r >>= fun _ => pure r) Q E s₃) E s := by
    rw [hs]
    exact wpAny_operating (wpAny_mono h (fun r s₃ h₃ => wpAny_bind (wpAny_letTemporaryGo (wpAny_pure h₃))) fun _ _ x => x)
  first
    | exact wpAny_pure (wpAny_bind fin)
    | exact wpAny_bind (wpAny_pure (wpAny_bind fin))
    | exact wpAny_bind fin
-- a list slice with a step
theorem Ev.listslice3 {value lo hi st p pos ps l u} {k : Int} (h1 : EvO T c σ value ps) (hl : Part T c σ lo l) (hu : Part T c σ hi u) (hst : Ev T c σ st (.int k)) (hk : k ≠ 0)
    (hs : ∀ o i, ∃ ops, subscripted (.Slice lo hi (some st) p) false o i = operate ops (getItem o i) := by intro _ _; exact ⟨_, rfl⟩) : Ev T c σ (.Subscript value (.Slice lo hi (some st) p) pos) (.list (pickV ps l u (some k))) := fun A env U s O R => by
  refine Subscript_ (wpB (h1 A env U s O R) fun v s1 ⟨a1, e1⟩ => wpAny_Slice (wpB (hl.run' O (R.ext e1)) fun vl s2 ⟨a2, e2⟩ => wpB (hu.run' O ((R.ext e1).ext e2)) fun vu s3 ⟨a3, e3⟩ =>
    wpB ((Part.int hst).run' O (((R.ext e1).ext e2).ext e3)) fun vk s4 ⟨a4, e4⟩ => ?_))
  refine slice_item9 (hs _ _) ?_
  obtain ⟨a, it, n, rfl, hl1, hL, hr⟩ := a1
  have e14 := ((e1.trans e2).trans e3).trans e4
  have hsz : it.size = ps.length := by rw [← hr.length]; simp
  have hl4 := ((e2.trans e3).trans e4).keep _ _ hl1
  have hl4' : s4.heap.IsList a it := IsL.isList (n := n) hl4
  have h24 : (2:Nat)^24 = sizeLine := rfl
  refine ⟨"list", _, slot_list_getitem.lookup, (hl4'.push _).typeIs, wpAny_getItem_list_slice (hl4'.push _) (Heap.IsSliceOf.new ..) a2 a3 a4 (by simpa using hk) ?_ (by omega)⟩
  rw [Heap.size_push]
  have E3 : Ext s4 { s4 with heap := (s4.heap.push { cls := .type "slice", data := .fields #[vl, vu, vk] }).push { cls := .type "list", data := .seq (slicePick it l u (some k)) } } :=
    (Ext.push' s4 _).trans (Ext.push' _ _)
  obtain ⟨k1, k2⟩ := pick_size hr l u (some k)
  refine ⟨?_, e14.trans E3⟩
  unfold Rep
  refine ⟨_, slicePick it l u (some k), 0, rfl, ?_, ?_, by omega, ?_⟩
  · intro hm
    have h1 := (R.ext e14).used _ hm
    have : s4.heap.get? (s4.heap.objs.size + 1) = Option.none := get_ge (Nat.le_succ _)
    obtain ⟨o, ho⟩ := h1
    rw [this] at ho; cases ho
  · have := Heap.get?_push_size (s4.heap.push { cls := .type "slice", data := .fields #[vl, vu, vk] }) (o := ({ cls := .type "list", data := .seq (slicePick it l u (some k)) } : Obj)) rfl
    rw [Heap.size_push] at this
    exact this
  · exact k1.ext (((e2.trans e3).trans e4).trans E3)

noncomputable def pickI (ns : List Int) (lo hi st : Option Int) : List Int :=
  (sliceRange (sliceBounds lo hi st ns.length).1 (sliceBounds lo hi st ns.length).2.1 (sliceBounds lo hi st ns.length).2.2).filterMap fun i => ns[i]?
theorem pickV_int (ns : List Int) (lo hi st : Option Int) : pickV (ns.map .int) lo hi st = (pickI ns lo hi st).map .int := by
  unfold pickV pickI
  rw [List.length_map, List.map_filterMap]
  congr 1
  funext i
  rw [List.getElem?_map]
end
section
open PySem PySem.W PyProof.Rows
open PySem.Builtin PySem.Builtin.Str
set_option Elab.async false
set_option linter.unusedVariables false
variable {T : TC} {c : Cx} {σ : List Slot}

theorem range_small {a n : Nat} (h : n ≤ 1048576) (ha : a ≤ n) : Builtin.Range.small (a : Int) (n : Int) 1 = true ∧ Builtin.Range.rangeSize (a : Int) (n : Int) 1 = (n - a : Nat) := by
  have hs : Builtin.Range.rangeSize (a : Int) (n : Int) 1 = (n - a : Nat) := by
    unfold Builtin.Range.rangeSize
    rw [if_pos (by decide)]
    split <;> omega
  refine ⟨?_, hs⟩
  unfold Builtin.Range.small
  rw [hs]
  unfold Builtin.Range.rangeFitsLong
  simp
  omega
theorem It.range1 {f p e pos} {n : Nat} (hf : Ev T c σ (.Name f p) (.raw (.type "range"))) (ha : Ev T c σ e (.int n)) (hn : n ≤ 1048576)
    (hs : ∀ env, backTo pos (starEach [e] env) = [e].map fun e => (false, eval e env) := by walk_at "r1") : It T c σ (.Call (.Name f p) [e] [] pos) ((List.range n).map fun (i : Nat) => .int (i : Int)) := by
  obtain ⟨h1, h2⟩ := range_small (a := 0) hn (Nat.zero_le _)
  have := It.range (n := n) (Rn.one (pos := pos) hf ha hs) h1 h2
  have e : ((List.range n).map fun (i : Nat) => V.int (0 + (i : Int) * 1)) = ((List.range n).map fun (i : Nat) => V.int (i : Int)) := by
    exact List.map_congr_left fun i _ => congrArg V.int (by omega)
  rw [e] at this
  exact this
theorem It.range2 {f p e e2 pos} {a n : Nat} (hf : Ev T c σ (.Name f p) (.raw (.type "range"))) (ha : Ev T c σ e (.int a)) (hb : Ev T c σ e2 (.int n)) (hn : n ≤ 1048576) (han : a ≤ n)
    (hs : ∀ env, backTo pos (starEach [e, e2] env) = [e, e2].map fun e => (false, eval e env) := by walk_at "r1") : It T c σ (.Call (.Name f p) [e, e2] [] pos) ((List.range (n - a)).map fun (i : Nat) => .int ((a + i : Nat) : Int)) := by
  obtain ⟨h1, h2⟩ := range_small (a := a) hn han
  have := It.range (n := n - a) (Rn.two (pos := pos) hf ha hb hs) h1 h2
  have e : ((List.range (n - a)).map fun (i : Nat) => V.int ((a : Int) + (i : Int) * 1)) = ((List.range (n - a)).map fun (i : Nat) => V.int ((a + i : Nat) : Int)) := by
    exact List.map_congr_left fun i _ => congrArg V.int (by omega)
  rw [e] at this
  exact this
theorem rng_at {n i : Nat} {q : V} {f : Nat → V} (h : ((List.range n).map f)[i]? = some q) : q = f i ∧ i < n := by
  rw [List.getElem?_map] at h
  rcases Nat.lt_or_ge i n with h' | h'
  · rw [List.getElem?_range h'] at h; cases h; exact ⟨rfl, h'⟩
  · rw [List.getElem?_eq_none (by simpa using h')] at h; cases h

@[reducible] noncomputable def cIn (c : Cx) (scope : Scope) (x : Str) (caps : List Str) (G' : List (Str × V)) : Cx := ⟨c.d, relabelN scope.names c.nm, x :: caps, G'⟩
theorem CompCx.of {scope x caps cs G'} (hok : compOkB c.nm scope x caps = true) (hcap : CapL c.N σ caps cs) (hG : CapG T (fun y => scope.names.lookup y == some .globalImplicit) c.G G') : CompCx T c σ scope x (cIn c scope x caps G') caps cs :=
  ⟨CompOk.of hok, hcap, rfl, rfl, rfl, hG⟩
-- over a list, all kept
theorem Ev.compL {elt iter : Expr} {x : Str} {px : Pos} {scope : Scope} {pos : Pos} {caps cs G'} {qs : List V} {rs : List V} (hit : It T c σ iter qs)
    (hok : compOkB c.nm scope x caps = true) (hcap : CapL c.N σ caps cs) (hG : CapG T (fun y => scope.names.lookup y == some .globalImplicit) c.G G')
    (hl : rs.length = qs.length) (helt : ∀ (i : Nat) (q r : V), qs[i]? = some q → rs[i]? = some r → Ev T (cIn c scope x caps G') (.val q :: cs) elt r)
    (hsz : qs.length ≤ 1048576) (hs : ∀ env x, foldedSetIterable iter env x = pure x := by walk_at "r2") :
    Ev T c σ (.ListComp elt [⟨.Name x px, iter, [], 0⟩] scope pos) (.list rs) := by
  have h := Ev.comp (px := px) (pos := pos) (t := fun _ => true) (f := fun i => rs.getD i .none) (CompCx.of hok hcap hG) hit (fun _ _ _ => TrIf.nil) (fun i q hq _ => helt i q _ hq (by
    have hi : i < rs.length := by
      rw [hl]
      rcases Nat.lt_or_ge i qs.length with h | h
      · exact h
      · rw [List.getElem?_eq_none h] at hq; cases hq
    simp [hi])) hsz hs
  refine Ev.cast h ?_
  congr 1
  rw [compR_map, ← hl]
  apply List.ext_getElem
  · simp
  · intro i h1 h2
    simp at h1
    simp [h1]
-- over a list, some kept
theorem Ev.compF {elt iter : Expr} {x : Str} {px : Pos} {ifs : List Expr} {scope : Scope} {pos : Pos} {caps cs G'} {α : Type} {xs : List α} {w f : α → V} {t : α → Bool} (hit : It T c σ iter (xs.map w))
    (hok : compOkB c.nm scope x caps = true) (hcap : CapL c.N σ caps cs) (hG : CapG T (fun y => scope.names.lookup y == some .globalImplicit) c.G G')
    (htest : ∀ a ∈ xs, TrIf T (cIn c scope x caps G') (.val (w a) :: cs) ifs (t a)) (helt : ∀ a ∈ xs, t a = true → Ev T (cIn c scope x caps G') (.val (w a) :: cs) elt (f a))
    (hsz : xs.length ≤ 1048576) (hs : ∀ env x, foldedSetIterable iter env x = pure x := by walk_at "r2") :
    Ev T c σ (.ListComp elt [⟨.Name x px, iter, ifs, 0⟩] scope pos) (.list ((xs.filter t).map f)) := by
  cases xs with
  | nil =>
    have h := Ev.comp (px := px) (pos := pos) (ifs := ifs) (elt := elt) (t := fun _ => true) (f := fun i => V.none) (CompCx.of hok hcap hG) hit (fun i q hq => by simp at hq) (fun i q hq _ => by simp at hq) (by simp) hs
    exact h
  | cons a₀ xs =>
    generalize hys : a₀ :: xs = ys at *
    have get : ∀ (i : Nat) (q : V), (ys.map w)[i]? = some q → q = w (ys.getD i a₀) ∧ ys.getD i a₀ ∈ ys := by
      intro i q hq
      rw [List.getElem?_map] at hq
      cases hy : ys[i]? with
      | none => rw [hy] at hq; cases hq
      | some a =>
        rw [hy] at hq
        cases hq
        have : ys.getD i a₀ = a := by rw [List.getD_eq_getElem?_getD, hy]; rfl
        rw [this]
        exact ⟨rfl, List.mem_of_getElem? hy⟩
    have h := Ev.comp (px := px) (pos := pos) (ifs := ifs) (elt := elt) (t := fun i => t (ys.getD i a₀)) (f := fun i => f (ys.getD i a₀)) (CompCx.of hok hcap hG) hit
      (fun i q hq => by obtain ⟨h1, h2⟩ := get i q hq; rw [h1]; exact htest _ h2) (fun i q hq ht => by obtain ⟨h1, h2⟩ := get i q hq; rw [h1]; exact helt _ h2 ht) (by simpa using hsz) hs
    rw [List.length_map, compR_list ys t f a₀] at h
    exact h
theorem Ex1.compL {elt iter : Expr} {x y : Str} {px py : Pos} {scope : Scope} {pos spos : Pos} {caps cs G'} {qs : List V} {rs : List V} {σ1} (hit : It T c σ iter qs)
    (hok : compOkB c.nm scope x caps = true) (hcap : CapL c.N σ caps cs) (hG : CapG T (fun y => scope.names.lookup y == some .globalImplicit) c.G G')
    (hl : rs.length = qs.length) (helt : ∀ (i : Nat) (q r : V), qs[i]? = some q → rs[i]? = some r → Ev T (cIn c scope x caps G') (.val q :: cs) elt r)
    (hsz : qs.length ≤ 1048576) (hu : Upd c.N σ y (.val (.list rs)) σ1) (hs : ∀ env x, foldedSetIterable iter env x = pure x := by walk_at "r2") :
    Ex1 T c σ (.Assign [.Name y py] (.ListComp elt [⟨.Name x px, iter, [], 0⟩] scope pos) spos) (.next σ1) := by
  have e : rs = compR qs.length (fun _ => true) (fun i => rs.getD i .none) := by
    rw [compR_map, ← hl]
    apply List.ext_getElem
    · simp
    · intro i h1 h2
      simp [h1]
  rw [e] at hu
  exact Ex1.assign_comp (px := px) (pos := pos) (t := fun _ => true) (f := fun i => rs.getD i .none) (CompCx.of hok hcap hG) hit (fun _ _ _ => TrIf.nil) (fun i q hq _ => helt i q _ hq (by
    have hi : i < rs.length := by
      rw [hl]
      rcases Nat.lt_or_ge i qs.length with h | h
      · exact h
      · rw [List.getElem?_eq_none h] at hq; cases hq
    simp [hi])) hsz hu hs
-- list slices from, to
theorem pick_seg (ps : List V) (a : Nat) : ∀ m : Nat, ((List.range m).map (a + ·)).filterMap (fun i => ps[i]?) = (ps.drop a).take m
  | 0 => rfl
  | m + 1 => by
    rw [List.range_succ, List.map_append, List.filterMap_append, pick_seg ps a m, List.take_add_one, List.getElem?_drop]
    simp only [List.map_cons, List.map_nil]
    cases h : ps[a + m]? with
    | none => simp [h]
    | some x => simp [h]
theorem pickV_from (ps : List V) {k : Nat} (h : k ≤ ps.length) : pickV ps (some (k : Int)) none none = ps.drop k := by
  have hb : sliceBounds (some (k : Int)) none none ps.length = ((k : Int), (ps.length : Int), 1) := by
    have h1 : ¬ (k : Int) < 0 := by omega
    unfold sliceBounds
    refine Prod.ext ?_ (Prod.ext ?_ rfl) <;> simp [h1] <;> omega
  unfold pickV
  rw [hb]
  show (sliceRange (k : Int) (ps.length : Int) 1).filterMap _ = _
  rw [sliceRange_one, pick_seg, List.take_of_length_le (by simp)]
theorem pickV_to (ps : List V) {k : Nat} (h : k ≤ ps.length) : pickV ps none (some (k : Int)) none = ps.take k := by
  have hb : sliceBounds none (some (k : Int)) none ps.length = (0, (k : Int), 1) := by
    have h1 : ¬ (k : Int) < 0 := by omega
    unfold sliceBounds
    refine Prod.ext ?_ (Prod.ext ?_ rfl) <;> simp [h1] <;> omega
  unfold pickV
  rw [hb]
  show (sliceRange ((0 : Nat) : Int) (k : Int) 1).filterMap _ = _
  rw [sliceRange_one, pick_seg]
  simp
end
section
open PySem PySem.W PyProof.Rows
open PySem.Builtin PySem.Builtin.Str
set_option Elab.async false
set_option linter.unusedVariables false
variable {T : TC} {c : Cx} {σ : List Slot}
theorem slice_item {A : Around} {E : Value → Shared → Prop} {s : Shared} {value : Expr} {lo hi st : Option Expr} {p : Pos} {o i : Value} {Q : Value → Shared → Prop}
    (hs : subscripted (.Slice lo hi st p) false o i = operate [i, o] (getItem o i)) (h : ItemOn (model T.prog T.w) A E o i Q s) : wpAny (model T.prog T.w) A (subscriptTail value (.Slice lo hi st p) o i) Q E s := by
  obtain ⟨Ty, id, hl, hT, h⟩ := h
  unfold subscriptTail
  refine wpAny_bind ?_
  rw [getitemInPython_of_ne hT.not_modules]
  refine wpAny_bind (wpAny_specialOf hT hl ?_)
  have fin : wpAny (model T.prog T.w) A (subscripted (.Slice lo hi st p) false o i) (fun r s₃ => wpAny (model T.prog T.w) A (letTemporaryGo value o r >>= fun _ => pure r) Q E s₃) E s := by
    rw [hs]
    exact wpAny_operating (wpAny_mono h (fun r s₃ h₃ => wpAny_bind (wpAny_letTemporaryGo (wpAny_pure h₃))) fun _ _ x => x)
  first
    | exact wpAny_pure (wpAny_bind fin)
    | exact wpAny_bind (wpAny_pure (wpAny_bind fin))
    | exact wpAny_bind fin
-- a slice of a text that any expression makes
theorem Ev.strsl {value lo hi p pos x l u} (h1 : Ev T c σ value (.str x)) (hl : Part T c σ lo l) (hu : Part T c σ hi u)
    (hs : ∀ o i, subscripted (.Slice lo hi Option.none p) false o i = operate [i, o] (getItem o i) := by walk_at "r2") : Ev T c σ (.Subscript value (.Slice lo hi Option.none p) pos) (.str (sliceP x l u)) := fun A env U s O R => by
  refine ext_of (Subscript_ (wpB (h1 A env U s O R) fun v s1 ⟨a1, e1⟩ => wpAny_Slice (wpB (hl.run O (R.ext e1)) fun vl s2 ⟨a2, e2⟩ => wpB (hu.run O ((R.ext e1).ext e2)) fun vu s3 ⟨a3, e3⟩ => ?_)))
  rw [evalPart_none]
  refine wpAny_pure (slice_item (hs _ _) ?_)
  obtain ⟨t, rfl, hx⟩ := rep_str a1
  obtain ⟨l', rfl, rfl⟩ := a2
  obtain ⟨u', rfl, rfl⟩ := a3
  refine ⟨"str", _, PySem.F.slot_str_getitem.lookup, typeIs_str _ _ _, wpAny_getItem_str_slice (l := l') (u := u') (st := Option.none) ⟨_, Heap.get?_push_size _ rfl, rfl, rfl⟩ rfl (post_val_or_str ⟨?_, fun t' k hk => ⟨?_, ?_⟩⟩)⟩
  · refine Nat.le_trans (Txt.slice_le (S x) _ _) ?_
    rw [S_len]; have : (2:Nat)^24 = sizeLine := rfl; omega
  · have : Txt.slice (S x) (l'.map (·.1)) (u'.map (·.1)) = S (sliceP x (l'.map (·.1)) (u'.map (·.1))) := (S_of _).symm
    have h2 := Rep.str_ (T := T) (s := { s3 with heap := s3.heap.push { cls := .type "slice", data := .fields #[partValue l', partValue u', .none] }, toks := k }) (U := U) (t := t') (Nat.le_trans (sliceP_le x (l'.map (·.1)) (u'.map (·.1))) hx)
    rw [← this] at h2
    exact h2
  · exact ((e1.trans e2).trans e3).zero.trans (Ext0.push s3 _ _)
end
section
open PySem PySem.W PyProof.Rows
set_option Elab.async false
-- a name's place, by short steps
section
variable {x a b c d : Str} {s p q r t s' : Slot} {xs : List Str} {ss ss' : List Slot}
theorem At.h1 : At (a :: x :: xs) (p :: s :: ss) x s := .there .here
theorem At.h2 : At (a :: b :: x :: xs) (p :: q :: s :: ss) x s := .there .h1
theorem At.h3 : At (a :: b :: c :: x :: xs) (p :: q :: r :: s :: ss) x s := .there .h2
theorem At.j4 (h : At xs ss x s) : At (a :: b :: c :: d :: xs) (p :: q :: r :: t :: ss) x s := .there (.there (.there (.there h)))
theorem Upd.h1 : Upd (a :: x :: xs) (p :: s :: ss) x s' (p :: s' :: ss) := .there .here
theorem Upd.h2 : Upd (a :: b :: x :: xs) (p :: q :: s :: ss) x s' (p :: q :: s' :: ss) := .there .h1
theorem Upd.h3 : Upd (a :: b :: c :: x :: xs) (p :: q :: r :: s :: ss) x s' (p :: q :: r :: s' :: ss) := .there .h2
theorem Upd.j4 (h : Upd xs ss x s' ss') : Upd (a :: b :: c :: d :: xs) (p :: q :: r :: t :: ss) x s' (p :: q :: r :: t :: ss') := .there (.there (.there (.there h)))
end
section
variable {x : Str} {v : V} {a b c d : Str × V} {l : List (Str × V)}
theorem AtG.h1 : AtG (a :: (x, v) :: l) x v := .there .here
theorem AtG.h2 : AtG (a :: b :: (x, v) :: l) x v := .there .h1
theorem AtG.h3 : AtG (a :: b :: c :: (x, v) :: l) x v := .there .h2
theorem AtG.j4 (h : AtG l x v) : AtG (a :: b :: c :: d :: l) x v := .there (.there (.there (.there h)))
end
end
section
open PySem PySem.W PyProof.Rows
set_option Elab.async false
set_option linter.unusedVariables false
-- codes: a text by its tokens
structure Cod (g : Nat → List Nat) (D : Nat → Prop) : Prop where
  ne : ∀ a, D a → g a ≠ []
  pre : ∀ a b, D a → D b → g a <+: g b → a = b
  suf : ∀ a b, D a → D b → g a <:+ g b → a = b
  head : ∀ a b z, D a → D b → (g a).head? = some z → z ∉ (g b).tail
theorem pre_code {g : Nat → List Nat} {D : Nat → Prop} (ne : ∀ a, D a → g a ≠ []) (pre : ∀ a b, D a → D b → g a <+: g b → a = b) :
    ∀ {p t : List Nat}, (∀ a ∈ p, D a) → (∀ a ∈ t, D a) → (p.flatMap g <+: t.flatMap g ↔ p <+: t)
  | [], t, _, _ => by simp
  | a :: p, [], hp, _ => by
    rw [List.flatMap_cons, List.flatMap_nil, List.prefix_nil, List.append_eq_nil_iff, List.prefix_nil]
    constructor
    · rintro ⟨h, _⟩; exact absurd h (ne a (hp a (.head _)))
    · intro h; cases h
  | a :: p, b :: t, hp, ht => by
    rw [List.flatMap_cons, List.flatMap_cons, List.cons_prefix_cons]
    by_cases h : a = b
    · subst h
      rw [List.prefix_append_right_inj, pre_code ne pre (fun x hx => hp x (.tail _ hx)) fun x hx => ht x (.tail _ hx)]
      simp
    · constructor
      · intro h'
        exfalso
        have h1 : g a <+: g b ++ t.flatMap g := List.IsPrefix.trans (List.prefix_append _ _) h'
        rcases List.prefix_or_prefix_of_prefix h1 (List.prefix_append (g b) (t.flatMap g)) with h2 | h2
        · exact h (pre a b (hp a (.head _)) (ht b (.head _)) h2)
        · exact h (pre b a (ht b (.head _)) (hp a (.head _)) h2).symm
      · rintro ⟨h', _⟩; exact absurd h' h
theorem suf_code {g : Nat → List Nat} {D : Nat → Prop} (C : Cod g D) {p t : List Nat} (hp : ∀ a ∈ p, D a) (ht : ∀ a ∈ t, D a) : (p.flatMap g <:+ t.flatMap g ↔ p <:+ t) := by
  rw [← List.reverse_prefix, ← List.reverse_prefix (l₁ := p)]
  have e : ∀ l : List Nat, (l.flatMap g).reverse = l.reverse.flatMap fun a => (g a).reverse := by
    intro l
    induction l with
    | nil => rfl
    | cons a l ih => rw [List.flatMap_cons, List.reverse_append, ih, List.reverse_cons, List.flatMap_append]; simp
  rw [e, e]
  refine pre_code (D := D) (fun a ha h => C.ne a ha (by simpa using h)) (fun a b ha hb h => C.suf a b ha hb (List.reverse_prefix.mp h)) ?_ ?_
  · intro a ha; exact hp a (by simpa using ha)
  · intro a ha; exact ht a (by simpa using ha)
noncomputable def posQ (g : Nat → List Nat) (t : List Nat) (k : Nat) : Nat := ((t.take k).flatMap g).length
section
variable {g : Nat → List Nat} {D : Nat → Prop} (C : Cod g D) {t : List Nat}
theorem posQ_add (k j : Nat) : posQ g t (k + j) = posQ g t k + (((t.drop k).take j).flatMap g).length := by
  unfold posQ; rw [List.take_add, List.flatMap_append, List.length_append]
theorem posQ_len : posQ g t t.length = (t.flatMap g).length := by unfold posQ; rw [List.take_length]
theorem posQ_mono {a b : Nat} (h : a ≤ b) : posQ g t a ≤ posQ g t b := by
  obtain ⟨j, rfl⟩ := Nat.le.dest h
  rw [posQ_add]; omega
include C in
theorem posQ_lt (ht : ∀ a ∈ t, D a) {a b : Nat} (h : a < b) (hb : b ≤ t.length) : posQ g t a < posQ g t b := by
  obtain ⟨j, rfl⟩ := Nat.le.dest (Nat.succ_le_of_lt h)
  refine Nat.lt_of_lt_of_le ?_ (posQ_mono (Nat.le_add_right (a + 1) j))
  rw [posQ_add]
  have : a < t.length := by omega
  rw [List.drop_eq_getElem_cons this]
  have hn := C.ne t[a] (ht _ (List.getElem_mem this))
  have := List.length_pos_iff.mpr hn
  rw [List.take_succ_cons, List.take_zero, List.flatMap_cons, List.flatMap_nil, List.append_nil]; omega
include C in
theorem posQ_le (ht : ∀ a ∈ t, D a) {a b : Nat} (ha : a ≤ t.length) (hb : b ≤ t.length) : posQ g t a ≤ posQ g t b ↔ a ≤ b := by
  refine ⟨fun h => ?_, posQ_mono⟩
  rcases Nat.lt_or_ge b a with h' | h'
  · have := posQ_lt C ht h' ha; omega
  · exact h'
theorem drop_posQ (k : Nat) : (t.flatMap g).drop (posQ g t k) = (t.drop k).flatMap g := by
  have : t.flatMap g = (t.take k).flatMap g ++ (t.drop k).flatMap g := by rw [← List.flatMap_append, List.take_append_drop]
  rw [this]
  exact List.drop_left' rfl
theorem bound_code : ∀ {t : List Nat} {i z : Nat}, (t.flatMap g)[i]? = some z → (∃ k, k < t.length ∧ i = posQ g t k) ∨ (∃ b ∈ t, z ∈ (g b).tail)
  | [], i, z, h => by simp at h
  | b :: t, i, z, h => by
    rw [List.flatMap_cons] at h
    by_cases hi : i < (g b).length
    · rw [List.getElem?_append_left hi] at h
      cases i with
      | zero => exact .inl ⟨0, by simp, by simp [posQ]⟩
      | succ i =>
        refine .inr ⟨b, .head _, ?_⟩
        rw [← List.drop_one]
        exact List.mem_of_getElem? (i := i) (by rw [List.getElem?_drop, Nat.add_comm]; exact h)
    · rw [List.getElem?_append_right (by omega)] at h
      rcases bound_code h with ⟨k, h1, h2⟩ | ⟨b', h1, h2⟩
      · refine .inl ⟨k + 1, by simpa using h1, ?_⟩
        unfold posQ at h2 ⊢
        rw [List.take_succ_cons, List.flatMap_cons, List.length_append]
        omega
      · exact .inr ⟨b', .tail _ h1, h2⟩
theorem at_iff {x y : List Nat} {i : Nat} : atP x y i = true ↔ y <+: x.drop i := by
  unfold atP
  rw [beq_iff_eq, List.prefix_iff_eq_take]
  exact eq_comm
theorem findP_some {x y : List Nat} {lo hi k : Nat} : findP x y lo hi = some k ↔ lo ≤ k ∧ (k + y.length ≤ hi ∧ y <+: x.drop k) ∧ ∀ j, lo ≤ j → j < k → ¬ (j + y.length ≤ hi ∧ y <+: x.drop j) := by
  unfold findP
  rw [List.find?_range'_eq_some]
  constructor
  · rintro ⟨h1, h2, h3⟩
    rw [Bool.and_eq_true, decide_eq_true_iff, at_iff] at h1
    refine ⟨(List.mem_range'_1.mp h2).1, h1, fun j ha hb hc => ?_⟩
    have := h3 j ha hb
    rw [Bool.not_eq_true', Bool.and_eq_false_iff, decide_eq_false_iff_not] at this
    rcases this with h | h
    · exact h hc.1
    · have := at_iff.mpr hc.2; rw [h] at this; cases this
  · rintro ⟨h1, h2, h3⟩
    refine ⟨by rw [Bool.and_eq_true, decide_eq_true_iff, at_iff]; exact h2, List.mem_range'_1.mpr ⟨h1, by omega⟩, fun j ha hb => ?_⟩
    have := h3 j ha hb
    cases hq : (decide (j + y.length ≤ hi) && atP x y j) with
    | false => rfl
    | true => rw [Bool.and_eq_true, decide_eq_true_iff, at_iff] at hq; exact absurd hq this
theorem findP_none {x y : List Nat} {lo hi : Nat} : findP x y lo hi = none ↔ ∀ j, lo ≤ j → ¬ (j + y.length ≤ hi ∧ y <+: x.drop j) := by
  unfold findP
  rw [List.find?_eq_none]
  constructor
  · intro h j hj hc
    refine h j (List.mem_range'_1.mpr ⟨hj, by omega⟩) ?_
    rw [Bool.and_eq_true, decide_eq_true_iff, at_iff]; exact hc
  · intro h j hj hc
    rw [Bool.and_eq_true, decide_eq_true_iff, at_iff] at hc
    exact h j (List.mem_range'_1.mp hj).1 hc
theorem seg_pos {w : List Nat} {k : Nat} (h : w <+: t.drop k) : posQ g t k + (w.flatMap g).length = posQ g t (k + w.length) := by
  rw [posQ_add, ← List.prefix_iff_eq_take.mp h]
include C in
theorem find_code (ht : ∀ a ∈ t, D a) {w : List Nat} (hw : ∀ a ∈ w, D a) {s e : Nat} (hs : s ≤ e) (he : e ≤ t.length) : findP (t.flatMap g) (w.flatMap g) (posQ g t s) (posQ g t e) = (findP t w s e).map (posQ g t) := by
  have down : ∀ k, k + w.length ≤ e → w <+: t.drop k → posQ g t k + (w.flatMap g).length ≤ posQ g t e ∧ w.flatMap g <+: (t.flatMap g).drop (posQ g t k) := by
    intro k h1 h2
    rw [seg_pos h2, drop_posQ]
    exact ⟨posQ_mono h1, (pre_code C.ne C.pre hw fun a ha => ht a (List.mem_of_mem_drop ha)).mpr h2⟩
  by_cases hw0 : w = []
  · subst hw0
    have h1 : findP t [] s e = some s := findP_some.mpr ⟨Nat.le_refl _, ⟨by simpa using hs, List.nil_prefix⟩, by intro j a b; omega⟩
    rw [h1]
    exact findP_some.mpr ⟨Nat.le_refl _, ⟨by simpa using posQ_mono hs, List.nil_prefix⟩, by intro j a b; omega⟩
  · obtain ⟨a, w', rfl⟩ := List.exists_cons_of_ne_nil hw0
    have up : ∀ i, posQ g t s ≤ i → i + ((a :: w').flatMap g).length ≤ posQ g t e → (a :: w').flatMap g <+: (t.flatMap g).drop i → ∃ k, i = posQ g t k ∧ s ≤ k ∧ k + (a :: w').length ≤ e ∧ (a :: w') <+: t.drop k := by
      intro i h0 h1 h2
      have hz : ∃ z, (g a).head? = some z := by
        cases h : g a with
        | nil => exact absurd h (C.ne a (hw a (.head _)))
        | cons z r => exact ⟨z, rfl⟩
      obtain ⟨z, hz⟩ := hz
      have hi : (t.flatMap g)[i]? = some z := by
        obtain ⟨r, h3⟩ := h2
        have : ((t.flatMap g).drop i)[0]? = some z := by
          rw [← h3, List.flatMap_cons]
          cases h : g a with
          | nil => rw [h] at hz; cases hz
          | cons z' r' => rw [h] at hz; simpa using hz
        simpa using this
      rcases bound_code hi with ⟨k, h3, rfl⟩ | ⟨b, h3, h4⟩
      · have h5 : (a :: w') <+: t.drop k := by
          rw [drop_posQ] at h2
          exact (pre_code C.ne C.pre hw fun a ha => ht a (List.mem_of_mem_drop ha)).mp h2
        rw [seg_pos h5] at h1
        have h6 : k + (a :: w').length ≤ t.length := by
          have := h5.length_le
          rw [List.length_drop] at this
          have : 0 < (a :: w').length := by simp
          omega
        exact ⟨k, rfl, (posQ_le C ht (by omega) (by omega)).mp h0, (posQ_le C ht h6 he).mp h1, h5⟩
      · exact absurd h4 (C.head a b z (hw a (.head _)) (ht b h3) hz)
    cases hf : findP t (a :: w') s e with
    | none =>
      rw [findP_none] at hf
      refine findP_none.mpr fun j hj hc => ?_
      obtain ⟨k, _, h1, h2, h3⟩ := up j hj hc.1 hc.2
      exact hf k h1 ⟨h2, h3⟩
    | some k =>
      obtain ⟨h1, h2, h3⟩ := findP_some.mp hf
      refine findP_some.mpr ⟨posQ_mono h1, down k h2.1 h2.2, fun j hj hk hc => ?_⟩
      obtain ⟨k', rfl, h4, h5, h6⟩ := up j hj hc.1 hc.2
      have : k' < k := by
        rcases Nat.lt_or_ge k' k with h | h
        · exact h
        · have := posQ_mono (g := g) (t := t) h; omega
      exact h3 k' h4 this ⟨h5, h6⟩
theorem posQ_le_len {e : Nat} : posQ g t e ≤ (t.flatMap g).length := by
  rcases Nat.le_total e t.length with h | h
  · rw [← posQ_len]; exact posQ_mono h
  · unfold posQ; rw [List.take_of_length_le h]; exact Nat.le_refl _
include C in
theorem scan_code (ht : ∀ a ∈ t, D a) {e : Nat} (he : e ≤ t.length) : ∀ {ws : List (List Nat)} {s : Nat}, (∀ w ∈ ws, ∀ a ∈ w, D a) → s ≤ e → scanP (t.flatMap g) (posQ g t e) (ws.map (·.flatMap g)) (posQ g t s) = scanP t e ws s
  | [], s, _, _ => rfl
  | w :: ws, s, hw, hs => by
    rw [List.map_cons]
    unfold scanP findI
    have e1 : min (posQ g t e) (t.flatMap g).length = posQ g t e := Nat.min_eq_left posQ_le_len
    have e2 : min e t.length = e := Nat.min_eq_left he
    simp only [Int.toNat_natCast, e1, e2, find_code C ht (hw w (.head _)) hs he]
    cases hf : findP t w s e with
    | none => rfl
    | some k =>
      obtain ⟨h1, h2, h3⟩ := findP_some.mp hf
      have e3 : ¬ ((k : Nat) : Int) < 0 := by omega
      have e4 : ¬ ((posQ g t k : Nat) : Int) < 0 := by omega
      simp only [Option.map_some, e3, e4, if_false]
      rw [← Int.natCast_add, seg_pos h2.2, ← Int.natCast_add]
      exact scan_code ht he (fun w hw' => hw w (.tail _ hw')) h2.1
theorem flat_nil (C : Cod g D) {w : List Nat} (hw : ∀ a ∈ w, D a) : w.flatMap g = [] ↔ w = [] := by
  cases w with
  | nil => simp
  | cons a w => simp [C.ne a (hw a (.head _))]
theorem getLastD_map (ws : List (List Nat)) : (ws.map (·.flatMap g)).getLastD [] = (ws.getLastD []).flatMap g := by
  rw [List.getLastD_eq_getLast?, List.getLastD_eq_getLast?, List.getLast?_map]
  cases ws.getLast? <;> rfl
include C in
theorem last_code (ht : ∀ a ∈ t, D a) {ws : List (List Nat)} {s : Nat} (hw : ∀ w ∈ ws, ∀ a ∈ w, D a) (hs : s ≤ t.length) : lastP (t.flatMap g) (ws.map (·.flatMap g)) (posQ g t s) = lastP t ws s := by
  have hl : ∀ a ∈ ws.getLastD [], D a := by
    rw [List.getLastD_eq_getLast?]
    cases h : ws.getLast? with
    | none => intro a ha; cases ha
    | some w => exact hw w (List.mem_of_getLast? h)
  unfold lastP
  rw [getLastD_map]
  simp only [flat_nil C hl]
  have tail : ∀ {ws : List (List Nat)} {e : Nat}, (∀ w ∈ ws, ∀ a ∈ w, D a) → e ≤ t.length → tailP (t.flatMap g) (ws.map (·.flatMap g)) (posQ g t s) (posQ g t e) = tailP t ws s e := by
    intro ws e hw he
    unfold tailP
    have : ((posQ g t s : Nat) : Int) > (posQ g t e : Nat) ↔ (s : Int) > (e : Nat) := by
      have := posQ_le C ht hs he
      omega
    simp only [this]
    split
    · rfl
    · exact scan_code C ht he hw (by omega)
  split
  · rw [← posQ_len]; exact tail hw (Nat.le_refl _)
  · have hb : ((ws.getLastD []).flatMap g).isSuffixOf (t.flatMap g) = (ws.getLastD []).isSuffixOf t := by
      rw [Bool.eq_iff_iff, List.isSuffixOf_iff_suffix, List.isSuffixOf_iff_suffix]; exact suf_code C hl ht
    rw [hb]
    split
    · rename_i h
      rw [List.isSuffixOf_iff_suffix] at h
      have h1 := h.length_le
      have e1 : ((t.flatMap g).length : Int) - ((ws.getLastD []).flatMap g).length = (posQ g t (t.length - (ws.getLastD []).length) : Nat) := by
        have h2 : t.drop (t.length - (ws.getLastD []).length) = ws.getLastD [] := (List.suffix_iff_eq_drop.mp h).symm
        have := posQ_add (g := g) (t := t) (t.length - (ws.getLastD []).length) (ws.getLastD []).length
        rw [h2, List.take_length, Nat.sub_add_cancel h1, posQ_len] at this
        omega
      have e2 : (t.length : Int) - (ws.getLastD []).length = (t.length - (ws.getLastD []).length : Nat) := by omega
      rw [e1, e2, ← List.map_dropLast]
      exact tail (fun w hw' => hw w (List.dropLast_subset _ hw')) (by omega)
    · rfl
include C in
theorem em_code (ht : ∀ a ∈ t, D a) {ps : List (List Nat)} (hp : ∀ w ∈ ps, ∀ a ∈ w, D a) : emP (ps.map (·.flatMap g)) (t.flatMap g) = emP ps t := by
  match ps with
  | [] => rfl
  | [p] =>
    show (p.flatMap g == t.flatMap g) = (p == t)
    rw [Bool.eq_iff_iff, beq_iff_eq, beq_iff_eq]
    have hp := hp p (.head _)
    constructor
    · intro h
      have h1 := (pre_code C.ne C.pre hp ht).mp (by rw [h]; exact List.prefix_refl _)
      have h2 := (pre_code C.ne C.pre ht hp).mp (by rw [h]; exact List.prefix_refl _)
      exact h1.eq_of_length_le h2.length_le
    · rintro rfl; rfl
  | w :: q :: r =>
    show (if w.flatMap g = [] then lastP (t.flatMap g) ((w :: q :: r).map (·.flatMap g)) 0 else if (w.flatMap g).isPrefixOf (t.flatMap g) then lastP (t.flatMap g) ((q :: r).map (·.flatMap g)) (w.flatMap g).length else false) =
      (if w = [] then lastP t (w :: q :: r) 0 else if w.isPrefixOf t then lastP t (q :: r) w.length else false)
    have hw := hp w (.head _)
    simp only [flat_nil C hw]
    split
    · exact last_code C ht (s := 0) hp (Nat.zero_le _)
    · have hb : (w.flatMap g).isPrefixOf (t.flatMap g) = w.isPrefixOf t := by
        rw [Bool.eq_iff_iff, List.isPrefixOf_iff_prefix, List.isPrefixOf_iff_prefix]; exact pre_code C.ne C.pre hw ht
      rw [hb]
      split
      · rename_i h
        rw [List.isPrefixOf_iff_prefix] at h
        have e : (w.flatMap g).length = posQ g t w.length := by
          unfold posQ; rw [← List.prefix_iff_eq_take.mp h]
        rw [e]
        exact last_code C ht (fun w' hw' => hp w' (.tail _ hw')) h.length_le
      · rfl
end
end
section
set_option Elab.async false
set_option linter.unusedVariables false
-- a word within another
noncomputable def subB : List Nat → List Nat → Bool
  | [], _ => true
  | _ :: _, [] => false
  | a :: u, b :: v => if a = b then subB u v else subB (a :: u) v
theorem findP_end (got : List Nat) (a e : Nat) : findP got [a] e e = none := by
  rw [findP_none]
  intro j hj h
  have := h.1
  simp at this
  omega
theorem findP_step {got : List Nat} {a s e : Nat} (h : s < e) : findP got [a] s e = if got[s]? = some a then some s else findP got [a] (s + 1) e := by
  unfold findP
  have e1 : e + 1 - s = (e + 1 - (s + 1)) + 1 := by omega
  rw [e1, List.range'_succ, List.find?_cons]
  have e2 : (decide (s + [a].length ≤ e) && atP got [a] s) = decide (got[s]? = some a) := by
    rw [decide_eq_true (show s + [a].length ≤ e by simp; omega), Bool.true_and]
    unfold atP
    rw [Bool.eq_iff_iff, beq_iff_eq, decide_eq_true_iff]
    have : (got.drop s).take [a].length = got[s]?.toList := by
      rw [List.length_singleton, List.take_one, List.head?_drop]
    rw [this]
    cases got[s]? <;> simp
  rw [e2]
  by_cases hs : got[s]? = some a
  · rw [decide_eq_true hs, if_pos hs]
  · rw [decide_eq_false hs, if_neg hs]
theorem scanP_cons (got : List Nat) (hi : Int) (w : List Nat) (ws : List (List Nat)) (s : Int) : scanP got hi (w :: ws) s = if findI got w s hi < 0 then false else scanP got hi ws (findI got w s hi + w.length) := rfl
theorem scan_sub (got : List Nat) {e : Nat} (he : e ≤ got.length) : ∀ (n s : Nat) (u : List Nat), s + n = e → scanP got e (u.map fun a => [a]) s = subB u ((got.take e).drop s)
  | n, s, [], _ => by cases h : (got.take e).drop s <;> rfl
  | 0, s, a :: u, h => by
    have hs : s = e := by omega
    subst hs
    rw [List.map_cons]
    unfold scanP findI
    have e1 : min ((s : Nat) : Int).toNat got.length = s := by omega
    rw [e1, Int.toNat_natCast, findP_end]
    rw [List.drop_eq_nil_of_le (by simp; omega)]
    rfl
  | n + 1, s, a :: u, h => by
    have ih1 := scan_sub got he n (s + 1) u (by omega)
    have ih2 := scan_sub got he n (s + 1) (a :: u) (by omega)
    have hs : s < e := by omega
    have hg : s < got.length := by omega
    have hd : (got.take e).drop s = got[s] :: (got.take e).drop (s + 1) := by
      rw [List.drop_eq_getElem_cons (by simp; omega)]; simp
    have e1 : min ((e : Nat) : Int).toNat got.length = e := by omega
    have fi : ∀ s' : Nat, findI got [a] (s' : Int) e = (match findP got [a] s' e with | some k => (k : Int) | none => -1) := fun s' => by unfold findI; rw [e1, Int.toNat_natCast]; try (cases findP got [a] s' e <;> rfl)
    rw [hd]
    rw [List.map_cons, scanP_cons, fi] at ih2 ⊢
    rw [findP_step hs]
    unfold subB
    have hgs : got[s]? = some got[s] := List.getElem?_eq_getElem hg
    by_cases ha : a = got[s]
    · have hc : got[s]? = some a := by rw [hgs, ha]
      rw [if_pos hc, if_pos ha]
      show (if ((s : Nat) : Int) < 0 then false else scanP got e (u.map fun a => [a]) ((s : Int) + 1)) = _
      rw [if_neg (by omega)]
      exact ih1
    · have hc : ¬ got[s]? = some a := by rw [hgs]; intro e; exact ha (Option.some.inj e).symm
      rw [if_neg hc, if_neg ha]
      exact ih2
theorem em_sub (hb fb : Nat) (u v : List Nat) : emP ((hb :: (u ++ [fb])).map fun a => [a]) (hb :: (v ++ [fb])) = subB u v := by
  have h1 : lastP (hb :: (v ++ [fb])) ((u ++ [fb]).map fun a => [a]) 1 = subB u v := by
    unfold lastP
    have hl : ((u ++ [fb]).map fun a => [a]).getLastD [] = [fb] := by simp [List.getLastD_eq_getLast?]
    rw [hl]
    show (if [fb] = [] then _ else if [fb].isSuffixOf (hb :: (v ++ [fb])) then tailP (hb :: (v ++ [fb])) _ _ (((hb :: (v ++ [fb])).length : Int) - ([fb].length : Nat)) else false) = _
    rw [if_neg (by simp), if_pos (by rw [List.isSuffixOf_iff_suffix]; exact ⟨hb :: v, by simp⟩)]
    have hd : ((u ++ [fb]).map fun a => [a]).dropLast = u.map fun a => [a] := by simp
    rw [hd]
    unfold tailP
    have e1 : ((hb :: (v ++ [fb])).length : Int) - ([fb].length : Nat) = ((v.length + 1 : Nat) : Int) := by simp only [List.length_cons, List.length_append, List.length_nil]; omega
    rw [e1, if_neg (by omega)]
    have := scan_sub (hb :: (v ++ [fb])) (e := v.length + 1) (by simp) v.length 1 u (by omega)
    rw [show ((1 : Nat) : Int) = 1 from rfl] at this
    rw [this]
    congr 1
    simp
  show emP ([hb] :: ((u ++ [fb]).map fun a => [a])) _ = _
  cases hq : ((u ++ [fb]).map fun a => [a]) with
  | nil => simp at hq
  | cons q r =>
    rw [hq] at h1
    show (if [hb] = [] then lastP (hb :: (v ++ [fb])) ([hb] :: q :: r) 0 else if [hb].isPrefixOf (hb :: (v ++ [fb])) then lastP (hb :: (v ++ [fb])) (q :: r) [hb].length else false) = _
    rw [if_neg (by simp), if_pos (by rw [List.isPrefixOf_iff_prefix]; exact ⟨v ++ [fb], rfl⟩)]
    exact h1

-- the distance depends on which signs agree alone
theorem inS_congr {sub sub' : Nat → Int} {row0 : List Int} {base : Int} : ∀ {n : Nat}, (∀ i < n, sub i = sub' i) → inS sub row0 base n = inS sub' row0 base n
  | 0, _ => rfl
  | n + 1, h => by
    unfold inS
    rw [inS_congr (n := n) fun i hi => h i (Nat.lt_succ_of_lt hi), h n (Nat.lt_succ_self n)]
theorem outS_congr {sub sub' : Nat → Nat → Int} {n : Nat} : ∀ {m : Nat}, (∀ j < m, ∀ i < n, sub j i = sub' j i) → outS sub n m = outS sub' n m
  | 0, _ => rfl
  | m + 1, h => by
    unfold outS
    rw [outS_congr (m := m) fun j hj => h j (Nat.lt_succ_of_lt hj), inS_congr (h m (Nat.lt_succ_self m))]
theorem gridP_congr {sub sub' : Nat → Nat → Int} {n m : Nat} {mx : Int} (h : ∀ j < m, ∀ i < n, sub j i = sub' j i) : gridP sub n m mx = gridP sub' n m mx := by
  unfold gridP
  rw [outS_congr h]
  have : overS sub n mx m = overS sub' n mx m := by
    unfold overS
    rw [Bool.eq_iff_iff, List.any_eq_true, List.any_eq_true]
    have key : ∀ j < m, minS sub n j = minS sub' n j := fun j hj => by
      unfold minS
      rw [outS_congr (m := j) fun j' hj' => h j' (by omega), inS_congr (h j hj)]
    constructor
    · rintro ⟨j, hj, h'⟩; exact ⟨j, hj, by rw [← key j (List.mem_range.mp hj)]; exact h'⟩
    · rintro ⟨j, hj, h'⟩; exact ⟨j, hj, by rw [key j (List.mem_range.mp hj)]; exact h'⟩
  rw [this]
section
variable {f : Nat → Nat} {D : Nat → Prop} (inj : ∀ i j, D i → D j → f i = f j → i = j)
include inj
theorem map_inj_on : ∀ {a b : List Nat}, (∀ i ∈ a, D i) → (∀ i ∈ b, D i) → a.map f = b.map f → a = b
  | [], [], _, _, _ => rfl
  | [], _ :: _, _, _, h => by simp at h
  | _ :: _, [], _, _, h => by simp at h
  | x :: a, y :: b, ha, hb, h => by
    simp only [List.map_cons, List.cons.injEq] at h
    rw [inj x y (ha _ (.head _)) (hb _ (.head _)) h.1, map_inj_on (fun i hi => ha i (.tail _ hi)) (fun i hi => hb i (.tail _ hi)) h.2]
theorem cpl_map : ∀ {a b : List Nat}, (∀ i ∈ a, D i) → (∀ i ∈ b, D i) → cpl (a.map f) (b.map f) = cpl a b
  | [], b, _, _ => by cases b <;> rfl
  | _ :: _, [], _, _ => rfl
  | x :: a, y :: b, ha, hb => by
    rw [List.map_cons, List.map_cons]
    unfold cpl
    rw [cpl_map (fun i hi => ha i (.tail _ hi)) (fun i hi => hb i (.tail _ hi))]
    by_cases h : x = y
    · rw [if_pos h, if_pos (by rw [h])]
    · rw [if_neg h, if_neg fun e => h (inj x y (ha _ (.head _)) (hb _ (.head _)) e)]
theorem lev_map {sub sub' : Nat → Nat → Int} (hs : ∀ i j, D i → D j → sub (f i) (f j) = sub' i j) {a b : List Nat} (ha : ∀ i ∈ a, D i) (hb : ∀ i ∈ b, D i) (mx : Int) : levP sub (a.map f) (b.map f) mx = levP sub' a b mx := by
  have pair : ∀ {a b : List Nat}, (∀ i ∈ a, D i) → (∀ i ∈ b, D i) → pairP sub (a.map f) (b.map f) mx = pairP sub' a b mx := by
    intro a b ha hb
    unfold pairP
    rw [List.length_map, List.length_map]
    rw [gridP_congr (sub' := fun j i => sub' (b.getD j 0) (a.getD i 0))]
    intro j hj i hi
    show sub ((b.map f).getD j 0) ((a.map f).getD i 0) = sub' (b.getD j 0) (a.getD i 0)
    have e1 : (b.map f).getD j 0 = f (b.getD j 0) := by simp [hj]
    have e2 : (a.map f).getD i 0 = f (a.getD i 0) := by simp [hi]
    rw [e1, e2]
    exact hs _ _ (hb _ (by rw [List.getD_eq_getElem?_getD, List.getElem?_eq_getElem hj]; exact List.getElem_mem hj)) (ha _ (by rw [List.getD_eq_getElem?_getD, List.getElem?_eq_getElem hi]; exact List.getElem_mem hi))
  have core : ∀ {a b : List Nat}, (∀ i ∈ a, D i) → (∀ i ∈ b, D i) → coreP sub (a.map f) (b.map f) mx = coreP sub' a b mx := by
    intro a b ha hb
    unfold coreP
    simp only [List.map_eq_nil_iff, List.length_map, pair ha hb, pair hb ha]
  unfold levP
  have e0 : (a.map f = b.map f) ↔ (a = b) := ⟨map_inj_on inj ha hb, fun h => by rw [h]⟩
  simp only [e0, cpl_map inj ha hb, ← List.map_drop, ← List.map_reverse, List.length_map, ← List.map_take]
  rw [cpl_map inj (a := (a.drop (cpl a b)).reverse) (b := (b.drop (cpl a b)).reverse) (fun i hi => ha i (List.mem_of_mem_drop (List.mem_reverse.mp hi))) (fun i hi => hb i (List.mem_of_mem_drop (List.mem_reverse.mp hi)))]
  split
  · rfl
  · exact core (fun i hi => ha i (List.mem_of_mem_drop (List.mem_of_mem_take hi))) (fun i hi => hb i (List.mem_of_mem_drop (List.mem_of_mem_take hi)))
end
-- a text with a piece left out
theorem cpl_pre : ∀ {a b : List Nat}, a <+: b → cpl a b = a.length
  | [], b, _ => by cases b <;> rfl
  | x :: a, [], h => by simp at h
  | x :: a, y :: b, h => by
    rw [List.cons_prefix_cons] at h
    unfold cpl
    rw [if_pos h.1, cpl_pre h.2]; rfl
theorem cpl_app : ∀ (p a b : List Nat), cpl (p ++ a) (p ++ b) = p.length + cpl a b
  | [], a, b => by simp
  | x :: p, a, b => by
    show (if x = x then cpl (p ++ a) (p ++ b) + 1 else 0) = _
    rw [if_pos rfl, cpl_app p a b, List.length_cons]
    omega
theorem lev_minus {sub : Nat → Nat → Int} {p m s : List Nat} {mx : Int} (hm : m ≠ []) : levP sub (p ++ s) (p ++ (m ++ s)) mx = 2 * (m.length : Int) := by
  unfold levP
  have hne : ¬ (p ++ s = p ++ (m ++ s)) := by
    intro h
    have h1 := congrArg List.length h
    have h2 := List.length_pos_iff.mpr hm
    simp only [List.length_append] at h1
    omega
  rw [if_neg hne]
  simp only [cpl_app]
  have hc := cpl_le s (m ++ s)
  generalize hk : cpl s (m ++ s) = k at hc
  have e1 : (p ++ s).drop (p.length + k) = s.drop k := by rw [← List.drop_drop, List.drop_left]
  have e2 : (p ++ (m ++ s)).drop (p.length + k) = (m ++ s).drop k := by rw [← List.drop_drop, List.drop_left]
  rw [e1, e2]
  have hsuf : s.drop k <:+ (m ++ s).drop k := by
    have h1 : s.drop k <:+ m ++ s := (List.drop_suffix _ _).trans (List.suffix_append _ _)
    have h2 : (m ++ s).drop k <:+ m ++ s := List.drop_suffix _ _
    rcases List.suffix_or_suffix_of_suffix h1 h2 with h | h
    · exact h
    · have hl := h.length_le
      have : 0 < m.length := List.length_pos_iff.mpr hm
      simp at hl
      omega
  have hl : cpl (s.drop k).reverse ((m ++ s).drop k).reverse = (s.drop k).length := by
    rw [cpl_pre (List.reverse_prefix.mpr hsuf), List.length_reverse]
  rw [hl, Nat.sub_self, List.take_zero]
  unfold coreP
  rw [if_pos (.inl rfl)]
  simp
  omega
end
section
set_option Elab.async false
set_option linter.unusedVariables false
set_option maxRecDepth 100000
-- the orders of a word (the number of ways down to the empty word)
noncomputable def ordStep (eq : Bool) (ends : List Int) : List Int := (List.range (ends.length + 1)).map fun k => if eq then (ends.take k).sum else (ends.drop k).sum
noncomputable def ordEnds (up : Nat) (word : List Nat) : List Int := word.foldl (fun ends z => ordStep (z == up) ends) [1]
noncomputable def ordP (up : Nat) (word : List Nat) : Int := (ordEnds up word).sum
theorem ordEnds_len (up : Nat) (word : List Nat) : (ordEnds up word).length = word.length + 1 := by
  unfold ordEnds
  have : ∀ (w : List Nat) (e : List Int), (w.foldl (fun ends z => ordStep (z == up) ends) e).length = e.length + w.length := by
    intro w
    induction w with
    | nil => intro e; rfl
    | cons z w ih => intro e; rw [List.foldl_cons, ih]; simp [ordStep]; omega
  rw [this]; simp; omega
theorem ordP_map {f : Nat → Nat} {up : Nat} {w : List Nat} (h : ∀ z ∈ w, (f z == up) = (z == 0)) : ordP up (w.map f) = ordP 0 w := by
  unfold ordP ordEnds
  congr 1
  generalize ([1] : List Int) = e
  induction w generalizing e with
  | nil => rfl
  | cons z w ih =>
    rw [List.map_cons, List.foldl_cons, List.foldl_cons, h z (.head _)]
    exact ih (fun z' hz => h z' (.tail _ hz)) _
-- words over 0 and 1
noncomputable def wordsN : Nat → List (List Nat)
  | 0 => [[]]
  | n + 1 => (wordsN n).flatMap fun w => [0 :: w, 1 :: w]
theorem wordsN_mem : ∀ {w : List Nat}, (∀ a ∈ w, a < 2) → w ∈ wordsN w.length
  | [], _ => .head _
  | a :: w, h => by
    have ih := wordsN_mem (w := w) fun b hb => h b (.tail _ hb)
    have ha := h a (.head _)
    show _ ∈ (wordsN w.length).flatMap _
    rw [List.mem_flatMap]
    refine ⟨w, ih, ?_⟩
    have : a = 0 ∨ a = 1 := by omega
    rcases this with rfl | rfl <;> simp
noncomputable def subT (p : Int) (i j : Nat) : Int := if i = j then 0 else if i < 2 ∧ j < 2 then p else 2
noncomputable def hamT (u v : List Nat) : Nat := ((List.range u.length).filter fun k => u.getD k 0 != v.getD k 0).length
noncomputable def dueT (p : Int) (u v : List Nat) : Int := if u.drop 1 = v.dropLast ∨ v.drop 1 = u.dropLast then (if 4 < p * hamT u v then 4 else p * hamT u v) else p * hamT u v
noncomputable def partT (w : List Nat) (c : Nat) : List Nat := ((List.range w.length).filter fun i => c / 2 ^ i % 2 == 1).map fun i => w.getD i 0
noncomputable def foundN (w : List Nat) (n : Nat) : List (List Nat) := (List.range n).foldl (fun F c => if F.contains (partT w c) then F else F ++ [partT w c]) []
noncomputable def foundT (w : List Nat) : List (List Nat) := foundN w (2 ^ w.length)
noncomputable def factA (p : Int) (n : Nat) : Bool := (wordsN n).all fun u => (wordsN n).all fun v => u == v || (levP (subT p) u v (dueT p u v) == dueT p u v && !subB u v)
theorem fA : (factA 1 1 && factA 1 2 && factA 1 3 && factA 2 1 && factA 2 2 && factA 2 3) = true := by decide +kernel
noncomputable def factB (p : Int) (n : Nat) : Bool := (wordsN n).all fun u => (List.range n).all fun k => (wordsN k).all fun v => (levP (subT p) u v (2 * ((n : Int) - k)) == 2 * ((n : Int) - k)) == subB v u
theorem fB : (factB 1 1 && factB 1 2 && factB 1 3 && factB 1 4 && factB 2 1 && factB 2 2 && factB 2 3 && factB 2 4) = true := by decide +kernel
noncomputable def factC (w : List Nat) : Bool :=
  let F := foundT w
  F.all fun u => (u == [] || (((F.filter fun v => v.length + 1 == u.length && subB v u).map (ordP 0)).sum == ordP 0 u)) && subB u u && decide (u.length ≤ w.length) && (u == w || decide (u.length < w.length)) && u.all (fun a => decide (a < 2)) &&
    (!(u.length + 1 == w.length) || (List.range w.length).any fun k => u == w.eraseIdx k)
theorem fC : ((wordsN 2).all factC && (wordsN 3).all factC && (wordsN 4).all factC) = true := by decide +kernel
noncomputable def factD (w : List Nat) : Bool := decide (foundT w).Nodup && (foundT w).contains [] && (foundT w).contains w && decide ((foundT w).length ≤ 16)
theorem fD : ((wordsN 2).all factD && (wordsN 3).all factD && (wordsN 4).all factD) = true := by decide +kernel
noncomputable def factF (w : List Nat) : Bool := [0, 1].all fun hb => [0, 1].all fun fb =>
  ([0, 1].all fun o => [0, 1].all fun q => (emP [[o], [q]] (hb :: (w ++ [fb])) == (o == hb && q == fb)) && !emP [[o], [q]] [hb]) &&
  emP [[], []] (hb :: (w ++ [fb])) && emP ([] :: (((hb :: (w ++ [fb])).map fun a => [a]) ++ [[]])) (hb :: (w ++ [fb]))
theorem fF : ((wordsN 2).all factF && (wordsN 3).all factF && (wordsN 4).all factF) = true := by decide +kernel
theorem fI : emP [[0], [0, 0], [0, 0], [0]] [0, 0, 0, 0, 0] = false ∧ emP [[0], [0, 0], [0, 0], [0]] [0, 0, 0, 0, 0, 0] = true := by decide +kernel
noncomputable def factJ (p : Int) (w : List Nat) : Bool := levP (subT p) (w ++ [2]) (2 :: w) 4 == 4
theorem fJ : ((wordsN 2).all (factJ 1) && (wordsN 3).all (factJ 1) && (wordsN 4).all (factJ 1) && (wordsN 2).all (factJ 2) && (wordsN 3).all (factJ 2) && (wordsN 4).all (factJ 2)) = true := by decide +kernel
end
section
open PySem PySem.W PyProof.Rows
set_option Elab.async false
set_option linter.unusedVariables false
set_option maxRecDepth 100000

noncomputable def stAt (v : Program) (i : Nat) : Stmt := v.main.body.getD i default
noncomputable def recOf : Stmt → DefRec
  | .FunctionDef n a b _ _ _ sc _ _ p => ⟨n, a, b, sc, p⟩
  | _ => ⟨default, default, [], default, default⟩
noncomputable def dAt (i : Nat) : DefRec := recOf (stAt hd.view_39 i)

structure IsT (T : TC) : Prop where
  view : T.view = hd.view_39
  loose : T.loose = looseW hd.view_39 []

theorem GlobIs.fn {T : TC} (i : Nat) {x : Str} (hm : dAt i ∈ recsOf hd.view_39) (hx : (dAt i).name = x) (hd : (x == ("__debug__" : Str)) = false) (hT : IsT T) : GlobIs T x (.fn x) := by
  refine ⟨hd, ?_⟩
  obtain ⟨a, o, pm, code, doc, h1, _⟩ := T.top.fn (dAt i) (by rw [hT.view]; exact hm)
  rw [hx] at h1
  exact ⟨_, .inl h1, fun s U => by unfold Rep; exact ⟨a, rfl, h1⟩⟩
theorem GlobIs.int {T : TC} {x : Str} {i : Int} (hv : valOf hd.view_39 x = some (.int i)) (hd : (x == ("__debug__" : Str)) = false) (hT : IsT T) : GlobIs T x (.int i) := by
  refine ⟨hd, ?_⟩
  obtain ⟨v, h1, h2⟩ := T.top.const x _ (by rw [hT.view]; exact hv)
  refine ⟨v, .inl h1, fun s U => ?_⟩
  have := h2 T.h₀
  cases this
  exact Rep.int_
theorem GlobIs.str {T : TC} {x y : Str} {l : List Nat} (hv : valOf hd.view_39 x = some (.str y)) (hy : y = S l) (hL : l.length ≤ 1048576) (hd : (x == ("__debug__" : Str)) = false) (hT : IsT T) : GlobIs T x (.str l) := by
  refine ⟨hd, ?_⟩
  obtain ⟨v, h1, h2⟩ := T.top.const x _ (by rw [hT.view]; exact hv)
  refine ⟨v, .inl h1, fun s U => ?_⟩
  have := h2 T.h₀
  subst hy
  cases this
  exact Rep.str_ hL
theorem GlobIs.raw {T : TC} {x : Str} {v : Value} (hb : bootBuiltins x = some v) (hn : x ≠ "__name__")
    (hf : (decide (x ∉ startupNames) && decide (x ∉ looseW hd.view_39 []) && decide (x ∉ (recsOf hd.view_39).map (·.name)) && decide (x ∉ (litsOf hd.view_39).map (·.1)) && decide (x ∉ (clssOf hd.view_39 (looseW hd.view_39 [])).map (·.name))) = true)
    (hd : (x == ("__debug__" : Str)) = false) (hT : IsT T) : GlobIs T x (.raw v) := by
  refine ⟨hd, v, .inr ⟨?_, (T.top.builtins x hn).trans hb⟩, fun s U => by unfold Rep; rfl⟩
  simp only [Bool.and_eq_true, decide_eq_true_eq] at hf
  obtain ⟨⟨⟨⟨h1, h2⟩, h3⟩, h4⟩, h5⟩ := hf
  refine T.top.free x h1 ?_ ?_ ?_ ?_
  · rw [hT.loose]; exact h2
  · rw [hT.view]; exact h3
  · rw [hT.view]; exact h4
  · rw [hT.view, hT.loose]; exact h5

theorem len1 {α : Type} {P : List α → Prop} (h : ∀ a0, P [a0]) : ∀ l : List α, l.length = 1 → P l
  | [a0], _ => h a0
theorem len2 {α : Type} {P : List α → Prop} (h : ∀ a0 a1, P [a0, a1]) : ∀ l : List α, l.length = 2 → P l
  | [a0, a1], _ => h a0 a1
theorem len3 {α : Type} {P : List α → Prop} (h : ∀ a0 a1 a2, P [a0, a1, a2]) : ∀ l : List α, l.length = 3 → P l
  | [a0, a1, a2], _ => h a0 a1 a2
theorem len4 {α : Type} {P : List α → Prop} (h : ∀ a0 a1 a2 a3, P [a0, a1, a2, a3]) : ∀ l : List α, l.length = 4 → P l
  | [a0, a1, a2, a3], _ => h a0 a1 a2 a3
-- a list of them
inductive Globs (T : TC) (nm : List (Str × NameKind)) : List (Str × V) → Prop
  | nil : Globs T nm []
  | cons {x p G} : GlobIs T x p → nm.lookup x = some .globalImplicit → Globs T nm G → Globs T nm ((x, p) :: G)
theorem Globs.of {T : TC} {nm G x p} (h : Globs T nm G) (a : AtG G x p) : (x == ("__debug__" : Str)) = false ∧ nm.lookup x = some .globalImplicit ∧ ∃ v, (T.mg x = some v ∨ (T.mg x = none ∧ T.mb x = some v)) ∧ ∀ s U, Rep T s U v p := by
  induction h with
  | nil => cases a
  | cons h1 h2 _ ih =>
    cases a with
    | here => exact ⟨h1.1, h2, h1.2⟩
    | there a => exact ih a

-- the marks of a function, by computation
noncomputable def fnB (d : DefRec) (N : List Str) : Bool :=
  decide N.Nodup && (N.all fun x => !(x == ("__debug__" : Str))) && (N.all fun x => d.scope.names.lookup x == some .local || d.scope.names.lookup x == some .cell) && d.scope.kind == .function && !d.scope.isCoroutine && !d.scope.isGenerator
theorem FnCx.of {T : TC} {i d : Nat} {G params rest} (hT : IsT T) (hm : dAt i ∈ recsOf hd.view_39) (hb : fnB (dAt i) (params ++ rest) = true) (hg : Globs T (dAt i).scope.names G)
    (hbind : ∀ pm code doc vals, vals.length = params.length → bindArgs (Calls.docDef (dAt i).name (dAt i).params (dAt i).body (dAt i).scope pm code doc) ⟨vals, []⟩ = pure (params.zip vals)) :
    FnCx T (dAt i) ⟨d, (dAt i).scope.names, params ++ rest, G⟩ params rest := by
  unfold fnB at hb
  simp only [Bool.and_eq_true, decide_eq_true_eq, List.all_eq_true, Bool.not_eq_true', beq_iff_eq, Bool.or_eq_true] at hb
  obtain ⟨⟨⟨⟨⟨h1, h2⟩, h3⟩, h4⟩, h5⟩, h6⟩ := hb
  exact ⟨by rw [hT.view]; exact hm, rfl, rfl, h1, h2, h3, h4, h5, h6, fun x p a => hg.of a, hbind⟩
theorem mem_view (i : Nat) (h1 : hd.view_39.main.body[i]? = some (stAt hd.view_39 i)) (h2 : (match stAt hd.view_39 i with
  | .FunctionDef name _ _ _ _ _ _ _ _ pos => (match (hd.view_39).theDef name with
    | some (a, b, sc) => (match a.defaults, kwLiteralsOf? a.kwonlyargs a.kw_defaults with
      | [], some [] => some (⟨name, a, b, sc, pos⟩ : DefRec)
      | _, _ => none)
    | none => none)
  | _ => none) = some (dAt i)) : dAt i ∈ recsOf hd.view_39 := by
  unfold recsOf
  rw [List.mem_filterMap]
  exact ⟨_, List.mem_of_getElem? h1, h2⟩
theorem m1 : dAt 1 ∈ recsOf hd.view_39 := mem_view 1 (by kernel_rfl) (by kernel_rfl)
theorem m5 : dAt 5 ∈ recsOf hd.view_39 := mem_view 5 (by kernel_rfl) (by kernel_rfl)
theorem m6 : dAt 6 ∈ recsOf hd.view_39 := mem_view 6 (by kernel_rfl) (by kernel_rfl)
theorem n1 : (dAt 1).name = Str.ofString "_ellipsis_match" := by kernel_rfl
theorem n5 : (dAt 5).name = Str.ofString "_substitution_cost" := by kernel_rfl
theorem n6 : (dAt 6).name = Str.ofString "_levenshtein_distance" := by kernel_rfl

theorem g_case {T} (hT : IsT T) : GlobIs T "_CASE_COST" (.int 1) := GlobIs.int (by kernel_rfl) (by decide +kernel) hT
theorem g_move {T} (hT : IsT T) : GlobIs T "_MOVE_COST" (.int 2) := GlobIs.int (by kernel_rfl) (by decide +kernel) hT
theorem g_max {T} (hT : IsT T) : GlobIs T "_MAX_STRING_SIZE" (.int 40) := GlobIs.int (by kernel_rfl) (by decide +kernel) hT
theorem g_ell {T} (hT : IsT T) : GlobIs T "ELLIPSIS_MARKER" (.str [46, 46, 46]) := GlobIs.str (y := Str.ofString "...") (by kernel_rfl) (by decide +kernel) (by decide) (by decide +kernel) hT
theorem g_len {T} (hT : IsT T) : GlobIs T "len" (.raw (.builtin "len")) := GlobIs.raw (by decide +kernel) (by decide +kernel) (by decide +kernel) (by decide +kernel) hT
theorem g_min {T} (hT : IsT T) : GlobIs T "min" (.raw (.builtin "min")) := GlobIs.raw (by decide +kernel) (by decide +kernel) (by decide +kernel) (by decide +kernel) hT
theorem g_range {T} (hT : IsT T) : GlobIs T "range" (.raw (.type "range")) := GlobIs.raw (by decide +kernel) (by decide +kernel) (by decide +kernel) (by decide +kernel) hT
theorem g_list {T} (hT : IsT T) : GlobIs T "list" (.raw (.type "list")) := GlobIs.raw (by decide +kernel) (by decide +kernel) (by decide +kernel) (by decide +kernel) hT
theorem g_sub {T} (hT : IsT T) : GlobIs T "_substitution_cost" (.fn "_substitution_cost") := GlobIs.fn 5 m5 n5 (by decide +kernel) hT
end
local macro_rules | `(tactic| walk_at "at") => `(tactic| first
  | (with_reducible exact At.here) | (with_reducible exact At.h1) | (with_reducible exact At.h2) | (with_reducible exact At.h3) | ((with_reducible apply At.j4); walk_at "at")
  | (with_reducible exact Upd.here) | (with_reducible exact Upd.h1) | (with_reducible exact Upd.h2) | (with_reducible exact Upd.h3) | ((with_reducible apply Upd.j4); walk_at "at")
  | (with_reducible exact AtG.here) | (with_reducible exact AtG.h1) | (with_reducible exact AtG.h2) | (with_reducible exact AtG.h3) | ((with_reducible apply AtG.j4); walk_at "at"))
local macro_rules | `(tactic| walk_at "op2") => `(tactic| first
  | exact Op2.add | exact Op2.sub | (refine Op2.mulr ?_; omega) | (refine Op2.mull ?_; omega) | (refine Op2.mod' ?_; omega) | (refine Op2.div' ?_ ?_ <;> omega))
local macro_rules | `(tactic| walk_at "cm2") => `(tactic| first
  | exact Cm2.eq | exact Cm2.ne | exact Cm2.lt | exact Cm2.gt | exact Cm2.ge | exact Cm2.eqs | exact Cm2.nes | exact Cm2.eqb)
local macro_rules | `(tactic| walk_at "tr") => `(tactic| first
  | ((with_reducible refine' Tr.cmp ?a ?b ?c ?d); (case a => walk_at "ev"); (case b => walk_at "ev"); (case c => walk_at "cm2"); (case d => with_unfolding_all rfl)))
local macro_rules | `(tactic| walk_at "ev") => `(tactic| first
  | ((with_reducible refine' Ev.name ?a); (case a => walk_at "at"); done)
  | ((with_reducible refine' Ev.glob ?a); (case a => walk_at "at"); done)
  | (with_reducible exact Ev.int) | (with_reducible exact Ev.none) | (with_reducible exact Ev.bool)
  | ((with_reducible refine' Ev.bin ?a ?b ?c); (case a => walk_at "ev"); (case b => walk_at "ev"); (case c => walk_at "op2"))
  | ((with_reducible refine' Ev.cmp ?a ?b ?c ?d); (case a => walk_at "ev"); (case b => walk_at "ev"); (case c => walk_at "cm2"); (case d => with_unfolding_all rfl))
  | ((with_reducible refine' Ev.callb ?a (EvL.cons ?b EvL.nil) ?c ?d ?e); (case a => walk_at "ev"); (case b => walk_at "ev"); (case c => first | exact Bcl.lens); (case d => intro _; rfl); (case e => intro e; cases e))
  | ((with_reducible refine' Ev.neg ?a); (case a => walk_at "ev")))
local macro_rules | `(tactic| walk_at "wk") => `(tactic| repeat (first | (with_reducible exact Weak.nil) | (with_reducible apply Weak.keep) | (with_reducible apply Weak.drop)))
section
open PySem PySem.W PyProof.Rows
set_option Elab.async false
set_option linter.unusedVariables false
set_option maxRecDepth 100000
variable {T : TC}


noncomputable def subP (x y : Nat) : Int := if x = y then 0 else if lowP x = lowP y then 1 else 2
@[reducible] noncomputable def cSub : Cx := ⟨0, (dAt 5).scope.names, [Str.ofString "ch_a", Str.ofString "ch_b"], [(Str.ofString "_CASE_COST", .int 1), (Str.ofString "_MOVE_COST", .int 2)]⟩
theorem fSub (hT : IsT T) : FnCx T (dAt 5) cSub [Str.ofString "ch_a", Str.ofString "ch_b"] [] :=
  FnCx.of (params := [Str.ofString "ch_a", Str.ofString "ch_b"]) (rest := []) hT m5 (by decide +kernel) (.cons (g_case hT) (by decide +kernel) (.cons (g_move hT) (by decide +kernel) .nil)) (fun _ _ _ => len2 fun _ _ => rfl)
theorem cal_sub {dd : Nat} (hT : IsT T) (hd : 1 ≤ dd) {x y : Nat} (hx : x < 128) (hy : y < 128) : Cal T dd "_substitution_cost" [.str [x], .str [y]] (.int (subP x y)) := by
  rw [← n5]
  refine Cal.of (fSub hT) rfl hd ?_
  show Ex T cSub [.val (.str [x]), .val (.str [y])] (dAt 5).body (.ret (.int (subP x y)))
  unfold subP
  by_cases h : x = y
  · refine Ex.castr (p := .int 0) (Ex.ret (Ex1.if_ (b := true) (Tr.cast (Tr.cmp (Ev.name (by walk_at "at")) (Ev.name (by walk_at "at")) Cm2.eqs) (by simp [h])) (fun _ => Ex.ret (Ex1.return_ Ev.int)) (by simp))) (by simp [h])
  · refine Ex.cons (Ex1.skip (Tr.cast (Tr.cmp (Ev.name (by walk_at "at")) (Ev.name (by walk_at "at")) Cm2.eqs) (by simp [h]))) ?_
    by_cases h2 : lowP x = lowP y
    · refine Ex.castr (p := .int 1) (Ex.ret (Ex1.if_ (b := true) (Tr.cast (Tr.cmp (Ev.meth0 (Ev.name (by walk_at "at")) (Mth.lower hx)) (Ev.meth0 (Ev.name (by walk_at "at")) (Mth.lower hy)) Cm2.eqs) (by simp [h2])) (fun _ => Ex.ret (Ex1.return_ (Ev.glob (by walk_at "at")))) (by simp))) (by simp [h, h2])
    · refine Ex.cons (Ex1.skip (Tr.cast (Tr.cmp (Ev.meth0 (Ev.name (by walk_at "at")) (Mth.lower hx)) (Ev.meth0 (Ev.name (by walk_at "at")) (Mth.lower hy)) Cm2.eqs) (by simp [h2]))) ?_
      exact Ex.castr (p := .int 2) (Ex.ret (Ex1.return_ (Ev.glob (by walk_at "at")))) (by simp [h, h2])
end
section
open PySem PySem.W PyProof.Rows
set_option Elab.async false
set_option linter.unusedVariables false
set_option maxRecDepth 100000
variable {T : TC}


@[reducible] noncomputable def nLev : List Str := [Str.ofString "a", Str.ofString "b", Str.ofString "max_cost", Str.ofString "pre", Str.ofString "post", Str.ofString "row", Str.ofString "result", Str.ofString "bindex", Str.ofString "bchar", Str.ofString "distance", Str.ofString "minimum", Str.ofString "index", Str.ofString "substitute", Str.ofString "insert_delete"]
@[reducible] noncomputable def cLev : Cx := ⟨5, (dAt 6).scope.names, nLev,
  [(Str.ofString "_MOVE_COST", .int 2), (Str.ofString "_MAX_STRING_SIZE", .int 40), (Str.ofString "len", .raw (.builtin "len")), (Str.ofString "min", .raw (.builtin "min")), (Str.ofString "range", .raw (.type "range")), (Str.ofString "list", .raw (.type "list")), (Str.ofString "_substitution_cost", .fn "_substitution_cost")]⟩
theorem fLev (hT : IsT T) : FnCx T (dAt 6) cLev [Str.ofString "a", Str.ofString "b", Str.ofString "max_cost"] (nLev.drop 3) :=
  FnCx.of (params := [Str.ofString "a", Str.ofString "b", Str.ofString "max_cost"]) (rest := nLev.drop 3) hT m6 (by decide +kernel)
    (.cons (g_move hT) (by decide +kernel) (.cons (g_max hT) (by decide +kernel) (.cons (g_len hT) (by decide +kernel) (.cons (g_min hT) (by decide +kernel) (.cons (g_range hT) (by decide +kernel) (.cons (g_list hT) (by decide +kernel) (.cons (g_sub hT) (by decide +kernel) .nil)))))))
    (fun _ _ _ => len3 fun _ _ _ => rfl)

@[reducible] noncomputable def sLev (a b mx pre post row res bi bc di mi ix su id : Slot) : List Slot := [a, b, mx, pre, post, row, res, bi, bc, di, mi, ix, su, id]
@[reducible] noncomputable def vs (x : List Nat) : Slot := .val (.str x)
@[reducible] noncomputable def vi (i : Int) : Slot := .val (.int i)
noncomputable abbrev D : Slot := .dead

theorem part_post {c : Cx} {σ : List Slot} {x pos p1 k p2} {i : Nat} (h : Ev T c σ (.Name x pos) (.int (-(i : Int)))) : Part T c σ (some (.BoolOp .Or [.Name x pos, .Constant .none k p2] p1)) (if i = 0 then none else some (-(i : Int))) := by
  have h1 := Ev.or2 (pos := p1) h Tv.int (fun _ => Ev.none (k := k) (pos := p2))
  by_cases h0 : i = 0
  · subst h0
    exact .non h1
  · rw [if_neg h0]
    refine .int (Ev.cast h1 ?_)
    rw [if_pos]
    simp; omega
theorem slice_post {x : List Nat} {i : Nat} (h : i ≤ x.length) : sliceP x none (if i = 0 then none else some (-(i : Int))) = x.take (x.length - i) := by
  by_cases h0 : i = 0
  · subst h0
    rw [if_pos rfl, sliceP_all]; simp
  · rw [if_neg h0, sliceP_to_neg (by omega) (by omega)]
    congr 1
    omega
theorem rev_at {x : List Nat} {i ch : Nat} (h : x.reverse[i]? = some ch) : i < x.length ∧ x[x.length - 1 - i]? = some ch := by
  have hi : i < x.length := by
    rcases Nat.lt_or_ge i x.length with h' | h'
    · exact h'
    · rw [List.getElem?_eq_none (by simpa using h')] at h; cases h
  rw [List.getElem?_reverse hi] at h
  exact ⟨hi, h⟩
theorem neg_at {x : List Nat} {i ch : Nat} (h : x.reverse[i]? = some ch) : x[((-(i : Int) - 1) + (x.length : Int)).toNat]? = some ch := by
  obtain ⟨h1, h2⟩ := rev_at h
  rw [show ((-(i : Int) - 1) + (x.length : Int)).toNat = x.length - 1 - i by omega]
  exact h2
noncomputable def forAll : Stmt → List Stmt
  | .For _ _ b _ _ => b
  | _ => []
noncomputable def forBody (st : Stmt) (i : Nat) : Stmt := (forAll st).getD i default
noncomputable def forIter : Stmt → Expr
  | .For _ i _ _ _ => i
  | _ => default
noncomputable def forPx : Stmt → Pos
  | .For (.Name _ p) _ _ _ _ => p
  | _ => default
noncomputable def forPos : Stmt → Pos
  | .For _ _ _ _ p => p
  | _ => default
theorem g_rec (hT : IsT T) {i : Nat} (hm : dAt i ∈ recsOf hd.view_39) {x : Str} (hx : (dAt i).name = x) : ∃ d, d ∈ recsOf T.view ∧ d.name = x := ⟨dAt i, by rw [hT.view]; exact hm, hx⟩
theorem getD_at {x : List Nat} {i : Nat} (h : i < x.length) : x[i]? = some (x.getD i 0) := by simp [h]
theorem getD_mem {x : List Nat} {i : Nat} (h : i < x.length) : x.getD i 0 ∈ x := by simp [h]
theorem map_at {α : Type} {f : α → V} {l : List α} {i : Nat} {d : α} (h : i < l.length) : (l.map f)[i]? = some (f (l.getD i d)) := by simp [h]
theorem range_at {n i : Nat} {q : V} (h : ((List.range n).map fun (i : Nat) => V.int (0 + (i : Int) * 1))[i]? = some q) : q = .int i ∧ i < n := by
  have hi : i < n := by
    rcases Nat.lt_or_ge i n with h' | h'
    · exact h'
    · rw [List.getElem?_eq_none (by simpa using h')] at h; cases h
  rw [List.getElem?_map, List.getElem?_range hi] at h
  simp at h
  exact ⟨h.symm, hi⟩
theorem small1 {n : Nat} (h : n ≤ 1048576) : Builtin.Range.small 0 (n : Int) 1 = true ∧ Builtin.Range.rangeSize 0 (n : Int) 1 = (n : Nat) := by
  have hrn : Builtin.Range.rangeSize 0 (n : Int) 1 = (n : Nat) := by
    unfold Builtin.Range.rangeSize
    rw [if_pos (by decide)]
    split <;> omega
  refine ⟨?_, hrn⟩
  unfold Builtin.Range.small
  rw [hrn]
  unfold Builtin.Range.rangeFitsLong
  simp; omega
-- one turn of the inner loop
theorem lev_turn (hT : IsT T) {a b : List Nat} {mx : Int} {p q : Slot} {row0 : List Int} {j : Nat} {ch : Nat} {base : Int} (ha : ∀ x ∈ a, x < 128) (hch : ch < 128) (hrow : row0.length = a.length) (hal : a.length ≤ 40) {i : Nat} (hi : i < a.length) {su : Nat → Int} (hsu : su = fun i => subP ch (a.getD i 0)) :
    Ex T cLev (sLev (vs a) (vs b) (vi mx) p q (.own ((inS su row0 base i).2.2.2.map .int)) (vi (inS su row0 base i).2.1) (vi j) (vs [ch]) (vi (inS su row0 base i).1) (vi (inS su row0 base i).2.2.1) (vi i) D D)
      (forAll (forBody ((dAt 6).body.getD 15 default) 3))
      (.next (sLev (vs a) (vs b) (vi mx) p q (.own ((inS su row0 base (i + 1)).2.2.2.map .int)) (vi (inS su row0 base (i + 1)).2.1) (vi j) (vs [ch]) (vi (inS su row0 base (i + 1)).1) (vi (inS su row0 base (i + 1)).2.2.1) D D D)) := by
  have hlen := inS_len su row0 base i
  have e : inS su row0 base (i + 1) = ((inS su row0 base i).2.2.2.getD i 0, mn2 (mn2 (inS su row0 base i).2.1 ((inS su row0 base i).2.2.2.getD i 0) + 2) ((inS su row0 base i).1 + su i),
    (if mn2 (mn2 (inS su row0 base i).2.1 ((inS su row0 base i).2.2.2.getD i 0) + 2) ((inS su row0 base i).1 + su i) < (inS su row0 base i).2.2.1 then mn2 (mn2 (inS su row0 base i).2.1 ((inS su row0 base i).2.2.2.getD i 0) + 2) ((inS su row0 base i).1 + su i) else (inS su row0 base i).2.2.1), (inS su row0 base i).2.2.2.set i (mn2 (mn2 (inS su row0 base i).2.1 ((inS su row0 base i).2.2.2.getD i 0) + 2) ((inS su row0 base i).1 + su i))) := rfl
  rw [e]
  generalize inS su row0 base i = st at hlen
  obtain ⟨d, r, m, row⟩ := st
  simp only at hlen ⊢
  rw [hrow] at hlen
  refine Ex.cons (Ex1.assign (p := .int (d + su i)) (Ev.bin (by walk_at "ev") (Ev.call (by walk_at "ev") (g_rec hT m5 n5) (EvL.cons (by walk_at "ev") (EvL.cons (Ev.weak (Ev.sub (by walk_at "ev") (by walk_at "ev") (Sb.str (ch := a.getD i 0) (by omega) (by omega) (by simpa using getD_at hi)))) EvL.nil)) (cal_sub hT (by decide) hch (ha _ (getD_mem hi)))) (by subst hsu; exact Op2.add)) (by walk_at "at")) ?_
  refine Ex.cons (Ex1.assign (p := .int (row.getD i 0)) (Ev.subo (EvO.name (by walk_at "at")) (by walk_at "ev") (Sbo.at (by omega) (by rw [Int.toNat_natCast]; exact map_at (f := V.int) (l := row) (d := 0) (by omega)))) (by walk_at "at")) ?_
  refine Ex.cons (Ex1.assign (p := .int (mn2 r (row.getD i 0) + 2)) (Ev.bin (Ev.callb (by walk_at "ev") (EvL.cons (by walk_at "ev") (EvL.cons (by walk_at "ev") EvL.nil)) Bcl.min) (by walk_at "ev") Op2.add) (by walk_at "at")) ?_
  refine Ex.cons (Ex1.assign (p := .int (mn2 (mn2 r (row.getD i 0) + 2) (d + su i))) (Ev.callb (by walk_at "ev") (EvL.cons (by walk_at "ev") (EvL.cons (by walk_at "ev") EvL.nil)) Bcl.min) (by walk_at "at")) ?_
  refine Ex.cons (Ex1.setitem (by walk_at "ev") (by walk_at "at") (by walk_at "ev") (by omega) (by simp; omega) (by walk_at "at")) ?_
  generalize mn2 (mn2 r (row.getD i 0) + 2) (d + su i) = r'
  refine Ex.cons (Ex1.weak (Ex1.if_ (b := decide (r' < m)) (o := .next (sLev (vs a) (vs b) (vi mx) p q (.own ((row.set i r').map .int)) (vi r') (vi j) (vs [ch]) (vi (row.getD i 0)) (vi (if r' < m then r' else m)) (vi i) (vi (d + su i)) (vi (mn2 r (row.getD i 0) + 2)))) (by walk_at "tr") (fun h => ?_) (fun h => ?_)) (.keep (.keep (.keep (.keep (.keep (.keep (.keep (.keep (.keep (.keep (.keep (.drop (.drop (.drop .nil))))))))))))))) Ex.nil
  · rw [decide_eq_true_iff] at h
    refine Ex.castn (Ex.cons (Ex1.assign (by walk_at "ev") (by walk_at "at")) Ex.nil) ?_
    simp [h, List.map_set]
  · rw [decide_eq_false_iff_not] at h
    refine Ex.castn Ex.nil ?_
    simp [h, List.map_set]
-- the rows
theorem lev_rows (hT : IsT T) {a b : List Nat} {mx : Int} {p q : Slot} (ha : ∀ x ∈ a, x < 128) (hb : ∀ x ∈ b, x < 128) (hal : a.length ≤ 40) (hbl : b.length ≤ 40) (ha0 : a ≠ []) (hb0 : b ≠ []) :
    Ex T cLev (sLev (vs a) (vs b) (vi mx) p q D D D D D D D D D) ((dAt 6).body.drop 12) (.ret (.int (pairP subP a b mx))) := by
  unfold pairP
  by_cases hc : ((b.length : Int) - a.length) * 2 > mx
  · rw [if_pos hc]
    refine Ex.ret (Ex1.if_ (b := true) (Tr.cast (Tr.cmp (by walk_at "ev") (by walk_at "ev") (by walk_at "cm2")) (by simpa using hc)) (fun _ => Ex.ret (Ex1.return_ (by walk_at "ev"))) (by simp))
  rw [if_neg hc]
  refine Ex.cons (Ex1.skip (Tr.cast (Tr.cmp (by walk_at "ev") (by walk_at "ev") (by walk_at "cm2")) (by simpa using hc))) ?_
  have hal0 : 0 < a.length := List.length_pos_iff.mpr ha0
  have hrn : Builtin.Range.rangeSize 2 (2 * ((a.length : Int) + 1)) 2 = (a.length : Nat) := by
    unfold Builtin.Range.rangeSize
    rw [if_pos (by decide), if_pos (by omega)]
    omega
  refine Ex.cons (Ex1.assign_new (EvN.listrange (n := a.length) (by walk_at "ev") (Rn.three (n := 2 * ((a.length : Int) + 1)) (by decide) (PyProof.noPylong_small (by decide)) (by walk_at "ev") (by walk_at "ev") (by walk_at "ev") (by walk_at "ev")) ?_ hrn (by omega)) (by walk_at "at")) ?_
  · unfold Builtin.Range.small
    rw [hrn]
    unfold Builtin.Range.rangeFitsLong
    simp; omega
  refine Ex.cons (Ex1.assign (by walk_at "ev") (by walk_at "at")) ?_
  obtain ⟨hs1, hs2⟩ := small1 (n := b.length) (by omega)
  obtain ⟨ht1, ht2⟩ := small1 (n := a.length) (by omega)
  generalize hsub : (fun (j i : Nat) => subP (b.getD j 0) (a.getD i 0)) = sub
  have hfor := Ex1.for_ (T := T) (c := cLev) (σ := sLev (vs a) (vs b) (vi mx) p q (.own ((outS sub a.length 0).2.map .int)) (vi (outS sub a.length 0).1) D D D D D D D) (x := Str.ofString "bindex") (px := forPx ((dAt 6).body.getD 15 default)) (iter := forIter ((dAt 6).body.getD 15 default))
    (body := forAll ((dAt 6).body.getD 15 default)) (pos := forPos ((dAt 6).body.getD 15 default))
    (fun j => sLev (vs a) (vs b) (vi mx) p q (.own ((outS sub a.length j).2.map .int)) (vi (outS sub a.length j).1) D D D D D D D)
    (fun j => if mx < minS sub a.length j then some (.int (mx + 1)) else none)
    (It.range (n := b.length) (Rn.one (by walk_at "ev") (by walk_at "ev")) hs1 hs2) (Weak.refl _) ?_
  · have hB : firstB (fun j => if mx < minS sub a.length j then some (V.int (mx + 1)) else none) b.length = if overS sub a.length mx b.length then some (.int (mx + 1)) else none := by
      unfold overS
      generalize b.length = m
      induction m with
      | zero => rfl
      | succ m ih =>
        unfold firstB
        rw [ih, List.range_succ, List.any_append]
        by_cases h : (List.range m).any (fun j => decide (mx < minS sub a.length j)) = true
        · rw [if_pos h, h]; simp
        · rw [Bool.not_eq_true] at h
          rw [h]; simp
    rw [show (List.map (fun (i : Nat) => V.int (0 + (i : Int) * 1)) (List.range b.length)).length = b.length by simp, hB] at hfor
    rw [show (List.range a.length).map (fun (i : Nat) => V.int (2 + (i : Int) * 2)) = (outS sub a.length 0).2.map .int by simp [outS]]
    unfold gridP
    cases ho : overS sub a.length mx b.length with
    | true =>
      rw [ho] at hfor
      refine Ex.ret ?_
      rw [if_pos rfl]
      exact hfor
    | false =>
      rw [ho] at hfor
      rw [if_neg (by decide)]
      refine Ex.cons hfor ?_
      exact Ex.ret (Ex1.return_ (by walk_at "ev"))
  · intro j q' hq hB
    obtain ⟨rfl, hj⟩ := range_at hq
    refine ⟨_, by walk_at "at", ?_⟩
    have hch : b.getD j 0 < 128 := hb _ (getD_mem hj)
    have hlen := outS_len sub a.length j
    have hinS : outS sub a.length (j + 1) = ((inS (sub j) (outS sub a.length j).2 (j * 2) a.length).2.1, (inS (sub j) (outS sub a.length j).2 (j * 2) a.length).2.2.2) := rfl
    have hmin : minS sub a.length j = (inS (sub j) (outS sub a.length j).2 (j * 2) a.length).2.2.1 := rfl
    rw [hinS, hmin]
    generalize (outS sub a.length j).2 = row0 at hlen
    generalize (outS sub a.length j).1 = res0
    refine Ex.cons (Ex1.assign (p := .str [b.getD j 0]) (Ev.weak (Ev.sub (by walk_at "ev") (by walk_at "ev") (Sb.str (ch := b.getD j 0) (by omega) (by omega) (by simpa using getD_at hj)))) (by walk_at "at")) ?_
    refine Ex.cons (Ex1.assign2 (by walk_at "ev") (by walk_at "at") (by walk_at "at")) ?_
    refine Ex.cons (Ex1.assign (by walk_at "ev") (by walk_at "at")) ?_
    refine Ex.cons (σ1 := sLev (vs a) (vs b) (vi mx) p q (.own ((inS (sub j) row0 (j * 2) a.length).2.2.2.map .int)) (vi (inS (sub j) row0 (j * 2) a.length).2.1) (vi j) (vs [b.getD j 0]) (vi (inS (sub j) row0 (j * 2) a.length).1) (vi (inS (sub j) row0 (j * 2) a.length).2.2.1) D D D) ?_ ?_
    · have h := Ex1.forAll (T := T) (c := cLev) (σ := sLev (vs a) (vs b) (vi mx) p q (.own ((inS (sub j) row0 (j * 2) 0).2.2.2.map .int)) (vi (inS (sub j) row0 (j * 2) 0).2.1) (vi j) (vs [b.getD j 0]) (vi (inS (sub j) row0 (j * 2) 0).1) (vi (inS (sub j) row0 (j * 2) 0).2.2.1) D D D) (x := Str.ofString "index") (px := forPx (forBody ((dAt 6).body.getD 15 default) 3)) (iter := forIter (forBody ((dAt 6).body.getD 15 default) 3))
        (body := forAll (forBody ((dAt 6).body.getD 15 default) 3)) (pos := forPos (forBody ((dAt 6).body.getD 15 default) 3))
        (fun i => sLev (vs a) (vs b) (vi mx) p q (.own ((inS (sub j) row0 (j * 2) i).2.2.2.map .int)) (vi (inS (sub j) row0 (j * 2) i).2.1) (vi j) (vs [b.getD j 0]) (vi (inS (sub j) row0 (j * 2) i).1) (vi (inS (sub j) row0 (j * 2) i).2.2.1) D D D)
        (It.range (n := a.length) (Rn.one (by walk_at "ev") (by walk_at "ev")) ht1 ht2) (Weak.refl _) (fun i q' hq => by
          obtain ⟨rfl, hi⟩ := range_at hq
          exact ⟨_, by walk_at "at", lev_turn hT ha hch hlen hal hi (by rw [← hsub])⟩)
      rw [show (List.map (fun (i : Nat) => V.int (0 + (i : Int) * 1)) (List.range a.length)).length = a.length by simp] at h
      exact h
    · generalize inS (sub j) row0 (j * 2) a.length = st
      by_cases hm : mx < st.2.2.1
      · rw [if_pos hm]
        refine Ex.ret (Ex1.if_ (b := true) (Tr.cast (by walk_at "tr") (by simpa using hm)) (fun _ => Ex.ret (Ex1.return_ (by walk_at "ev"))) (by simp))
      · rw [if_neg hm]
        refine Ex.cons (Ex1.skip (Tr.cast (by walk_at "tr") (by simpa using hm))) ?_
        exact Ex.weakout Ex.nil (.keep (.keep (.keep (.keep (.keep (.keep (.keep (.drop (.drop (.drop (.drop (.keep (.keep (.keep .nil))))))))))))))
theorem lev_core (hT : IsT T) {a b : List Nat} {mx : Int} {p q : Slot} (ha : ∀ x ∈ a, x < 128) (hb : ∀ x ∈ b, x < 128) (hal : a.length ≤ 1048576) (hbl : b.length ≤ 1048576) :
    Ex T cLev (sLev (vs a) (vs b) (vi mx) p q D D D D D D D D D) ((dAt 6).body.drop 9) (.ret (.int (coreP subP a b mx))) := by
  unfold coreP
  by_cases h0 : a = [] ∨ b = []
  · rw [if_pos h0]
    refine Ex.ret (Ex1.if_ (b := true) (Tr.cast (Tr.boolop (TrL.or_cons (Tr.not (Tr.val (by walk_at "ev") Tv.str)) fun _ => TrL.or_cons (Tr.not (Tr.val (by walk_at "ev") Tv.str)) fun _ => TrL.or_nil)) ?_) (fun _ => Ex.ret (Ex1.return_ (by walk_at "ev"))) (by simp))
    rcases h0 with h | h <;> simp [h]
  rw [if_neg h0]
  rw [not_or] at h0
  refine Ex.cons (Ex1.skip (Tr.cast (Tr.boolop (TrL.or_cons (Tr.not (Tr.val (by walk_at "ev") Tv.str)) fun _ => TrL.or_cons (Tr.not (Tr.val (by walk_at "ev") Tv.str)) fun _ => TrL.or_nil)) (by simp [h0.1, h0.2]))) ?_
  by_cases h1 : a.length > 40 ∨ b.length > 40
  · rw [if_pos h1]
    refine Ex.ret (Ex1.if_ (b := true) (Tr.cast (Tr.boolop (TrL.or_cons (Tr.cmp (by walk_at "ev") (by walk_at "ev") (by walk_at "cm2")) fun _ => TrL.or_cons (Tr.cmp (by walk_at "ev") (by walk_at "ev") (by walk_at "cm2")) fun _ => TrL.or_nil)) ?_) (fun _ => Ex.ret (Ex1.return_ (by walk_at "ev"))) (by simp))
    simp; omega
  rw [if_neg h1]
  refine Ex.cons (Ex1.skip (Tr.cast (Tr.boolop (TrL.or_cons (Tr.cmp (by walk_at "ev") (by walk_at "ev") (by walk_at "cm2")) fun _ => TrL.or_cons (Tr.cmp (by walk_at "ev") (by walk_at "ev") (by walk_at "cm2")) fun _ => TrL.or_nil)) (by simp; omega))) ?_
  by_cases h2 : b.length < a.length
  · rw [if_pos h2]
    refine Ex.cons (Ex1.if_ (b := true) (Tr.cast (Tr.cmp (by walk_at "ev") (by walk_at "ev") (by walk_at "cm2")) (by simpa using h2)) (fun _ => Ex.cons (Ex1.tuple2 (by walk_at "ev") (by walk_at "ev") (by walk_at "at") (by walk_at "at") ?_) Ex.nil) (by simp)) ?_
    · intro env hk hn
      unfold swappedStores Env.blockKind Env.kindOf
      rw [hk, hn]
      kernel_rfl
    · exact lev_rows hT hb ha (by omega) (by omega) h0.2 h0.1
  · rw [if_neg h2]
    refine Ex.cons (Ex1.skip (Tr.cast (Tr.cmp (by walk_at "ev") (by walk_at "ev") (by walk_at "cm2")) (by simpa using h2))) ?_
    exact lev_rows hT ha hb (by omega) (by omega) h0.1 h0.2

theorem cal_lev {dd : Nat} (hT : IsT T) (hd : 6 ≤ dd) {a b : List Nat} {mx : Int} (ha : ∀ x ∈ a, x < 128) (hb : ∀ x ∈ b, x < 128) (hal : a.length ≤ 1048576) (hbl : b.length ≤ 1048576) : Cal T dd "_levenshtein_distance" [.str a, .str b, .int mx] (.int (levP subP a b mx)) := by
  rw [← n6]
  refine Cal.of (fLev hT) rfl hd ?_
  show Ex T cLev (sLev (vs a) (vs b) (vi mx) D D D D D D D D D D D) (dAt 6).body (.ret (.int (levP subP a b mx)))
  by_cases h : a = b
  · refine Ex.castr (p := .int 0) (Ex.ret (Ex1.if_ (b := true) (Tr.cast (Tr.cmp (by walk_at "ev") (by walk_at "ev") (by walk_at "cm2")) (by simp [h])) (fun _ => Ex.ret (Ex1.return_ (by walk_at "ev"))) (by simp))) (by simp [levP, h])
  refine Ex.cons (Ex1.skip (Tr.cast (Tr.cmp (by walk_at "ev") (by walk_at "ev") (by walk_at "cm2")) (by simp [h]))) ?_
  refine Ex.cons (Ex1.assign (by walk_at "ev") (by walk_at "at")) ?_
  have hk := cpl_le a b
  refine Ex.cons (Ex1.while_ (fun i => sLev (vs a) (vs b) (vi mx) (vi i) D D D D D D D D D D) (cpl a b) rfl ?_ ?_ ?_) ?_
  · intro i hi
    obtain ⟨ch, h1, h2⟩ := cpl_same a b i hi
    have e1 : a.drop i ≠ [] := by intro e; have := List.drop_eq_nil_iff.mp e; omega
    have e2 : b.drop i ≠ [] := by intro e; have := List.drop_eq_nil_iff.mp e; omega
    refine Tr.cast (Tr.boolop (TrL.and_cons (Tr.val (Ev.strslice (by walk_at "ev") (.int (by walk_at "ev")) .none) Tv.str) fun _ => TrL.and_cons (Tr.val (Ev.strslice (by walk_at "ev") (.int (by walk_at "ev")) .none) Tv.str) fun _ =>
      TrL.and_cons (Tr.cmp (Ev.weak (Ev.sub (by walk_at "ev") (by walk_at "ev") (Sb.str (ch := ch) (by omega) hal (by simpa using h1)))) (Ev.weak (Ev.sub (by walk_at "ev") (by walk_at "ev") (Sb.str (ch := ch) (by omega) hbl (by simpa using h2)))) (by walk_at "cm2")) fun _ => TrL.and_nil)) ?_
    rw [sliceP_from (by omega) (by omega), sliceP_from (by omega) (by omega)]
    simp [e1, e2]
  · intro i hi
    refine Ex.cons (Ex1.aug (by walk_at "at") (by walk_at "ev") Ip2.add (by walk_at "at")) (Ex.castn Ex.nil ?_)
    simp
  · rcases cpl_end a b with e | e | ⟨x, y, h1, h2, h3⟩
    · refine Tr.cast (b := false && true) (Tr.boolop (TrL.and_cons (Tr.cast (Tr.val (Ev.strslice (by walk_at "ev") (.int (by walk_at "ev")) .none) Tv.str) ?_) fun h => nomatch h)) rfl
      rw [sliceP_from (by omega) (by omega)]
      simpa using e
    · by_cases e0 : a.drop (cpl a b) = []
      · refine Tr.cast (b := false && true) (Tr.boolop (TrL.and_cons (Tr.cast (Tr.val (Ev.strslice (by walk_at "ev") (.int (by walk_at "ev")) .none) Tv.str) ?_) fun h => nomatch h)) rfl
        rw [sliceP_from (by omega) (by omega)]
        simpa using e0
      · refine Tr.cast (b := true && (false && true)) (Tr.boolop (TrL.and_cons (Tr.cast (Tr.val (Ev.strslice (by walk_at "ev") (.int (by walk_at "ev")) .none) Tv.str) ?_) fun _ => TrL.and_cons (Tr.cast (Tr.val (Ev.strslice (by walk_at "ev") (.int (by walk_at "ev")) .none) Tv.str) ?_) fun h => nomatch h)) rfl
        · rw [sliceP_from (by omega) (by omega)]
          simpa using e0
        · rw [sliceP_from (by omega) (by omega)]
          simpa using e
    · have e1 : a.drop (cpl a b) ≠ [] := by intro e; have := List.drop_eq_nil_iff.mp e; rw [List.getElem?_eq_none (by omega)] at h1; cases h1
      have e2 : b.drop (cpl a b) ≠ [] := by intro e; have := List.drop_eq_nil_iff.mp e; rw [List.getElem?_eq_none (by omega)] at h2; cases h2
      refine Tr.cast (Tr.boolop (TrL.and_cons (Tr.val (Ev.strslice (by walk_at "ev") (.int (by walk_at "ev")) .none) Tv.str) fun _ => TrL.and_cons (Tr.val (Ev.strslice (by walk_at "ev") (.int (by walk_at "ev")) .none) Tv.str) fun _ =>
        TrL.and_cons (Tr.cmp (Ev.weak (Ev.sub (by walk_at "ev") (by walk_at "ev") (Sb.str (ch := x) (by omega) hal (by simpa using h1)))) (Ev.weak (Ev.sub (by walk_at "ev") (by walk_at "ev") (Sb.str (ch := y) (by omega) hbl (by simpa using h2)))) (by walk_at "cm2")) fun _ => TrL.and_nil)) ?_
      rw [sliceP_from (by omega) (by omega), sliceP_from (by omega) (by omega)]
      simp [h3]
  refine Ex.cons (Ex1.assign (p := .str (a.drop (cpl a b))) (Ev.cast (Ev.strslice (by walk_at "ev") (.int (by walk_at "ev")) .none) (by rw [sliceP_from (by omega) (by omega)]; simp)) (by walk_at "at")) ?_
  refine Ex.cons (Ex1.assign (p := .str (b.drop (cpl a b))) (Ev.cast (Ev.strslice (by walk_at "ev") (.int (by walk_at "ev")) .none) (by rw [sliceP_from (by omega) (by omega)]; simp)) (by walk_at "at")) ?_
  refine Ex.cons (Ex1.assign (by walk_at "ev") (by walk_at "at")) ?_
  have hlev : levP subP a b mx = coreP subP ((a.drop (cpl a b)).take ((a.drop (cpl a b)).length - cpl (a.drop (cpl a b)).reverse (b.drop (cpl a b)).reverse)) ((b.drop (cpl a b)).take ((b.drop (cpl a b)).length - cpl (a.drop (cpl a b)).reverse (b.drop (cpl a b)).reverse)) mx := by
    unfold levP; rw [if_neg h]
  rw [hlev]
  have ha1 : ∀ x ∈ a.drop (cpl a b), x < 128 := fun x hx => ha x (List.mem_of_mem_drop hx)
  have hb1 : ∀ x ∈ b.drop (cpl a b), x < 128 := fun x hx => hb x (List.mem_of_mem_drop hx)
  have hal1 : (a.drop (cpl a b)).length ≤ 1048576 := by simp; omega
  have hbl1 : (b.drop (cpl a b)).length ≤ 1048576 := by simp; omega
  have hlev : True := trivial
  generalize hk0 : cpl a b = k at *
  generalize a.drop k = a1 at *
  generalize b.drop k = b1 at *
  clear hlev hk ha hb hal hbl hk0 h
  have hl := cpl_le a1.reverse b1.reverse
  simp only [List.length_reverse] at hl
  refine Ex.cons (Ex1.while_ (fun (i : Nat) => sLev (vs a1) (vs b1) (vi mx) (vi k) (vi (-(i : Int))) D D D D D D D D D) (cpl a1.reverse b1.reverse) rfl ?_ ?_ ?_) ?_
  · intro i hi
    obtain ⟨ch, h1, h2⟩ := cpl_same _ _ i hi
    have e1 : a1.take (a1.length - i) ≠ [] := by intro e; rw [List.take_eq_nil_iff] at e; rcases e with e | e; omega; subst e; simp [cpl] at hi
    have e2 : b1.take (b1.length - i) ≠ [] := by intro e; rw [List.take_eq_nil_iff] at e; rcases e with e | e; omega; subst e; have h0 := hl.2; simp only [List.length_nil] at h0; omega
    refine Tr.cast (Tr.boolop (TrL.and_cons (Tr.val (Ev.strslice (by walk_at "ev") .none (part_post (by walk_at "ev"))) Tv.str) fun _ => TrL.and_cons (Tr.val (Ev.strslice (by walk_at "ev") .none (part_post (by walk_at "ev"))) Tv.str) fun _ =>
      TrL.and_cons (Tr.cmp (Ev.weak (Ev.sub (by walk_at "ev") (by walk_at "ev") (Sb.strneg (ch := ch) (by omega) (by omega) hal1 (neg_at h1)))) (Ev.weak (Ev.sub (by walk_at "ev") (by walk_at "ev") (Sb.strneg (ch := ch) (by omega) (by omega) hbl1 (neg_at h2)))) (by walk_at "cm2")) fun _ => TrL.and_nil)) ?_
    rw [slice_post (by omega), slice_post (by omega)]
    simp [e1, e2]
  · intro i hi
    refine Ex.cons (Ex1.aug (by walk_at "at") (by walk_at "ev") Ip2.sub (by walk_at "at")) (Ex.castn Ex.nil ?_)
    simp; omega
  · rcases cpl_end a1.reverse b1.reverse with e | e | ⟨x, y, h1, h2, h3⟩
    · have e := List.drop_eq_nil_iff.mp e
      rw [List.length_reverse] at e
      refine Tr.cast (b := false && true) (Tr.boolop (TrL.and_cons (Tr.cast (Tr.val (Ev.strslice (by walk_at "ev") .none (part_post (by walk_at "ev"))) Tv.str) ?_) fun h => nomatch h)) rfl
      rw [slice_post (by omega), show a1.length - cpl a1.reverse b1.reverse = 0 by omega]
      simp
    · have e := List.drop_eq_nil_iff.mp e
      rw [List.length_reverse] at e
      by_cases e0 : a1.take (a1.length - cpl a1.reverse b1.reverse) = []
      · refine Tr.cast (b := false && true) (Tr.boolop (TrL.and_cons (Tr.cast (Tr.val (Ev.strslice (by walk_at "ev") .none (part_post (by walk_at "ev"))) Tv.str) ?_) fun h => nomatch h)) rfl
        rw [slice_post (by omega), e0]
        simp
      · refine Tr.cast (b := true && (false && true)) (Tr.boolop (TrL.and_cons (Tr.cast (Tr.val (Ev.strslice (by walk_at "ev") .none (part_post (by walk_at "ev"))) Tv.str) ?_) fun _ => TrL.and_cons (Tr.cast (Tr.val (Ev.strslice (by walk_at "ev") .none (part_post (by walk_at "ev"))) Tv.str) ?_) fun h => nomatch h)) rfl
        · rw [slice_post (by omega)]
          simpa using e0
        · rw [slice_post (by omega), show b1.length - cpl a1.reverse b1.reverse = 0 by omega]
          simp
    · have r1 := (rev_at h1).1
      have r2 := (rev_at h2).1
      have e1 : a1.take (a1.length - cpl a1.reverse b1.reverse) ≠ [] := by intro e; rw [List.take_eq_nil_iff] at e; rcases e with e | e; omega; subst e; simp at r1
      have e2 : b1.take (b1.length - cpl a1.reverse b1.reverse) ≠ [] := by intro e; rw [List.take_eq_nil_iff] at e; rcases e with e | e; omega; subst e; simp at r2
      refine Tr.cast (Tr.boolop (TrL.and_cons (Tr.val (Ev.strslice (by walk_at "ev") .none (part_post (by walk_at "ev"))) Tv.str) fun _ => TrL.and_cons (Tr.val (Ev.strslice (by walk_at "ev") .none (part_post (by walk_at "ev"))) Tv.str) fun _ =>
        TrL.and_cons (Tr.cmp (Ev.weak (Ev.sub (by walk_at "ev") (by walk_at "ev") (Sb.strneg (ch := x) (by omega) (by omega) hal1 (neg_at h1)))) (Ev.weak (Ev.sub (by walk_at "ev") (by walk_at "ev") (Sb.strneg (ch := y) (by omega) (by omega) hbl1 (neg_at h2)))) (by walk_at "cm2")) fun _ => TrL.and_nil)) ?_
      rw [slice_post (by omega), slice_post (by omega)]
      simp [h3]
  refine Ex.cons (Ex1.assign (p := .str (a1.take (a1.length - cpl a1.reverse b1.reverse))) (Ev.cast (Ev.strslice (by walk_at "ev") .none (part_post (by walk_at "ev"))) (by rw [slice_post (by omega)])) (by walk_at "at")) ?_
  refine Ex.cons (Ex1.assign (p := .str (b1.take (b1.length - cpl a1.reverse b1.reverse))) (Ev.cast (Ev.strslice (by walk_at "ev") .none (part_post (by walk_at "ev"))) (by rw [slice_post (by omega)])) (by walk_at "at")) ?_
  exact lev_core hT (fun x hx => ha1 x (List.mem_of_mem_take hx)) (fun x hx => hb1 x (List.mem_of_mem_take hx)) (by simp; omega) (by simp; omega)
end
section
open PySem PySem.W PyProof.Rows
set_option Elab.async false
set_option linter.unusedVariables false
set_option maxRecDepth 100000
variable {T : TC}



@[reducible] noncomputable def nEm : List Str := [Str.ofString "want", Str.ofString "got", Str.ofString "ws", Str.ofString "startpos", Str.ofString "endpos", Str.ofString "w"]
@[reducible] noncomputable def cEm : Cx := ⟨0, (dAt 1).scope.names, nEm, [(Str.ofString "ELLIPSIS_MARKER", .str [46, 46, 46]), (Str.ofString "len", .raw (.builtin "len"))]⟩
theorem fEm (hT : IsT T) : FnCx T (dAt 1) cEm [Str.ofString "want", Str.ofString "got"] (nEm.drop 2) :=
  FnCx.of (params := [Str.ofString "want", Str.ofString "got"]) (rest := nEm.drop 2) hT m1 (by decide +kernel)
    (.cons (g_ell hT) (by decide +kernel) (.cons (g_len hT) (by decide +kernel) .nil))
    (fun _ _ _ => len2 fun _ _ => rfl)
@[reducible] noncomputable def sEm (a b ws s e w : Slot) : List Slot := [a, b, ws, s, e, w]

theorem em_tail (hT : IsT T) {want got : List Nat} {ws : List (List Nat)} {s e : Int} {w : Slot} (hs : 0 ≤ s) (he : 0 ≤ e) (hL : ws.length ≤ 1048576) :
    Ex T cEm (sEm (vs want) (vs got) (.own (ws.map .str)) (vi s) (vi e) w) ((dAt 1).body.drop 8) (.ret (.bool (tailP got ws s e))) := by
  unfold tailP
  by_cases h : s > e
  · rw [if_pos h]
    refine Ex.ret (Ex1.if_ (b := true) (Tr.cast (by walk_at "tr") (by simpa using h)) (fun _ => Ex.ret (Ex1.return_ (by walk_at "ev"))) (by simp))
  rw [if_neg h]
  refine Ex.cons (Ex1.skip (Tr.cast (by walk_at "tr") (by simpa using h))) ?_
  refine Ex.freeze (by walk_at "at") (by walk_at "at") ?_
  have hB : firstB (fun k => if 0 ≤ findI got (ws.getD k []) (posP got e ws s k) e then none else some (V.bool false)) ws.length = if scanP got e ws s then none else some (.bool false) := by
    rw [← allP_scan]
    unfold allP
    generalize ws.length = m
    induction m with
    | zero => rfl
    | succ m ih =>
      unfold firstB
      rw [ih, List.range_succ, List.all_append]
      by_cases h : (List.range m).all (fun k => decide (0 ≤ findI got (ws.getD k []) (posP got e ws s k) e)) = true
      · rw [if_pos h, h]; simp
      · rw [if_neg h]; rw [Bool.not_eq_true] at h; rw [h]; simp
  refine Ex.for_ (fun k => sEm (vs want) (vs got) (.val (.list (ws.map .str))) (vi (posP got e ws s k)) (vi e) D)
    (fun k => if 0 ≤ findI got (ws.getD k []) (posP got e ws s k) e then none else some (.bool false))
    (It.list (by walk_at "ev")) (.keep (.keep (.keep (.keep (.keep (.drop .nil)))))) ?_ ?_ ?_
  · intro k q hq hB
    have hk : k < ws.length := by
      rcases Nat.lt_or_ge k ws.length with h' | h'
      · exact h'
      · rw [List.getElem?_eq_none (by simpa using h')] at hq; cases hq
    have hq' : q = .str (ws.getD k []) := by
      have := map_at (f := V.str) (d := []) hk
      rw [this] at hq; cases hq; rfl
    subst hq'
    have hp : 0 ≤ posP got e ws s k := by
      cases k with
      | zero => exact hs
      | succ k =>
        have := hB k (Nat.lt_succ_self k)
        split at this
        · show 0 ≤ findI got (ws.getD k []) (posP got e ws s k) e + _
          omega
        · cases this
    refine ⟨_, by walk_at "at", ?_⟩
    have hpos : posP got e ws s (k + 1) = findI got (ws.getD k []) (posP got e ws s k) e + (ws.getD k []).length := rfl
    rw [hpos]
    generalize posP got e ws s k = p at *
    generalize ws.getD k [] = wk at *
    refine Ex.cons (Ex1.assign (Ev.meth (by walk_at "ev") (EvL.cons (by walk_at "ev") (EvL.cons (by walk_at "ev") (EvL.cons (by walk_at "ev") EvL.nil))) (Mth.find hp he)) (by walk_at "at")) ?_
    by_cases hf : 0 ≤ findI got wk p e
    · rw [if_pos hf]
      refine Ex.cons (Ex1.skip (Tr.cast (by walk_at "tr") (by simpa using hf))) ?_
      refine Ex.cons (Ex1.aug (by walk_at "at") (by walk_at "ev") Ip2.add (by walk_at "at")) ?_
      exact Ex.weakout Ex.nil (.keep (.keep (.keep (.keep (.keep (.drop .nil))))))
    · rw [if_neg hf]
      refine Ex.ret (Ex1.if_ (b := true) (Tr.cast (by walk_at "tr") (by simpa using hf)) (fun _ => Ex.ret (Ex1.return_ (by walk_at "ev"))) (by simp))
  · rw [List.length_map, hB]
    intro h
    have : scanP got e ws s = true := by
      cases h' : scanP got e ws s with
      | true => rfl
      | false => rw [h'] at h; cases h
    rw [this]
    exact Ex.ret (Ex1.return_ (by walk_at "ev"))
  · rw [List.length_map, hB]
    intro p h
    have : scanP got e ws s = false := by
      cases h' : scanP got e ws s with
      | false => rfl
      | true => rw [h'] at h; cases h
    rw [this] at h ⊢
    cases h; rfl

theorem em_last (hT : IsT T) {want got : List Nat} {ws : List (List Nat)} {s : Int} {w : Slot} (hs : 0 ≤ s) (hne : ws ≠ []) (hL : ws.length ≤ 1048576) :
    Ex T cEm (sEm (vs want) (vs got) (.own (ws.map .str)) (vi s) (vi got.length) w) ((dAt 1).body.drop 6) (.ret (.bool (lastP got ws s))) := by
  have hlen : 0 < ws.length := List.length_pos_iff.mpr hne
  have hlast : ws.getLastD [] = ws.getD (ws.length - 1) [] := by
    rw [List.getLastD_eq_getLast?, List.getLast?_eq_getElem?]; simp [List.getD]
  refine Ex.cons (Ex1.assign (p := .str (ws.getLastD [])) (Ev.subo (EvO.name (by walk_at "at")) (Ev.neg Ev.int) (Sbo.neg (by decide) (by simp; omega) (by
    rw [hlast, show ((-1 : Int) + ((ws.map V.str).length : Nat)).toNat = ws.length - 1 by simp; omega]
    exact map_at (f := V.str) (by omega)))) (by walk_at "at")) ?_
  unfold lastP
  generalize hw : ws.getLastD [] = wl
  dsimp only
  by_cases h0 : wl = []
  · rw [if_pos h0]
    refine Ex.cons (Ex1.skip (Tr.cast (Tr.val (by walk_at "ev") Tv.str) (by simp [h0]))) ?_
    exact em_tail hT hs (by omega) hL
  rw [if_neg h0]
  by_cases h1 : wl.isSuffixOf got = true
  · rw [if_pos h1]
    have hle : wl.length ≤ got.length := (List.isSuffixOf_iff_suffix.mp h1).length_le
    refine Ex.cons (σ1 := sEm (vs want) (vs got) (.own (ws.dropLast.map .str)) (vi s) (vi ((got.length : Int) - wl.length)) (vs wl)) (Ex1.if_ (b := true) (Tr.cast (Tr.val (by walk_at "ev") Tv.str) (by simp [h0])) (fun _ => ?_) (by simp)) ?_
    · refine Ex.cons (Ex1.if_ (b := true) (Tr.cast (Tr.val (Ev.meth (by walk_at "ev") (EvL.cons (by walk_at "ev") EvL.nil) Mth.endswith) Tv.bool) h1) (fun _ => ?_) (by simp)) Ex.nil
      refine Ex.cons (Ex1.aug (by walk_at "at") (by walk_at "ev") Ip2.sub (by walk_at "at")) ?_
      refine Ex.cons (Ex1.delitem (j := ws.length - 1) (by walk_at "at") (Ev.neg Ev.int) ?_ (by simp; omega) (by decide) (by walk_at "at")) ?_
      · rw [List.length_map]
        have := StrLaws.seqIndex_neg (i := -1) (n := ws.length) (by decide) (by omega)
        rw [this]
        congr 1
        omega
      · refine Ex.castn Ex.nil ?_
        simp [List.dropLast_eq_take, List.eraseIdx_eq_take_drop_succ, List.drop_eq_nil_of_le, show ws.length - 1 + 1 = ws.length by omega, List.map_take]
    · exact em_tail hT hs (by omega) (by simp; omega)
  · rw [if_neg h1]
    rw [Bool.not_eq_true] at h1
    refine Ex.ret (Ex1.if_ (b := true) (Tr.cast (Tr.val (by walk_at "ev") Tv.str) (by simp [h0])) (fun _ => ?_) (by simp))
    exact Ex.ret (Ex1.if_ (b := false) (Tr.cast (Tr.val (Ev.meth (by walk_at "ev") (EvL.cons (by walk_at "ev") EvL.nil) Mth.endswith) Tv.bool) h1) (by simp) (fun _ => Ex.ret (Ex1.return_ (by walk_at "ev"))))
end
section
open PySem PySem.W PyProof.Rows
set_option Elab.async false
set_option linter.unusedVariables false
set_option maxRecDepth 100000
variable {T : TC}


theorem has_no {p : List Nat} {a : Nat} {ys : List Nat} (h : a ∉ p) : hasP p (a :: ys) = false := by
  unfold hasP
  rw [List.any_eq_false]
  intro i hi hc
  rw [Bool.and_eq_true] at hc
  exact h (List.mem_of_getElem? (at_head rfl hc.2))
theorem has_yes {w q : List Nat} {r : List (List Nat)} {y : List Nat} : hasP (joinP y (w :: q :: r)) y = true := by
  unfold hasP
  rw [List.any_eq_true]
  refine ⟨w.length, List.mem_range.mpr (by simp [joinP]; omega), ?_⟩
  rw [Bool.and_eq_true, decide_eq_true_iff]
  refine ⟨by simp [joinP], ?_⟩
  unfold atP
  rw [beq_iff_eq]
  show (List.drop w.length (w ++ y ++ joinP y (q :: r))).take y.length = y
  rw [List.append_assoc, List.drop_left, List.take_left]

theorem cal_em {dd : Nat} (hT : IsT T) (hd : 1 ≤ dd) {ps : List (List Nat)} {got : List Nat} (hne : ps ≠ []) (hp : ∀ p ∈ ps, 46 ∉ p) (hL : (joinP [46, 46, 46] ps).length ≤ 1048576) (hps : ps.length ≤ 1048576) : Cal T dd "_ellipsis_match" [.str (joinP [46, 46, 46] ps), .str got] (.bool (emP ps got)) := by
  rw [← n1]
  refine Cal.of (fEm hT) rfl hd ?_
  show Ex T cEm (sEm (vs (joinP [46, 46, 46] ps)) (vs got) D D D D) (dAt 1).body (.ret (.bool (emP ps got)))
  match ps, hne, hp, hL, hps with
  | [p], _, hp, hL, _ =>
    show Ex T cEm (sEm (vs p) (vs got) D D D D) (dAt 1).body (.ret (.bool (p == got)))
    exact Ex.ret (Ex1.if_ (b := true) (Tr.cast (Tr.cmp (by walk_at "ev") (by walk_at "ev") Cm2.notins) (by rw [has_no (hp p (.head _))]; rfl)) (fun _ => Ex.ret (Ex1.return_ (by walk_at "ev"))) (by simp))
  | w :: q :: r, _, hp, hL, hps =>
    have hj : (joinP [46, 46, 46] (w :: q :: r)) = joinP [46, 46, 46] (w :: q :: r) := rfl
    refine Ex.cons (Ex1.skip (Tr.cast (Tr.cmp (by walk_at "ev") (by walk_at "ev") Cm2.notins) (by rw [has_yes]; rfl))) ?_
    refine Ex.cons (Ex1.assign_new (EvN.split (by walk_at "ev") (by walk_at "ev") (by simp) hp (by decide) hL hps) (by walk_at "at")) ?_
    refine Ex.cons (Ex1.assert (Tr.cast (Tr.cmp (Ev.callo (by walk_at "ev") (EvO.name (by walk_at "at")) Bco.len) (by walk_at "ev") (by walk_at "cm2")) (by simp; omega))) ?_
    refine Ex.cons (Ex1.tuple2 (by walk_at "ev") (by walk_at "ev") (by walk_at "at") (by walk_at "at") ?_) ?_
    · intro env hk hn
      unfold swappedStores Env.blockKind Env.kindOf
      rw [hk, hn]
      kernel_rfl
    refine Ex.cons (Ex1.assign (p := .str w) (Ev.subo (EvO.name (by walk_at "at")) (by walk_at "ev") (Sbo.at (by decide) rfl)) (by walk_at "at")) ?_
    show Ex T cEm _ _ (.ret (.bool (if w = [] then lastP got (w :: q :: r) 0 else if w.isPrefixOf got then lastP got (q :: r) w.length else false)))
    by_cases h0 : w = []
    · rw [if_pos h0]
      refine Ex.cons (Ex1.skip (Tr.cast (Tr.val (by walk_at "ev") Tv.str) (by simp [h0]))) ?_
      exact em_last hT (by decide) (by simp) hps
    rw [if_neg h0]
    by_cases h1 : w.isPrefixOf got = true
    · rw [if_pos h1]
      refine Ex.cons (σ1 := sEm (vs (joinP [46, 46, 46] (w :: q :: r))) (vs got) (.own ((q :: r).map .str)) (vi w.length) (vi got.length) (vs w)) (Ex1.if_ (b := true) (Tr.cast (Tr.val (by walk_at "ev") Tv.str) (by simp [h0])) (fun _ => ?_) (by simp)) ?_
      · refine Ex.cons (Ex1.if_ (b := true) (Tr.cast (Tr.val (Ev.meth (by walk_at "ev") (EvL.cons (by walk_at "ev") EvL.nil) Mth.startswith) Tv.bool) h1) (fun _ => ?_) (by simp)) Ex.nil
        refine Ex.cons (Ex1.assign (by walk_at "ev") (by walk_at "at")) ?_
        refine Ex.cons (Ex1.delitem (j := 0) (by walk_at "at") (by walk_at "ev") ?_ (by simp) (by decide) (by walk_at "at")) ?_
        · have := StrLaws.seqIndex_nonneg (i := 0) (n := ((w :: q :: r).map V.str).length) (by decide) (by simp; omega)
          exact this
        · exact Ex.castn Ex.nil rfl
      · exact em_last hT (by omega) (by simp) (by simp at hps ⊢; omega)
    · rw [if_neg h1]
      rw [Bool.not_eq_true] at h1
      refine Ex.ret (Ex1.if_ (b := true) (Tr.cast (Tr.val (by walk_at "ev") Tv.str) (by simp [h0])) (fun _ => ?_) (by simp))
      exact Ex.ret (Ex1.if_ (b := false) (Tr.cast (Tr.val (Ev.meth (by walk_at "ev") (EvL.cons (by walk_at "ev") EvL.nil) Mth.startswith) Tv.bool) h1) (by simp) (fun _ => Ex.ret (Ex1.return_ (by walk_at "ev"))))
end
section
open PySem PySem.W PyProof.Rows
set_option Elab.async false
set_option linter.unusedVariables false
set_option maxRecDepth 100000
variable {T : TC}


-- the escapes
noncomputable def cd (l : List (Nat × List Nat)) (k : Nat) : List Nat := l.foldl (fun x e => repP e.1 e.2 x) [k]
theorem cd_snoc (l : List (Nat × List Nat)) (a : Nat) (z : List Nat) (k : Nat) : repP a z (cd l k) = cd (l ++ [(a, z)]) k := by unfold cd; rw [List.foldl_append]; rfl
theorem repP_one {a k : Nat} {z : List Nat} (h : k ≠ a) : repP a z [k] = [k] := by simp [repP, h]
theorem cd_other : ∀ (l : List (Nat × List Nat)) (k : Nat), k ∉ l.map (·.1) → cd l k = [k]
  | [], k, _ => rfl
  | (a, z) :: l, k, h => by
    rw [List.map_cons, List.mem_cons, not_or] at h
    show l.foldl (fun x e => repP e.1 e.2 x) (repP a z [k]) = _
    rw [repP_one h.1]
    exact cd_other l k h.2
theorem cd_len {l : List (Nat × List Nat)} (h : ((l.map (·.1)).all fun k => decide ((cd l k).length ≤ 6)) = true) (k : Nat) : (cd l k).length ≤ 6 := by
  by_cases hk : k ∈ l.map (·.1)
  · exact of_decide_eq_true (List.all_eq_true.mp h k hk)
  · rw [cd_other l k hk]; simp
theorem flat_len {y : List Nat} {g : Nat → List Nat} (hg : ∀ k, (g k).length ≤ 6) : (y.flatMap g).length ≤ 6 * y.length := by
  induction y with
  | nil => simp
  | cons k y ih =>
    rw [List.flatMap_cons, List.length_append, List.length_cons]
    have := hg k
    omega
theorem rep_flat {a : Nat} {z : List Nat} {g : Nat → List Nat} : ∀ y : List Nat, repP a z (y.flatMap g) = y.flatMap fun k => repP a z (g k)
  | [] => rfl
  | k :: y => by rw [List.flatMap_cons, repP_append, rep_flat y, List.flatMap_cons]
theorem esc_step {c : Cx} (hN : c.N = [Str.ofString "text"]) {A Z : Str} {k1 k2 k3 p1 p2 p3 p4 p5 p6 p7 p8 p9 p10 p11 rest o} {y : List Nat} {l : List (Nat × List Nat)} {a : Nat} {z : List Nat} (hy : y.length ≤ 1000) (hA : A = S [a]) (hZ : Z = S z) (hz : z.length ≤ 14) (hne : [a] ≠ z)
    (hl : (((l ++ [(a, z)]).map (·.1)).all fun k => decide ((cd (l ++ [(a, z)]) k).length ≤ 6)) = true) (hline : (p6.endLine == p9.line) = true) (h : Ex T c [vs (y.flatMap (cd (l ++ [(a, z)])))] rest o) :
    Ex T c [vs (y.flatMap (cd l))] (.If (.Compare (.Constant (.str A) k1 p1) [.In] [.Name (Str.ofString "text") p2] p3) [.Assign [.Name (Str.ofString "text") p4] (.Call (.Attribute (.Name (Str.ofString "text") p5) (Str.ofString "replace") p6) [.Constant (.str A) k2 p7, .Constant (.str Z) k3 p8] [] p9) p10] [] p11 :: rest) o := by
  have e : repP a z (y.flatMap (cd l)) = y.flatMap (cd (l ++ [(a, z)])) := by
    rw [rep_flat]; congr 1; funext k; exact cd_snoc l a z k
  have hL : (repP a z (y.flatMap (cd l))).length ≤ 1048576 := by
    rw [e]; have := flat_len (y := y) (cd_len hl); omega
  have hat : At c.N [vs (y.flatMap (cd l))] (Str.ofString "text") (.val (.str (y.flatMap (cd l)))) := by rw [hN]; exact .here
  refine Ex.cons (σ1 := [vs (y.flatMap (cd (l ++ [(a, z)])))]) (Ex1.if_ (b := hasP (y.flatMap (cd l)) [a]) (Tr.cmp (Ev.str hA (by simp)) (Ev.name hat) Cm2.ins) (fun hb => ?_) (fun hb => ?_)) h
  · rw [← e]
    refine Ex.cons (Ex1.assign (Ev.replace (Ev.name hat) (Ev.strt hA (by simp)) hZ hz hne hL (hline := hline)) (by rw [hN]; exact .here)) Ex.nil
  · rw [hasP_one] at hb
    rw [← e, repP_free (by simpa using hb)]
    exact Ex.nil
noncomputable def escL : Nat → List (Nat × List Nat)
  | 0 => [(38, [38, 97, 109, 112, 59]), (60, [38, 108, 116, 59]), (62, [38, 103, 116, 59])]
  | 1 => [(38, [38, 97, 109, 112, 59]), (60, [38, 108, 116, 59]), (62, [38, 103, 116, 59]), (34, [38, 113, 117, 111, 116, 59]), (13, [38, 35, 49, 51, 59]), (10, [38, 35, 49, 48, 59]), (9, [38, 35, 48, 57, 59])]
  | 2 => [(38, [38, 97, 109, 112, 59]), (62, [38, 103, 116, 59]), (34, [38, 113, 117, 111, 116, 59])]
  | 3 => [(38, [38, 97, 109, 112, 59]), (60, [38, 108, 116, 59]), (62, [38, 103, 116, 59]), (13, [38, 35, 120, 68, 59])]
  | _ => [(38, [38, 97, 109, 112, 59]), (60, [38, 108, 116, 59]), (34, [38, 113, 117, 111, 116, 59]), (9, [38, 35, 120, 57, 59]), (10, [38, 35, 120, 65, 59]), (13, [38, 35, 120, 68, 59])]
noncomputable def escP (h : Nat) (y : List Nat) : List Nat := y.flatMap (cd (escL h))

theorem m8 : dAt 8 ∈ recsOf hd.view_39 := mem_view 8 (by kernel_rfl) (by kernel_rfl)
theorem m9 : dAt 9 ∈ recsOf hd.view_39 := mem_view 9 (by kernel_rfl) (by kernel_rfl)
theorem m10 : dAt 10 ∈ recsOf hd.view_39 := mem_view 10 (by kernel_rfl) (by kernel_rfl)
theorem m11 : dAt 11 ∈ recsOf hd.view_39 := mem_view 11 (by kernel_rfl) (by kernel_rfl)
theorem m12 : dAt 12 ∈ recsOf hd.view_39 := mem_view 12 (by kernel_rfl) (by kernel_rfl)
theorem n8 : (dAt 8).name = Str.ofString "_escape_cdata" := by kernel_rfl
theorem n9 : (dAt 9).name = Str.ofString "_escape_attrib" := by kernel_rfl
theorem n10 : (dAt 10).name = Str.ofString "_escape_attrib_html" := by kernel_rfl
theorem n11 : (dAt 11).name = Str.ofString "_escape_cdata_c14n" := by kernel_rfl
theorem n12 : (dAt 12).name = Str.ofString "_escape_attrib_c14n" := by kernel_rfl
@[reducible] noncomputable def cEsc (i : Nat) : Cx := ⟨0, (dAt i).scope.names, [Str.ofString "text"], []⟩
theorem flat_one (y : List Nat) : y.flatMap (cd []) = y := by
  induction y with
  | nil => rfl
  | cons k y ih => rw [List.flatMap_cons, ih]; rfl
theorem esc_start {c : Cx} {y ss o} (h : Ex T c [vs (y.flatMap (cd []))] ss o) : Ex T c [vs y] ss o := by rw [flat_one] at h; exact h
theorem esc0 (hT : IsT T) {dd : Nat} (hd : 1 ≤ dd) {y : List Nat} (hy : y.length ≤ 1000) : Cal T dd "_escape_cdata" [.str y] (.str (escP 0 y)) := by
  rw [← n8]
  refine Cal.of (FnCx.of (params := [Str.ofString "text"]) (rest := []) (d := 0) (G := []) hT m8 (by decide +kernel) .nil (fun _ _ _ => len1 fun _ => rfl)) rfl hd ?_
  refine Ex.ret (Ex1.try_ (esc_start ?_))
  refine esc_step (a := 38) (z := [38, 97, 109, 112, 59]) rfl hy (by decide +kernel) (by decide +kernel) (by decide) (by decide) (by decide +kernel) rfl ?_
  refine esc_step (a := 60) (z := [38, 108, 116, 59]) rfl hy (by decide +kernel) (by decide +kernel) (by decide) (by decide) (by decide +kernel) rfl ?_
  refine esc_step (a := 62) (z := [38, 103, 116, 59]) rfl hy (by decide +kernel) (by decide +kernel) (by decide) (by decide) (by decide +kernel) rfl ?_
  exact Ex.ret (Ex1.return_ (Ev.name .here))
theorem esc1 (hT : IsT T) {dd : Nat} (hd : 1 ≤ dd) {y : List Nat} (hy : y.length ≤ 1000) : Cal T dd "_escape_attrib" [.str y] (.str (escP 1 y)) := by
  rw [← n9]
  refine Cal.of (FnCx.of (params := [Str.ofString "text"]) (rest := []) (d := 0) (G := []) hT m9 (by decide +kernel) .nil (fun _ _ _ => len1 fun _ => rfl)) rfl hd ?_
  refine Ex.ret (Ex1.try_ (esc_start ?_))
  refine esc_step (a := 38) (z := [38, 97, 109, 112, 59]) rfl hy (by decide +kernel) (by decide +kernel) (by decide) (by decide) (by decide +kernel) rfl ?_
  refine esc_step (a := 60) (z := [38, 108, 116, 59]) rfl hy (by decide +kernel) (by decide +kernel) (by decide) (by decide) (by decide +kernel) rfl ?_
  refine esc_step (a := 62) (z := [38, 103, 116, 59]) rfl hy (by decide +kernel) (by decide +kernel) (by decide) (by decide) (by decide +kernel) rfl ?_
  refine esc_step (a := 34) (z := [38, 113, 117, 111, 116, 59]) rfl hy (by decide +kernel) (by decide +kernel) (by decide) (by decide) (by decide +kernel) rfl ?_
  refine esc_step (a := 13) (z := [38, 35, 49, 51, 59]) rfl hy (by decide +kernel) (by decide +kernel) (by decide) (by decide) (by decide +kernel) rfl ?_
  refine esc_step (a := 10) (z := [38, 35, 49, 48, 59]) rfl hy (by decide +kernel) (by decide +kernel) (by decide) (by decide) (by decide +kernel) rfl ?_
  refine esc_step (a := 9) (z := [38, 35, 48, 57, 59]) rfl hy (by decide +kernel) (by decide +kernel) (by decide) (by decide) (by decide +kernel) rfl ?_
  exact Ex.ret (Ex1.return_ (Ev.name .here))
theorem esc2 (hT : IsT T) {dd : Nat} (hd : 1 ≤ dd) {y : List Nat} (hy : y.length ≤ 1000) : Cal T dd "_escape_attrib_html" [.str y] (.str (escP 2 y)) := by
  rw [← n10]
  refine Cal.of (FnCx.of (params := [Str.ofString "text"]) (rest := []) (d := 0) (G := []) hT m10 (by decide +kernel) .nil (fun _ _ _ => len1 fun _ => rfl)) rfl hd ?_
  refine Ex.ret (Ex1.try_ (esc_start ?_))
  refine esc_step (a := 38) (z := [38, 97, 109, 112, 59]) rfl hy (by decide +kernel) (by decide +kernel) (by decide) (by decide) (by decide +kernel) rfl ?_
  refine esc_step (a := 62) (z := [38, 103, 116, 59]) rfl hy (by decide +kernel) (by decide +kernel) (by decide) (by decide) (by decide +kernel) rfl ?_
  refine esc_step (a := 34) (z := [38, 113, 117, 111, 116, 59]) rfl hy (by decide +kernel) (by decide +kernel) (by decide) (by decide) (by decide +kernel) rfl ?_
  exact Ex.ret (Ex1.return_ (Ev.name .here))
theorem esc3 (hT : IsT T) {dd : Nat} (hd : 1 ≤ dd) {y : List Nat} (hy : y.length ≤ 1000) : Cal T dd "_escape_cdata_c14n" [.str y] (.str (escP 3 y)) := by
  rw [← n11]
  refine Cal.of (FnCx.of (params := [Str.ofString "text"]) (rest := []) (d := 0) (G := []) hT m11 (by decide +kernel) .nil (fun _ _ _ => len1 fun _ => rfl)) rfl hd ?_
  refine Ex.ret (Ex1.try_ (esc_start ?_))
  refine esc_step (a := 38) (z := [38, 97, 109, 112, 59]) rfl hy (by decide +kernel) (by decide +kernel) (by decide) (by decide) (by decide +kernel) rfl ?_
  refine esc_step (a := 60) (z := [38, 108, 116, 59]) rfl hy (by decide +kernel) (by decide +kernel) (by decide) (by decide) (by decide +kernel) rfl ?_
  refine esc_step (a := 62) (z := [38, 103, 116, 59]) rfl hy (by decide +kernel) (by decide +kernel) (by decide) (by decide) (by decide +kernel) rfl ?_
  refine esc_step (a := 13) (z := [38, 35, 120, 68, 59]) rfl hy (by decide +kernel) (by decide +kernel) (by decide) (by decide) (by decide +kernel) rfl ?_
  exact Ex.ret (Ex1.return_ (Ev.name .here))
theorem esc4 (hT : IsT T) {dd : Nat} (hd : 1 ≤ dd) {y : List Nat} (hy : y.length ≤ 1000) : Cal T dd "_escape_attrib_c14n" [.str y] (.str (escP 4 y)) := by
  rw [← n12]
  refine Cal.of (FnCx.of (params := [Str.ofString "text"]) (rest := []) (d := 0) (G := []) hT m12 (by decide +kernel) .nil (fun _ _ _ => len1 fun _ => rfl)) rfl hd ?_
  refine Ex.ret (Ex1.try_ (esc_start ?_))
  refine esc_step (a := 38) (z := [38, 97, 109, 112, 59]) rfl hy (by decide +kernel) (by decide +kernel) (by decide) (by decide) (by decide +kernel) rfl ?_
  refine esc_step (a := 60) (z := [38, 108, 116, 59]) rfl hy (by decide +kernel) (by decide +kernel) (by decide) (by decide) (by decide +kernel) rfl ?_
  refine esc_step (a := 34) (z := [38, 113, 117, 111, 116, 59]) rfl hy (by decide +kernel) (by decide +kernel) (by decide) (by decide) (by decide +kernel) rfl ?_
  refine esc_step (a := 9) (z := [38, 35, 120, 57, 59]) rfl hy (by decide +kernel) (by decide +kernel) (by decide) (by decide) (by decide +kernel) rfl ?_
  refine esc_step (a := 10) (z := [38, 35, 120, 65, 59]) rfl hy (by decide +kernel) (by decide +kernel) (by decide) (by decide) (by decide +kernel) rfl ?_
  refine esc_step (a := 13) (z := [38, 35, 120, 68, 59]) rfl hy (by decide +kernel) (by decide +kernel) (by decide) (by decide) (by decide +kernel) rfl ?_
  exact Ex.ret (Ex1.return_ (Ev.name .here))
end
section
open PySem PySem.W PyProof.Rows
set_option Elab.async false
set_option linter.unusedVariables false
set_option maxRecDepth 100000
set_option maxHeartbeats 4000000
variable {T : TC}


-- the spelling
noncomputable def signs : List Nat := [38, 60, 62, 34, 13, 10, 9, 98, 66]
noncomputable def turnsP : Nat → List Nat
  | 0 => [38, 60, 62]
  | 1 => [38, 60, 62, 34, 13, 10, 9]
  | 2 => [38, 62, 34]
  | 3 => [38, 60, 62, 13]
  | _ => [38, 60, 34, 13, 10, 9]
theorem m13 : dAt 13 ∈ recsOf hd.view_39 := mem_view 13 (by kernel_rfl) (by kernel_rfl)
theorem m14 : dAt 14 ∈ recsOf hd.view_39 := mem_view 14 (by kernel_rfl) (by kernel_rfl)
theorem m15 : dAt 15 ∈ recsOf hd.view_39 := mem_view 15 (by kernel_rfl) (by kernel_rfl)
theorem m16 : dAt 16 ∈ recsOf hd.view_39 := mem_view 16 (by kernel_rfl) (by kernel_rfl)
theorem m17 : dAt 17 ∈ recsOf hd.view_39 := mem_view 17 (by kernel_rfl) (by kernel_rfl)
theorem n13 : (dAt 13).name = Str.ofString "_law_spelling" := by kernel_rfl
theorem n14 : (dAt 14).name = Str.ofString "_law_says" := by kernel_rfl
theorem n15 : (dAt 15).name = Str.ofString "_law_tells" := by kernel_rfl
theorem n16 : (dAt 16).name = Str.ofString "_law_orders" := by kernel_rfl
theorem n17 : (dAt 17).name = Str.ofString "law" := by kernel_rfl
@[reducible] noncomputable def cSp (d : Nat) : Cx := ⟨d, (dAt 13).scope.names, [Str.ofString "hand", Str.ofString "sign"], []⟩
theorem fSp (d : Nat) (hT : IsT T) : FnCx T (dAt 13) (cSp d) [Str.ofString "hand", Str.ofString "sign"] [] :=
  FnCx.of (params := [Str.ofString "hand", Str.ofString "sign"]) (rest := []) hT m13 (by decide +kernel) .nil (fun _ _ _ => len2 fun _ _ => rfl)
theorem cst {c : Cx} {σ : List Slot} {x : Str} {k pos} (l : List Nat) (e : x = S l := by decide +kernel) (h : l.length ≤ 1048576 := by decide) : Ev T c σ (.Constant (.str x) k pos) (.str l) := Ev.str e h
theorem sp_keep : ∀ h < 5, ∀ k ∈ signs, (turnsP h).contains k = false → cd (escL h) k = [k] := by decide +kernel
noncomputable def spTab : Nat → List (List Nat)
  | 0 => [[38, 35, 49, 51, 59], [38, 35, 49, 48, 59], [38, 35, 48, 57, 59]]
  | _ => [[38, 35, 120, 68, 59], [38, 35, 120, 65, 59], [38, 35, 120, 57, 59]]
theorem sp_white : ∀ h < 5, ∀ k ∈ signs, (turnsP h).contains k = true → [13, 10, 9].contains k = true →
    (spTab (h / 3))[[13, 10, 9].findIdx (· == k)]? = some (cd (escL h) k) ∧ findP [13, 10, 9] [k] 0 3 = some ([13, 10, 9].findIdx (· == k)) := by decide +kernel
theorem sp_rest : ∀ h < 5, ∀ k ∈ signs, (turnsP h).contains k = true → [13, 10, 9].contains k = false →
    ([([38], [38, 97, 109, 112, 59]), ([60], [38, 108, 116, 59]), ([62], [38, 103, 116, 59]), ([34], [38, 113, 117, 111, 116, 59])] : List (List Nat × List Nat)).lookup [k] = some (cd (escL h) k) := by decide +kernel
theorem cal_spell {dd : Nat} (hT : IsT T) (hd : 1 ≤ dd) {h k : Nat} (hh : h < 5) (hk : k ∈ signs) : Cal T dd "_law_spelling" [.int h, .str [k]] (.str (cd (escL h) k)) := by
  rw [← n13]
  refine Cal.of (fSp 0 hT) rfl hd ?_
  show Ex T (cSp 0) [.val (.int h), .val (.str [k])] (dAt 13).body (.ret (.str (cd (escL h) k)))
  have g1 : ([.str [38, 60, 62], .str [38, 60, 62, 34, 13, 10, 9], .str [38, 62, 34], .str [38, 60, 62, 13], .str [38, 60, 34, 13, 10, 9]] : List V)[((h : Nat) : Int).toNat]? = some (.str (turnsP h)) := by
    match h, hh with
    | 0, _ => rfl
    | 1, _ => rfl
    | 2, _ => rfl
    | 3, _ => rfl
    | 4, _ => rfl
  by_cases hc : (turnsP h).contains k = true
  · refine Ex.cons (Ex1.skip (Tr.cast (Tr.cmp (Ev.name (by walk_at "at")) (Ev.sub (Ev.list (EvL.cons (cst [38, 60, 62]) (EvL.cons (cst [38, 60, 62, 34, 13, 10, 9]) (EvL.cons (cst [38, 62, 34])
      (EvL.cons (cst [38, 60, 62, 13]) (EvL.cons (cst [38, 60, 34, 13, 10, 9]) EvL.nil)))))) (Ev.name (by walk_at "at")) (Sbo.of (Sbo.at (by omega) g1))) Cm2.notins) (by rw [hasP_one, hc]; rfl))) ?_
    by_cases hw : ([13, 10, 9] : List Nat).contains k = true
    · obtain ⟨w1, w2⟩ := sp_white h hh k hk hc hw
      refine Ex.ret (Ex1.if_ (b := true) ?t1 (fun _ => ?t2) (fun e => nomatch e))
      case t1 => exact (Tr.cast (Tr.cmp (Ev.name (by walk_at "at")) (cst [13, 10, 9]) Cm2.ins) (by rw [hasP_one, hw]))
      refine Ex.ret ?_
      refine Ex1.return_ ?_
      have g2 : ([.list ((spTab 0).map .str), .list ((spTab 1).map .str)] : List V)[((h : Int) / 3).toNat]? = some (.list ((spTab (h / 3)).map .str)) := by
        match h, hh with
        | 0, _ => rfl
        | 1, _ => rfl
        | 2, _ => rfl
        | 3, _ => rfl
        | 4, _ => rfl
      refine Ev.sub (Ev.sub ?u1 ?u2 (Sbo.of (Sbo.at ?u3 g2))) ?u4 (Sbo.of (Sbo.at (k := (([13, 10, 9].findIdx (· == k) : Nat) : Int)) ?u5 ?u6))
      case u1 =>
        refine Ev.list (EvL.cons ?v1 (EvL.cons ?v2 EvL.nil))
        case v1 => exact Ev.list (EvL.cons (cst [38, 35, 49, 51, 59]) (EvL.cons (cst [38, 35, 49, 48, 59]) (EvL.cons (cst [38, 35, 48, 57, 59]) EvL.nil)))
        case v2 => exact Ev.list (EvL.cons (cst [38, 35, 120, 68, 59]) (EvL.cons (cst [38, 35, 120, 65, 59]) (EvL.cons (cst [38, 35, 120, 57, 59]) EvL.nil)))
      case u2 => walk_at "ev"
      case u3 => omega
      case u4 => exact Ev.meth (cst [13, 10, 9]) (EvL.cons (Ev.name (by walk_at "at")) EvL.nil) (Mth.index w2)
      case u5 => exact Int.natCast_nonneg _
      case u6 => rw [Int.toNat_natCast, List.getElem?_map, w1]; rfl
    · have hw : ([13, 10, 9] : List Nat).contains k = false := by simpa using hw
      have w1 := sp_rest h hh k hk hc hw
      refine Ex.cons (Ex1.skip (Tr.cast (Tr.cmp (Ev.name (by walk_at "at")) (cst [13, 10, 9]) Cm2.ins) (by rw [hasP_one, hw]))) ?_
      refine Ex.ret ?_
      refine Ex1.return_ ?_
      refine Ev.sub ?u1 ?u2 (Sb.dict w1)
      case u2 => exact Ev.name (by walk_at "at")
      refine Ev.dict ?u3 ?u4
      case u4 => decide
      refine EvD.cons ?a1 ?a2 (EvD.cons ?b1 ?b2 (EvD.cons ?c1 ?c2 (EvD.cons ?d1 ?d2 EvD.nil)))
      case a1 => exact cst [38]
      case a2 => exact cst [38, 97, 109, 112, 59]
      case b1 => exact cst [60]
      case b2 => exact cst [38, 108, 116, 59]
      case c1 => exact cst [62]
      case c2 => exact cst [38, 103, 116, 59]
      case d1 => exact cst [34]
      case d2 => exact cst [38, 113, 117, 111, 116, 59]
  · have hc : (turnsP h).contains k = false := by simpa using hc
    rw [sp_keep h hh k hk hc]
    exact Ex.ret (Ex1.if_ (b := true) (Tr.cast (Tr.cmp (Ev.name (by walk_at "at")) (Ev.sub (Ev.list (EvL.cons (cst [38, 60, 62]) (EvL.cons (cst [38, 60, 62, 34, 13, 10, 9]) (EvL.cons (cst [38, 62, 34])
      (EvL.cons (cst [38, 60, 62, 13]) (EvL.cons (cst [38, 60, 34, 13, 10, 9]) EvL.nil)))))) (Ev.name (by walk_at "at")) (Sbo.of (Sbo.at (by omega) g1))) Cm2.notins) (by rw [hasP_one, hc]; rfl)) (fun _ => Ex.ret (Ex1.return_ (Ev.name (by walk_at "at")))) (fun e => nomatch e))
end
section
open PySem PySem.W PyProof.Rows
set_option Elab.async false
set_option linter.unusedVariables false
set_option maxRecDepth 100000
set_option maxHeartbeats 4000000
variable {T : TC}


theorem g_type {T} (hT : IsT T) : GlobIs T "type" (.raw (.type "type")) := GlobIs.raw (by decide +kernel) (by decide +kernel) (by decide +kernel) (by decide +kernel) hT
theorem g_bool {T} (hT : IsT T) : GlobIs T "bool" (.raw (.type "bool")) := GlobIs.raw (by decide +kernel) (by decide +kernel) (by decide +kernel) (by decide +kernel) hT
theorem g_int {T} (hT : IsT T) : GlobIs T "int" (.raw (.type "int")) := GlobIs.raw (by decide +kernel) (by decide +kernel) (by decide +kernel) (by decide +kernel) hT
theorem g_sum {T} (hT : IsT T) : GlobIs T "sum" (.raw (.builtin "sum")) := GlobIs.raw (by decide +kernel) (by decide +kernel) (by decide +kernel) (by decide +kernel) hT
theorem g_sorted {T} (hT : IsT T) : GlobIs T "sorted" (.raw (.builtin "sorted")) := GlobIs.raw (by decide +kernel) (by decide +kernel) (by decide +kernel) (by decide +kernel) hT
theorem g_em {T} (hT : IsT T) : GlobIs T "_ellipsis_match" (.fn "_ellipsis_match") := GlobIs.fn 1 m1 n1 (by decide +kernel) hT
theorem g_lev {T} (hT : IsT T) : GlobIs T "_levenshtein_distance" (.fn "_levenshtein_distance") := GlobIs.fn 6 m6 n6 (by decide +kernel) hT
theorem g_spell {T} (hT : IsT T) : GlobIs T "_law_spelling" (.fn "_law_spelling") := GlobIs.fn 13 m13 n13 (by decide +kernel) hT
theorem g_says {T} (hT : IsT T) : GlobIs T "_law_says" (.fn "_law_says") := GlobIs.fn 14 m14 n14 (by decide +kernel) hT
theorem g_tells {T} (hT : IsT T) : GlobIs T "_law_tells" (.fn "_law_tells") := GlobIs.fn 15 m15 n15 (by decide +kernel) hT
theorem g_orders {T} (hT : IsT T) : GlobIs T "_law_orders" (.fn "_law_orders") := GlobIs.fn 16 m16 n16 (by decide +kernel) hT

@[reducible] noncomputable def cSays (d : Nat) : Cx := ⟨d, (dAt 14).scope.names, [Str.ofString "want", Str.ofString "got", Str.ofString "due", Str.ofString "told"],
  [(Str.ofString "_ellipsis_match", .fn "_ellipsis_match"), (Str.ofString "type", .raw (.type "type")), (Str.ofString "bool", .raw (.type "bool"))]⟩
theorem fSays (d : Nat) (hT : IsT T) : FnCx T (dAt 14) (cSays d) [Str.ofString "want", Str.ofString "got", Str.ofString "due"] [Str.ofString "told"] :=
  FnCx.of (params := [Str.ofString "want", Str.ofString "got", Str.ofString "due"]) (rest := [Str.ofString "told"]) hT m14 (by decide +kernel)
    (.cons (g_em hT) (by decide +kernel) (.cons (g_type hT) (by decide +kernel) (.cons (g_bool hT) (by decide +kernel) .nil))) (fun _ _ _ => len3 fun _ _ _ => rfl)
theorem cal_says {dd : Nat} (hT : IsT T) (hd : 8 ≤ dd) {want got : List Nat} {due b : Bool} (hc : Cal T 7 "_ellipsis_match" [.str want, .str got] (.bool b)) : Cal T dd "_law_says" [.str want, .str got, .bool due] (.bool (b == due)) := by
  rw [← n14]
  refine Cal.of (fSays 7 hT) rfl (by omega) ?_
  show Ex T (cSays 7) [.val (.str want), .val (.str got), .val (.bool due), .dead] (dAt 14).body (.ret (.bool (b == due)))
  refine Ex.cons (Ex1.assign (Ev.call (Ev.glob (by walk_at "at")) ?g1 (EvL.cons (Ev.name (by walk_at "at")) (EvL.cons (Ev.name (by walk_at "at")) EvL.nil)) hc) (by walk_at "at")) ?_
  case g1 => exact ⟨dAt 1, by rw [hT.view]; exact m1, n1⟩
  refine Ex.ret ?_
  refine Ex1.return_ ?_
  refine Ev.cast (Ev.and2 (p := .bool true) (b := true) (q := .bool (b == due)) (Ev.cmp (Ev.type_ (Ev.glob ?a1) (Ev.name ?a2) (typ_bool (b := b)) ?g2) (Ev.glob ?a3) Cm2.is_ty ?a4) Tv.bool (fun _ => ?a5)) ?a6
  case a1 => walk_at "at"
  case a2 => walk_at "at"
  case a3 => walk_at "at"
  case g2 => decide
  case a4 => with_unfolding_all rfl
  case a5 => walk_at "ev"
  case a6 => rfl

@[reducible] noncomputable def cTells (d : Nat) : Cx := ⟨d, (dAt 15).scope.names, [Str.ofString "one", Str.ofString "other", Str.ofString "bound", Str.ofString "due", Str.ofString "told"],
  [(Str.ofString "_levenshtein_distance", .fn "_levenshtein_distance"), (Str.ofString "type", .raw (.type "type")), (Str.ofString "int", .raw (.type "int"))]⟩
theorem fTells (d : Nat) (hT : IsT T) : FnCx T (dAt 15) (cTells d) [Str.ofString "one", Str.ofString "other", Str.ofString "bound", Str.ofString "due"] [Str.ofString "told"] :=
  FnCx.of (params := [Str.ofString "one", Str.ofString "other", Str.ofString "bound", Str.ofString "due"]) (rest := [Str.ofString "told"]) hT m15 (by decide +kernel)
    (.cons (g_lev hT) (by decide +kernel) (.cons (g_type hT) (by decide +kernel) (.cons (g_int hT) (by decide +kernel) .nil))) (fun _ _ _ => len4 fun _ _ _ _ => rfl)
theorem cal_tells {dd : Nat} (hT : IsT T) (hd : 8 ≤ dd) {one other : List Nat} {bound due r : Int} (hc : Cal T 7 "_levenshtein_distance" [.str one, .str other, .int bound] (.int r)) : Cal T dd "_law_tells" [.str one, .str other, .int bound, .int due] (.bool (r == due)) := by
  rw [← n15]
  refine Cal.of (fTells 7 hT) rfl (by omega) ?_
  show Ex T (cTells 7) [.val (.str one), .val (.str other), .val (.int bound), .val (.int due), .dead] (dAt 15).body (.ret (.bool (r == due)))
  refine Ex.cons (Ex1.assign (Ev.call (Ev.glob (by walk_at "at")) ?g1 (EvL.cons (Ev.name (by walk_at "at")) (EvL.cons (Ev.name (by walk_at "at")) (EvL.cons (Ev.name (by walk_at "at")) EvL.nil))) hc) (by walk_at "at")) ?_
  case g1 => exact ⟨dAt 6, by rw [hT.view]; exact m6, n6⟩
  refine Ex.ret ?_
  refine Ex1.return_ ?_
  refine Ev.cast (Ev.and2 (p := .bool true) (b := true) (q := .bool (r == due)) (Ev.cmp (Ev.type_ (Ev.glob ?a1) (Ev.name ?a2) (typ_int (i := r)) ?g2) (Ev.glob ?a3) Cm2.is_ty ?a4) Tv.bool (fun _ => ?a5)) ?a6
  case a1 => walk_at "at"
  case a2 => walk_at "at"
  case a3 => walk_at "at"
  case g2 => decide
  case a4 => with_unfolding_all rfl
  case a5 => walk_at "ev"
  case a6 => rfl

-- the orders
@[reducible] noncomputable def cOrd (d : Nat) : Cx := ⟨d, (dAt 16).scope.names, [Str.ofString "word", Str.ofString "up", Str.ofString "ends", Str.ofString "sign"],
  [(Str.ofString "sum", .raw (.builtin "sum")), (Str.ofString "len", .raw (.builtin "len")), (Str.ofString "range", .raw (.type "range"))]⟩
theorem fOrd (d : Nat) (hT : IsT T) : FnCx T (dAt 16) (cOrd d) [Str.ofString "word", Str.ofString "up"] [Str.ofString "ends", Str.ofString "sign"] :=
  FnCx.of (params := [Str.ofString "word", Str.ofString "up"]) (rest := [Str.ofString "ends", Str.ofString "sign"]) hT m16 (by decide +kernel)
    (.cons (g_sum hT) (by decide +kernel) (.cons (g_len hT) (by decide +kernel) (.cons (g_range hT) (by decide +kernel) .nil))) (fun _ _ _ => len2 fun _ _ => rfl)
theorem cal_orders {dd : Nat} (hT : IsT T) (hd : 1 ≤ dd) {word : List Nat} {up : Nat} (hw : word.length ≤ 100) : Cal T dd "_law_orders" [.str word, .str [up]] (.int (ordP up word)) := by
  rw [← n16]
  refine Cal.of (fOrd 0 hT) rfl (by omega) ?_
  show Ex T (cOrd 0) [.val (.str word), .val (.str [up]), .dead, .dead] (dAt 16).body (.ret (.int (ordP up word)))
  refine Ex.cons (Ex1.assign (p := .list (([1] : List Int).map .int)) (Ev.list (EvL.cons Ev.int EvL.nil)) (by walk_at "at")) ?_
  refine Ex.forAll (L := fun i => [.val (.str word), .val (.str [up]), .val (.list ((ordEnds up (word.take i)).map .int)), .dead]) (qs := word.map fun ch => .str [ch]) (It.str (Ev.name (by walk_at "at"))) (Weak.refl _) ?_ ?_
  · intro i q hq
    obtain ⟨hi, hz⟩ : ∃ h : i < word.length, q = .str [word[i]] := by
      rw [List.getElem?_map] at hq
      rcases Nat.lt_or_ge i word.length with h | h
      · rw [List.getElem?_eq_getElem h] at hq; cases hq; exact ⟨h, rfl⟩
      · rw [List.getElem?_eq_none h] at hq; cases hq
    subst hz
    have hlen := ordEnds_len up (word.take i)
    rw [List.length_take] at hlen
    have hnext : ordEnds up (word.take (i + 1)) = ordStep (word[i] == up) (ordEnds up (word.take i)) := by
      unfold ordEnds
      rw [List.take_add_one, List.getElem?_eq_getElem hi, Option.toList_some, List.foldl_append]; rfl
    refine ⟨[.val (.str word), .val (.str [up]), .val (.list ((ordEnds up (word.take i)).map .int)), .val (.str [word[i]])], by walk_at "at", ?_⟩
    rw [hnext]
    generalize ordEnds up (word.take i) = ends at hlen ⊢
    refine Ex.cons (σ1 := [.val (.str word), .val (.str [up]), .val (.list ((ordStep (word[i] == up) ends).map .int)), .val (.str [word[i]])]) (Ex1.compL (caps := [Str.ofString "ends", Str.ofString "sign", Str.ofString "up"]) (cs := [.val (.list (ends.map .int)), .val (.str [word[i]]), .val (.str [up])]) (G' := [(Str.ofString "sum", .raw (.builtin "sum"))])
      (qs := (List.range (ends.length + 1)).map fun (i : Nat) => .int (i : Int)) (rs := (ordStep (word[i] == up) ends).map .int) ?it ?ok ?cap ?g ?len ?elt ?sz ?up) ?rest
    case rest => exact Ex.weakout Ex.nil (.keep (.keep (.keep (.drop .nil))))
    case ok => decide +kernel
    case cap => exact CapL.val (by walk_at "at") (CapL.val (by walk_at "at") (CapL.val (by walk_at "at") .nil))
    case g => exact .take (by decide +kernel) (.skip (.skip .nil))
    case len => simp [ordStep]
    case sz => simp; omega
    case up => walk_at "at"
    case it =>
      refine It.range1 (n := ends.length + 1) (by walk_at "ev") ?_ (by omega)
      refine Ev.cast (Ev.bin (Ev.callo (Ev.glob (by walk_at "at")) (EvO.of (Ev.name (by walk_at "at"))) Bco.len) Ev.int Op2.add) ?_
      simp
    case elt =>
      intro k q r hq hr
      obtain ⟨rfl, hk⟩ := rng_at hq
      have hr' : r = .int (if word[i] == up then (ends.take k).sum else (ends.drop k).sum) := by
        unfold ordStep at hr
        rw [List.map_map] at hr
        obtain ⟨h, _⟩ := rng_at hr
        exact h
      subst hr'
      refine Ev.cast (Ev.ifexp (b := word[i] == up) (p := .int (ends.take k).sum) (q := .int (ends.drop k).sum) ?t1 (fun _ => ?t2) (fun _ => ?t3)) ?t4
      case t1 => exact Tr.cast (by walk_at "tr") (by simp)
      case t2 =>
        refine Ev.callo (Ev.glob (by walk_at "at")) (EvO.of (Ev.cast (Ev.listslice (EvO.of (Ev.name (by walk_at "at"))) .none (.int (Ev.name (by walk_at "at")))) ?_)) Bco.sum
        rw [pickV_to _ (by simp; omega), List.map_take]
      case t3 =>
        refine Ev.callo (Ev.glob (by walk_at "at")) (EvO.of (Ev.cast (Ev.listslice (EvO.of (Ev.name (by walk_at "at"))) (.int (Ev.name (by walk_at "at"))) .none) ?_)) Bco.sum
        rw [pickV_from _ (by simp; omega), List.map_drop]
      case t4 => split <;> rfl
  · rw [List.length_map, List.take_length]
    refine Ex.ret ?_
    refine Ex1.return_ ?_
    exact Ev.callo (Ev.glob (by walk_at "at")) (EvO.of (Ev.name (by walk_at "at"))) Bco.sum
end
section
open PySem PySem.W PyProof.Rows
set_option Elab.async false
set_option linter.unusedVariables false
set_option maxRecDepth 100000
structure Cfg (h x y : Nat) : Prop where
  hh : h < 5
  hx : x ∈ signs
  hy : y ∈ signs
  ne : x ≠ y
noncomputable def fT (x y t : Nat) : Nat := if t = 0 then x else if t = 1 then y else 61
noncomputable def gT (h x y t : Nat) : List Nat := cd (escL h) (fT x y t)
noncomputable def priceT (x y : Nat) : Int := if lowP x = lowP y then 1 else 2
noncomputable def codB (h x y : Nat) : Bool := [x, y].all fun a => !(cd (escL h) a).isEmpty && !(cd (escL h) a).contains 46 && [x, y].all fun b =>
  (a == b || (!(cd (escL h) a).isPrefixOf (cd (escL h) b) && !(cd (escL h) a).isSuffixOf (cd (escL h) b))) && (match (cd (escL h) a).head? with | some z => !(cd (escL h) b).tail.contains z | none => true)
theorem cod_all : ((List.range 5).all fun h => signs.all fun x => signs.all fun y => codB h x y) = true := by decide +kernel
theorem sub_all : (signs.all fun x => signs.all fun y => x == y || (List.range 3).all fun i => (List.range 3).all fun j => (i == j || fT x y i != fT x y j) && subP (fT x y i) (fT x y j) == subT (priceT x y) i j && decide (fT x y i < 128)) = true := by decide +kernel
section
variable {h x y : Nat} (K : Cfg h x y)
include K
theorem cod_of : codB h x y = true :=
  List.all_eq_true.mp (List.all_eq_true.mp (List.all_eq_true.mp cod_all h (List.mem_range.mpr K.hh)) x K.hx) y K.hy
theorem sub_of {i j : Nat} (hi : i < 3) (hj : j < 3) : (i ≠ j → fT x y i ≠ fT x y j) ∧ subP (fT x y i) (fT x y j) = subT (priceT x y) i j ∧ fT x y i < 128 := by
  have h1 := List.all_eq_true.mp (List.all_eq_true.mp sub_all x K.hx) y K.hy
  rw [Bool.or_eq_true, beq_iff_eq] at h1
  have h2 := List.all_eq_true.mp (List.all_eq_true.mp (h1.resolve_left K.ne) i (List.mem_range.mpr hi)) j (List.mem_range.mpr hj)
  simp only [Bool.and_eq_true, Bool.or_eq_true, beq_iff_eq, bne_iff_ne, decide_eq_true_iff] at h2
  exact ⟨fun hn => h2.1.1.resolve_left hn, h2.1.2, h2.2⟩
theorem fT_mem {t : Nat} (ht : t < 2) : fT x y t ∈ [x, y] ∧ fT x y t ∈ signs := by
  have : t = 0 ∨ t = 1 := by omega
  rcases this with rfl | rfl
  · exact ⟨by simp [fT], K.hx⟩
  · exact ⟨by simp [fT], K.hy⟩
theorem cod_two {a b : Nat} (ha : a < 2) (hb : b < 2) : gT h x y a ≠ [] ∧ 46 ∉ gT h x y a ∧ (a ≠ b → ¬ gT h x y a <+: gT h x y b ∧ ¬ gT h x y a <:+ gT h x y b) ∧ (∀ z, (gT h x y a).head? = some z → z ∉ (gT h x y b).tail) := by
  have h1 := cod_of K
  unfold codB at h1
  have h2 := List.all_eq_true.mp h1 _ (fT_mem K ha).1
  rw [Bool.and_eq_true, Bool.and_eq_true] at h2
  have h3 := List.all_eq_true.mp h2.2 _ (fT_mem K hb).1
  rw [Bool.and_eq_true] at h3
  refine ⟨by have := h2.1.1; unfold gT; intro e; rw [e] at this; simp at this, by have := h2.1.2; unfold gT; simpa using this, ?_, ?_⟩
  · intro hab
    have hne := (sub_of K (i := a) (j := b) (by omega) (by omega)).1 hab
    have h4 := h3.1
    rw [Bool.or_eq_true, beq_iff_eq] at h4
    have h5 := h4.resolve_left hne
    rw [Bool.and_eq_true, Bool.not_eq_true', Bool.not_eq_true'] at h5
    unfold gT
    rw [← List.isPrefixOf_iff_prefix, ← List.isSuffixOf_iff_suffix, h5.1, h5.2]
    exact ⟨by decide, by decide⟩
  · intro z hz
    have h4 := h3.2
    unfold gT at hz ⊢
    rw [hz] at h4
    simpa using h4
theorem cod_g : Cod (gT h x y) (· < 2) where
  ne a ha := (cod_two K ha ha).1
  pre a b ha hb hp := Classical.byContradiction fun hn => ((cod_two K ha hb).2.2.1 hn).1 hp
  suf a b ha hb hp := Classical.byContradiction fun hn => ((cod_two K ha hb).2.2.1 hn).2 hp
  head a b z ha hb hz := (cod_two K ha hb).2.2.2 z hz
theorem fT_inj {i j : Nat} (hi : i < 3) (hj : j < 3) (e : fT x y i = fT x y j) : i = j := Classical.byContradiction fun hn => (sub_of K hi hj).1 hn e
theorem lev_f {a b : List Nat} (ha : ∀ i ∈ a, i < 3) (hb : ∀ i ∈ b, i < 3) (mx : Int) : levP subP (a.map (fT x y)) (b.map (fT x y)) mx = levP (subT (priceT x y)) a b mx :=
  lev_map (D := (· < 3)) (fun i j hi hj => fT_inj K hi hj) (fun i j hi hj => (sub_of K hi hj).2.1) ha hb mx
theorem em_g {ps : List (List Nat)} {t : List Nat} (hp : ∀ w ∈ ps, ∀ a ∈ w, a < 2) (ht : ∀ a ∈ t, a < 2) : emP (ps.map (·.flatMap (gT h x y))) (t.flatMap (gT h x y)) = emP ps t :=
  em_code (cod_g K) ht hp
omit K in
theorem single_g (l : List Nat) : (l.map fun a => [a]).map (·.flatMap (gT h x y)) = l.map (gT h x y) := by
  rw [List.map_map]; apply List.map_congr_left; intro a _; simp
end
theorem price_two (x y : Nat) : priceT x y = 1 ∨ priceT x y = 2 := by unfold priceT; split <;> simp
end
section
open PySem PySem.W PyProof.Rows
set_option Elab.async false
set_option linter.unusedVariables false
set_option maxRecDepth 100000
noncomputable def partsP (h x y hb fb : Nat) (u : List Nat) : List (List Nat) := (hb :: (u ++ [fb])).map (gT h x y)
noncomputable def txtP (h x y hb fb : Nat) (u : List Nat) : List Nat := (hb :: (u ++ [fb])).flatMap (gT h x y)
theorem asc_all : ((List.range 5).all fun h => signs.all fun x => (cd (escL h) x).all fun c => decide (c < 128)) = true := by decide +kernel
theorem len_all : ((List.range 5).all fun h => signs.all fun x => decide ((cd (escL h) x).length ≤ 6)) = true := by decide +kernel
theorem tok_all {hb fb : Nat} {u : List Nat} (hhb : hb < 2) (hfb : fb < 2) (hu : ∀ a ∈ u, a < 2) : ∀ a ∈ hb :: (u ++ [fb]), a < 2 := by
  intro a ha
  rcases List.mem_cons.mp ha with rfl | ha
  · exact hhb
  · rcases List.mem_append.mp ha with ha | ha
    · exact hu a ha
    · rw [List.mem_singleton.mp ha]; exact hfb
structure Wd (w : List Nat) (hb fb : Nat) : Prop where
  lo : 2 ≤ w.length
  hi : w.length ≤ 4
  two : ∀ a ∈ w, a < 2
  hb : hb < 2
  fb : fb < 2
theorem of_three {P : List Nat → Bool} {w : List Nat} {hb fb : Nat} (Z : Wd w hb fb) (h : ((wordsN 2).all P && (wordsN 3).all P && (wordsN 4).all P) = true) : P w = true := by
  simp only [Bool.and_eq_true] at h
  obtain ⟨⟨h2, h3⟩, h4⟩ := h
  have hm := wordsN_mem Z.two
  have := Z.lo; have := Z.hi
  have hl : w.length = 2 ∨ w.length = 3 ∨ w.length = 4 := by omega
  rcases hl with e | e | e
  · rw [e] at hm; exact List.all_eq_true.mp h2 w hm
  · rw [e] at hm; exact List.all_eq_true.mp h3 w hm
  · rw [e] at hm; exact List.all_eq_true.mp h4 w hm
section
variable {h x y : Nat} (K : Cfg h x y) {w : List Nat} {hb fb : Nat} (Z : Wd w hb fb)
include K in
theorem gT_asc {t : Nat} (ht : t < 2) : ∀ c ∈ gT h x y t, c < 128 := by
  intro c hc
  have := List.all_eq_true.mp (List.all_eq_true.mp (List.all_eq_true.mp asc_all h (List.mem_range.mpr K.hh)) _ (fT_mem K ht).2) c hc
  exact of_decide_eq_true this
include K in
theorem gT_len {t : Nat} (ht : t < 2) : (gT h x y t).length ≤ 6 :=
  of_decide_eq_true (List.all_eq_true.mp (List.all_eq_true.mp len_all h (List.mem_range.mpr K.hh)) _ (fT_mem K ht).2)
include K in
theorem flat_asc {l : List Nat} (hl : ∀ a ∈ l, a < 2) : ∀ c ∈ l.flatMap (gT h x y), c < 128 := by
  intro c hc
  obtain ⟨a, ha, hc⟩ := List.mem_flatMap.mp hc
  exact gT_asc K (hl a ha) c hc
include K in
theorem flat_46 {l : List Nat} (hl : ∀ a ∈ l, a < 2) : 46 ∉ l.flatMap (gT h x y) := by
  intro hc
  obtain ⟨a, ha, hc⟩ := List.mem_flatMap.mp hc
  exact (cod_two K (hl a ha) (hl a ha)).2.1 hc
include K in
theorem flat_le {l : List Nat} (hl : ∀ a ∈ l, a < 2) : (l.flatMap (gT h x y)).length ≤ 6 * l.length := by
  induction l with
  | nil => simp
  | cons a l ih =>
    have h1 := gT_len K (hl a (.head _))
    have h2 := ih fun b hb => hl b (.tail _ hb)
    rw [List.flatMap_cons, List.length_append, List.length_cons]
    omega
theorem esc_flat (l : List Nat) : escP h (l.map (fT x y)) = l.flatMap (gT h x y) := by
  unfold escP
  rw [List.flatMap_map]
  rfl
include K in
theorem em_words {u v : List Nat} (hhb : hb < 2) (hfb : fb < 2) (hu : ∀ a ∈ u, a < 2) (hv : ∀ a ∈ v, a < 2) : emP (partsP h x y hb fb u) (txtP h x y hb fb v) = subB u v := by
  unfold partsP txtP
  rw [← single_g, em_g K ?_ (tok_all hhb hfb hv), em_sub]
  intro p hp a ha
  obtain ⟨b, hb', rfl⟩ := List.mem_map.mp hp
  rw [List.mem_singleton.mp ha]
  exact tok_all hhb hfb hu b hb'
include K Z in
theorem em_two {o q : Nat} (ho : o < 2) (hq : q < 2) : emP [gT h x y o, gT h x y q] (txtP h x y hb fb w) = (o == hb && q == fb) ∧ emP [gT h x y o, gT h x y q] (gT h x y hb) = false := by
  have h1 := of_three (P := factF) Z fF
  have two : ∀ {t : Nat}, t < 2 → t ∈ [0, 1] := by intro t ht; have : t = 0 ∨ t = 1 := by omega
                                                   rcases this with rfl | rfl <;> simp
  have h2 := List.all_eq_true.mp (List.all_eq_true.mp h1 hb (two Z.hb)) fb (two Z.fb)
  rw [Bool.and_eq_true, Bool.and_eq_true] at h2
  have h3 := List.all_eq_true.mp (List.all_eq_true.mp h2.1.1 o (two ho)) q (two hq)
  rw [Bool.and_eq_true, beq_iff_eq, Bool.not_eq_true'] at h3
  have e : [gT h x y o, gT h x y q] = ([[o], [q]] : List (List Nat)).map (·.flatMap (gT h x y)) := by simp
  have hp : ∀ p ∈ ([[o], [q]] : List (List Nat)), ∀ a ∈ p, a < 2 := by
    intro p hp a ha
    rcases List.mem_cons.mp hp with rfl | hp
    · rw [List.mem_singleton.mp ha]; exact ho
    · rw [List.mem_singleton.mp hp] at ha; rw [List.mem_singleton.mp ha]; exact hq
  refine ⟨?_, ?_⟩
  · unfold txtP
    rw [e, em_g K hp (tok_all Z.hb Z.fb Z.two)]
    exact h3.1
  · have e2 : gT h x y hb = [hb].flatMap (gT h x y) := by simp
    rw [e, e2, em_g K hp (by intro a ha; rw [List.mem_singleton.mp ha]; exact Z.hb)]
    exact h3.2
include K Z in
theorem em_open : emP [[], []] (txtP h x y hb fb w) = true ∧ emP ([] :: (partsP h x y hb fb w ++ [[]])) (txtP h x y hb fb w) = true := by
  have h1 := of_three (P := factF) Z fF
  have two : ∀ {t : Nat}, t < 2 → t ∈ [0, 1] := by intro t ht; have : t = 0 ∨ t = 1 := by omega
                                                   rcases this with rfl | rfl <;> simp
  have h2 := List.all_eq_true.mp (List.all_eq_true.mp h1 hb (two Z.hb)) fb (two Z.fb)
  rw [Bool.and_eq_true, Bool.and_eq_true] at h2
  have e1 : ([[], []] : List (List Nat)) = ([[], []] : List (List Nat)).map (·.flatMap (gT h x y)) := by simp
  have e2 : [] :: (partsP h x y hb fb w ++ [[]]) = ([] :: (((hb :: (w ++ [fb])).map fun a => [a]) ++ [[]])).map (·.flatMap (gT h x y)) := by
    rw [List.map_cons, List.map_append, single_g]; rfl
  refine ⟨?_, ?_⟩
  · rw [e1]; unfold txtP
    rw [em_g K (by intro p hp a ha; simp at hp; subst hp; cases ha) (tok_all Z.hb Z.fb Z.two)]
    exact h2.1.2
  · rw [e2]; unfold txtP
    rw [em_g K ?_ (tok_all Z.hb Z.fb Z.two)]
    · exact h2.2
    · intro p hp a ha
      rcases List.mem_cons.mp hp with rfl | hp
      · cases ha
      · rcases List.mem_append.mp hp with hp | hp
        · obtain ⟨b, hb', rfl⟩ := List.mem_map.mp hp
          rw [List.mem_singleton.mp ha]
          exact tok_all Z.hb Z.fb Z.two b hb'
        · rw [List.mem_singleton.mp hp] at ha; cases ha
include K in
theorem em_six : emP [gT h x y 0, gT h x y 0 ++ gT h x y 0, gT h x y 0 ++ gT h x y 0, gT h x y 0] (([0, 0, 0, 0, 0] : List Nat).flatMap (gT h x y)) = false ∧
    emP [gT h x y 0, gT h x y 0 ++ gT h x y 0, gT h x y 0 ++ gT h x y 0, gT h x y 0] (([0, 0, 0, 0, 0, 0] : List Nat).flatMap (gT h x y)) = true := by
  have e : [gT h x y 0, gT h x y 0 ++ gT h x y 0, gT h x y 0 ++ gT h x y 0, gT h x y 0] = ([[0], [0, 0], [0, 0], [0]] : List (List Nat)).map (·.flatMap (gT h x y)) := by simp
  have hp : ∀ p ∈ ([[0], [0, 0], [0, 0], [0]] : List (List Nat)), ∀ a ∈ p, a < 2 := by decide
  rw [e, em_g K hp (by decide), em_g K hp (by decide)]
  exact fI
theorem em_first {u : List Nat} : emP [txtP h x y hb fb []] (txtP h x y hb fb u) = (txtP h x y hb fb [] == txtP h x y hb fb u) := rfl
include K in
theorem txt_inj {u v : List Nat} (hhb : hb < 2) (hfb : fb < 2) (hu : ∀ a ∈ u, a < 2) (hv : ∀ a ∈ v, a < 2) (e : txtP h x y hb fb u = txtP h x y hb fb v) : u = v := by
  unfold txtP at e
  have h1 := (pre_code (cod_g K).ne (cod_g K).pre (tok_all hhb hfb hu) (tok_all hhb hfb hv)).mp (by rw [e]; exact List.prefix_refl _)
  have h2 := (pre_code (cod_g K).ne (cod_g K).pre (tok_all hhb hfb hv) (tok_all hhb hfb hu)).mp (by rw [e]; exact List.prefix_refl _)
  have h3 := h1.eq_of_length_le h2.length_le
  simpa using h3
theorem lt3 {l : List Nat} (hl : ∀ a ∈ l, a < 2) : ∀ a ∈ l, a < 3 := fun a ha => Nat.lt_trans (hl a ha) (by decide)
include K in
theorem lev_texts {k : Nat} (hk : k < w.length) (h2 : ∀ a ∈ w, a < 2) (mx : Int) : levP subP (txtP h x y hb fb (w.eraseIdx k)) (txtP h x y hb fb w) mx = 2 * ((txtP h x y hb fb w).length - (txtP h x y hb fb (w.eraseIdx k)).length : Int) ∧ (txtP h x y hb fb (w.eraseIdx k)).length < (txtP h x y hb fb w).length := by
  have e1 : txtP h x y hb fb (w.eraseIdx k) = (hb :: w.take k).flatMap (gT h x y) ++ (w.drop (k + 1) ++ [fb]).flatMap (gT h x y) := by
    unfold txtP
    rw [List.eraseIdx_eq_take_drop_succ, ← List.flatMap_append]; simp
  have e2 : txtP h x y hb fb w = (hb :: w.take k).flatMap (gT h x y) ++ (gT h x y w[k] ++ (w.drop (k + 1) ++ [fb]).flatMap (gT h x y)) := by
    unfold txtP
    have : w = w.take k ++ w[k] :: w.drop (k + 1) := by rw [← List.drop_eq_getElem_cons hk, List.take_append_drop]
    have e : w.flatMap (gT h x y) = (w.take k).flatMap (gT h x y) ++ (gT h x y w[k] ++ (w.drop (k + 1)).flatMap (gT h x y)) := by
      rw [← List.flatMap_cons, ← List.flatMap_append, ← this]
    simp only [List.flatMap_cons, List.flatMap_append, List.flatMap_nil, List.append_nil, List.append_assoc, e]
  have hne := (cod_g K).ne w[k] (h2 _ (List.getElem_mem hk))
  have hp := List.length_pos_iff.mpr hne
  rw [e1, e2, lev_minus hne]
  simp only [List.length_append]
  refine ⟨?_, by omega⟩
  push_cast
  omega
include K Z in
theorem lev_shift : levP subP (w.map (fT x y) ++ [61]) ([61] ++ w.map (fT x y)) 4 = 4 := by
  have e1 : w.map (fT x y) ++ [61] = (w ++ [2]).map (fT x y) := by simp [fT]
  have e2 : [61] ++ w.map (fT x y) = (2 :: w).map (fT x y) := by simp [fT]
  rw [e1, e2, lev_f K (by intro a ha; rcases List.mem_append.mp ha with h | h; exact lt3 Z.two a h; rw [List.mem_singleton.mp h]; decide) (by intro a ha; rcases List.mem_cons.mp ha with rfl | h; decide; exact lt3 Z.two a h)]
  have hJ := fJ
  simp only [Bool.and_eq_true] at hJ
  obtain ⟨⟨⟨⟨⟨a1, a2⟩, a3⟩, b1⟩, b2⟩, b3⟩ := hJ
  rcases price_two x y with e | e
  · rw [e]
    have := of_three (P := factJ 1) Z (by simp only [Bool.and_eq_true]; exact ⟨⟨a1, a2⟩, a3⟩)
    unfold factJ at this
    exact eq_of_beq this
  · rw [e]
    have := of_three (P := factJ 2) Z (by simp only [Bool.and_eq_true]; exact ⟨⟨b1, b2⟩, b3⟩)
    unfold factJ at this
    exact eq_of_beq this
end
end
section
open PySem PySem.W PyProof.Rows
set_option Elab.async false
set_option linter.unusedVariables false
set_option maxRecDepth 100000
set_option maxHeartbeats 4000000
variable {T : TC}


noncomputable def escName : Nat → Str
  | 0 => Str.ofString "_escape_cdata"
  | 1 => Str.ofString "_escape_attrib"
  | 2 => Str.ofString "_escape_attrib_html"
  | 3 => Str.ofString "_escape_cdata_c14n"
  | _ => Str.ofString "_escape_attrib_c14n"
theorem g_e0 {T} (hT : IsT T) : GlobIs T "_escape_cdata" (.fn "_escape_cdata") := GlobIs.fn 8 m8 n8 (by decide +kernel) hT
theorem g_e1 {T} (hT : IsT T) : GlobIs T "_escape_attrib" (.fn "_escape_attrib") := GlobIs.fn 9 m9 n9 (by decide +kernel) hT
theorem g_e2 {T} (hT : IsT T) : GlobIs T "_escape_attrib_html" (.fn "_escape_attrib_html") := GlobIs.fn 10 m10 n10 (by decide +kernel) hT
theorem g_e3 {T} (hT : IsT T) : GlobIs T "_escape_cdata_c14n" (.fn "_escape_cdata_c14n") := GlobIs.fn 11 m11 n11 (by decide +kernel) hT
theorem g_e4 {T} (hT : IsT T) : GlobIs T "_escape_attrib_c14n" (.fn "_escape_attrib_c14n") := GlobIs.fn 12 m12 n12 (by decide +kernel) hT
theorem esc_mem (hT : IsT T) {h : Nat} (hh : h < 5) : ∃ d, d ∈ recsOf T.view ∧ d.name = escName h := by
  rw [hT.view]
  match h, hh with
  | 0, _ => exact ⟨_, m8, n8⟩
  | 1, _ => exact ⟨_, m9, n9⟩
  | 2, _ => exact ⟨_, m10, n10⟩
  | 3, _ => exact ⟨_, m11, n11⟩
  | 4, _ => exact ⟨_, m12, n12⟩
theorem cal_write (hT : IsT T) {dd h : Nat} (hd : 1 ≤ dd) (hh : h < 5) {y : List Nat} (hy : y.length ≤ 1000) : Cal T dd (escName h) [.str y] (.str (escP h y)) := by
  match h, hh with
  | 0, _ => exact esc0 hT hd hy
  | 1, _ => exact esc1 hT hd hy
  | 2, _ => exact esc2 hT hd hy
  | 3, _ => exact esc3 hT hd hy
  | 4, _ => exact esc4 hT hd hy
noncomputable abbrev dots : List Nat := [46, 46, 46]
theorem cal_saysP (hT : IsT T) {dd : Nat} (hd : 8 ≤ dd) {ps : List (List Nat)} {got : List Nat} {due : Bool} (hne : ps ≠ []) (hp : ∀ p ∈ ps, 46 ∉ p) (hL : (joinP dots ps).length ≤ 1048576) (hps : ps.length ≤ 1048576) :
    Cal T dd "_law_says" [.str (joinP dots ps), .str got, .bool due] (.bool (emP ps got == due)) := cal_says hT hd (cal_em hT (by omega) hne hp hL hps)
theorem cal_tellsP (hT : IsT T) {dd : Nat} (hd : 8 ≤ dd) {a b : List Nat} {mx due : Int} (ha : ∀ x ∈ a, x < 128) (hb : ∀ x ∈ b, x < 128) (hal : a.length ≤ 1048576) (hbl : b.length ≤ 1048576) :
    Cal T dd "_law_tells" [.str a, .str b, .int mx, .int due] (.bool (levP subP a b mx == due)) := cal_tells hT hd (cal_lev hT (by omega) ha hb hal hbl)

@[reducible] noncomputable def nLaw : List Str := [Str.ofString "script", Str.ofString "a", Str.ofString "b", Str.ofString "c", Str.ofString "hand", Str.ofString "write", Str.ofString "signs", Str.ofString "x", Str.ofString "y", Str.ofString "price", Str.ofString "size", Str.ofString "word", Str.ofString "head", Str.ofString "foot",
  Str.ofString "spelled", Str.ofString "found", Str.ofString "choice", Str.ofString "part", Str.ofString "words", Str.ofString "wants", Str.ofString "texts", Str.ofString "ways", Str.ofString "i", Str.ofString "total", Str.ofString "j", Str.ofString "gap", Str.ofString "due", Str.ofString "far", Str.ofString "one", Str.ofString "other", Str.ofString "want"]
@[reducible] noncomputable def cLaw : Cx := ⟨8, (dAt 17).scope.names, nLaw,
  [(Str.ofString "_law_says", .fn "_law_says"), (Str.ofString "_law_tells", .fn "_law_tells"), (Str.ofString "len", .raw (.builtin "len")), (Str.ofString "range", .raw (.type "range")), (Str.ofString "sum", .raw (.builtin "sum")), (Str.ofString "sorted", .raw (.builtin "sorted")), (Str.ofString "min", .raw (.builtin "min")),
   (Str.ofString "type", .raw (.type "type")), (Str.ofString "int", .raw (.type "int")), (Str.ofString "_law_orders", .fn "_law_orders"), (Str.ofString "_law_spelling", .fn "_law_spelling"), (Str.ofString "_levenshtein_distance", .fn "_levenshtein_distance"),
   (Str.ofString "_escape_cdata", .fn "_escape_cdata"), (Str.ofString "_escape_attrib", .fn "_escape_attrib"), (Str.ofString "_escape_attrib_html", .fn "_escape_attrib_html"), (Str.ofString "_escape_cdata_c14n", .fn "_escape_cdata_c14n"), (Str.ofString "_escape_attrib_c14n", .fn "_escape_attrib_c14n")]⟩
theorem fLaw (hT : IsT T) : FnCx T (dAt 17) cLaw [Str.ofString "script"] (nLaw.drop 1) :=
  FnCx.of (params := [Str.ofString "script"]) (rest := nLaw.drop 1) hT m17 (by decide +kernel)
    (.cons (g_says hT) (by decide +kernel) (.cons (g_tells hT) (by decide +kernel) (.cons (g_len hT) (by decide +kernel) (.cons (g_range hT) (by decide +kernel) (.cons (g_sum hT) (by decide +kernel) (.cons (g_sorted hT) (by decide +kernel) (.cons (g_min hT) (by decide +kernel)
    (.cons (g_type hT) (by decide +kernel) (.cons (g_int hT) (by decide +kernel) (.cons (g_orders hT) (by decide +kernel) (.cons (g_spell hT) (by decide +kernel) (.cons (g_lev hT) (by decide +kernel)
    (.cons (g_e0 hT) (by decide +kernel) (.cons (g_e1 hT) (by decide +kernel) (.cons (g_e2 hT) (by decide +kernel) (.cons (g_e3 hT) (by decide +kernel) (.cons (g_e4 hT) (by decide +kernel) .nil)))))))))))))))))
    (fun _ _ _ => len1 fun _ => rfl)

-- the names' values behind the texts
@[reducible] noncomputable def spellD (h x y : Nat) : V := .dict [([x], gT h x y 0), ([y], gT h x y 1)]
@[reducible] noncomputable def wordsV (x y : Nat) (W : List (List Nat)) : V := .list (W.map fun u => .str (u.map (fT x y)))
@[reducible] noncomputable def wantsV (h x y hb fb : Nat) (W : List (List Nat)) : V := .list (W.map fun u => .str (joinP dots (partsP h x y hb fb u)))
@[reducible] noncomputable def textsV (h x y hb fb : Nat) (W : List (List Nat)) : V := .list (W.map fun u => .str (txtP h x y hb fb u))
@[reducible] noncomputable def sLaw (h x y hb fb sz : Nat) (w : List Nat) (W : List (List Nat)) (wy i to j gp du fr on ot wt : Slot) : List Slot :=
  [.dead, .dead, .dead, .dead, .val (.int h), .val (.fn (escName h)), .dead, .val (.str [x]), .val (.str [y]), .val (.int (priceT x y)), .val (.int sz), .val (.str (w.map (fT x y))), .val (.str [fT x y hb]), .val (.str [fT x y fb]),
   .val (spellD h x y), .dead, .dead, .dead, .val (wordsV x y W), .val (wantsV h x y hb fb W), .val (textsV h x y hb fb W), wy, i, to, j, gp, du, fr, on, ot, wt]
theorem spell_look {h x y t : Nat} (K : Cfg h x y) (ht : t < 2) : ([([x], gT h x y 0), ([y], gT h x y 1)] : List (List Nat × List Nat)).lookup [fT x y t] = some (gT h x y t) := by
  have : t = 0 ∨ t = 1 := by omega
  rcases this with rfl | rfl
  · show ([([x], gT h x y 0), ([y], gT h x y 1)] : List (List Nat × List Nat)).lookup [x] = _
    rw [List.lookup_cons, beq_self_eq_true]
  · show ([([x], gT h x y 0), ([y], gT h x y 1)] : List (List Nat × List Nat)).lookup [y] = _
    rw [List.lookup_cons, beq_false_of_ne (by intro e; cases e; exact K.ne rfl), List.lookup_cons, beq_self_eq_true]
theorem joinP_snoc (sep : List Nat) : ∀ {ps : List (List Nat)}, ps ≠ [] → joinP sep (ps ++ [[]]) = joinP sep ps ++ sep
  | [], h => absurd rfl h
  | [p], _ => by simp [joinP]
  | p :: q :: r, _ => by
    show p ++ sep ++ joinP sep ((q :: r) ++ [[]]) = p ++ sep ++ joinP sep (q :: r) ++ sep
    rw [joinP_snoc sep (ps := q :: r) (by simp)]; simp
theorem joinP_open {sep : List Nat} {ps : List (List Nat)} (h : ps ≠ []) : joinP sep ([] :: (ps ++ [[]])) = sep ++ joinP sep ps ++ sep := by
  obtain ⟨p, r, rfl⟩ := List.exists_cons_of_ne_nil h
  show [] ++ sep ++ joinP sep ((p :: r) ++ [[]]) = _
  rw [joinP_snoc sep (by simp)]; simp
theorem parts_46 {h x y hb fb : Nat} (K : Cfg h x y) (hhb : hb < 2) (hfb : fb < 2) {u : List Nat} (hu : ∀ a ∈ u, a < 2) : ∀ p ∈ partsP h x y hb fb u, 46 ∉ p := by
  intro p hp
  obtain ⟨a, ha, rfl⟩ := List.mem_map.mp hp
  exact (cod_two K (tok_all hhb hfb hu a ha) (tok_all hhb hfb hu a ha)).2.1
theorem parts_sum {h x y : Nat} (K : Cfg h x y) : ∀ {l : List Nat}, (∀ a ∈ l, a < 2) → sumLen (l.map (gT h x y)) ≤ 6 * l.length
  | [], _ => by simp [sumLen]
  | a :: l, hl => by
    have h1 := gT_len K (hl a (.head _))
    have h2 := parts_sum K (l := l) fun b hb => hl b (.tail _ hb)
    unfold sumLen at h2 ⊢
    rw [List.map_cons, List.map_cons, List.sum_cons, List.length_cons]
    omega
theorem parts_len {h x y hb fb : Nat} (K : Cfg h x y) (hhb : hb < 2) (hfb : fb < 2) {u : List Nat} (hL : u.length ≤ 100) (hu : ∀ a ∈ u, a < 2) : (joinP dots (partsP h x y hb fb u)).length ≤ 1000000 := by
  have h1 := joinP_len dots (partsP h x y hb fb u)
  have h2 := parts_sum K (tok_all hhb hfb hu)
  unfold partsP at h1 ⊢
  simp only [List.length_map, List.length_cons, List.length_append, List.length_nil] at h1 h2
  omega
theorem txt_len {h x y hb fb : Nat} (K : Cfg h x y) (hhb : hb < 2) (hfb : fb < 2) {u : List Nat} (hL : u.length ≤ 100) (hu : ∀ a ∈ u, a < 2) : (txtP h x y hb fb u).length ≤ 1000 := by
  have h2 := flat_le K (tok_all hhb hfb hu)
  unfold txtP
  simp only [List.length_cons, List.length_append, List.length_nil] at h2
  omega
-- the words, sorted
structure Wl (w : List Nat) (W : List (List Nat)) : Prop where
  perm : W.Perm (foundT w)
  sort : W.Pairwise fun a b => a.length ≤ b.length
theorem law5 (hT : IsT T) {h x y hb fb sz : Nat} (K : Cfg h x y) {w : List Nat} {W : List (List Nat)} (Z : Wd w hb fb) (hW0 : W[0]? = some []) (hWl : W[W.length - 1]? = some w) (hWn : W.length ≤ 16) {wy i to j gp du fr : Slot} :
    Ex T cLaw (sLaw h x y hb fb sz w W wy i to j gp du fr .dead .dead .dead) ((dAt 17).body.drop 23) (.ret (.bool true)) := by
  have hgs : ∃ d, d ∈ recsOf T.view ∧ d.name = Str.ofString "_law_says" := ⟨dAt 14, by rw [hT.view]; exact m14, n14⟩
  have hgt : ∃ d, d ∈ recsOf T.view ∧ d.name = Str.ofString "_law_tells" := ⟨dAt 15, by rw [hT.view]; exact m15, n15⟩
  have hpos : 0 < W.length := by
    rcases Nat.eq_zero_or_pos W.length with h0 | h0
    · rw [List.eq_nil_of_length_eq_zero h0] at hW0; cases hW0
    · exact h0
  have hlast : (W.map fun u => V.str (txtP h x y hb fb u))[((-1 : Int) + ((W.map fun u => V.str (txtP h x y hb fb u)).length : Nat)).toNat]? = some (.str (txtP h x y hb fb w)) := by
    have e : ((-1 : Int) + ((W.map fun u => V.str (txtP h x y hb fb u)).length : Nat)).toNat = W.length - 1 := by rw [List.length_map]; omega
    rw [e, List.getElem?_map, hWl]; rfl
  refine Ex.forAll (L := fun _ => sLaw h x y hb fb sz w W wy i to j gp du fr .dead .dead .dead) (qs := [.str [x], .str [y]]) ?it (Weak.refl _) ?body ?rest
  case it => exact It.list (Ev.list (EvL.cons (Ev.name (by walk_at "at")) (EvL.cons (Ev.name (by walk_at "at")) EvL.nil)))
  case body =>
    intro k q hq
    obtain ⟨o, ho, rfl⟩ : ∃ o, o < 2 ∧ q = .str [fT x y o] := by
      match k, hq with
      | 0, hq => exact ⟨0, by decide, (Option.some.inj hq).symm⟩
      | 1, hq => exact ⟨1, by decide, (Option.some.inj hq).symm⟩
      | k + 2, hq => cases hq
    refine ⟨sLaw h x y hb fb sz w W wy i to j gp du fr (.val (.str [fT x y o])) .dead .dead, by walk_at "at", ?_⟩
    refine Ex.forAll (L := fun _ => sLaw h x y hb fb sz w W wy i to j gp du fr (.val (.str [fT x y o])) .dead .dead) (qs := [.str [x], .str [y]]) ?it2 (Weak.refl _) ?body2 ?rest2
    case it2 => exact It.list (Ev.list (EvL.cons (Ev.name (by walk_at "at")) (EvL.cons (Ev.name (by walk_at "at")) EvL.nil)))
    case rest2 => exact Ex.weakout Ex.nil (by walk_at "wk")
    case body2 =>
      intro k q hq
      obtain ⟨t, ht, rfl⟩ : ∃ o, o < 2 ∧ q = .str [fT x y o] := by
        match k, hq with
        | 0, hq => exact ⟨0, by decide, (Option.some.inj hq).symm⟩
        | 1, hq => exact ⟨1, by decide, (Option.some.inj hq).symm⟩
        | k + 2, hq => cases hq
      refine ⟨sLaw h x y hb fb sz w W wy i to j gp du fr (.val (.str [fT x y o])) (.val (.str [fT x y t])) .dead, by walk_at "at", ?_⟩
      have hlo := gT_len K ho
      have hlt := gT_len K ht
      refine Ex.cons (Ex1.assign (p := .str (joinP dots [gT h x y o, gT h x y t])) ?e (by walk_at "at")) ?_
      case e =>
        refine Ev.bin (Ev.bin (Ev.sub (Ev.name (by walk_at "at")) (Ev.name (by walk_at "at")) (Sb.dict (spell_look K ho))) (Ev.str (l := dots) (by decide +kernel) (by decide)) (Op2.cat (by simp; omega))) (Ev.sub (Ev.name (by walk_at "at")) (Ev.name (by walk_at "at")) (Sb.dict (spell_look K ht))) (Op2.cat (by simp; omega))
      have h46 : ∀ p ∈ [gT h x y o, gT h x y t], 46 ∉ p := by
        intro p hp
        rcases List.mem_cons.mp hp with rfl | hp
        · exact (cod_two K ho ho).2.1
        · rw [List.mem_singleton.mp hp]; exact (cod_two K ht ht).2.1
      have hjl : (joinP dots [gT h x y o, gT h x y t]).length ≤ 1048576 := by simp [joinP]; omega
      obtain ⟨m1', m2'⟩ := em_two K Z ho ht
      have b1 : ([fT x y o] == [fT x y hb]) = (o == hb) := by
        rw [Bool.eq_iff_iff, beq_iff_eq, beq_iff_eq]
        exact ⟨fun e => fT_inj K (by omega) (by have := Z.hb; omega) (List.cons.inj e).1, fun e => by rw [e]⟩
      have b2 : ([fT x y t] == [fT x y fb]) = (t == fb) := by
        rw [Bool.eq_iff_iff, beq_iff_eq, beq_iff_eq]
        exact ⟨fun e => fT_inj K (by omega) (by have := Z.fb; omega) (List.cons.inj e).1, fun e => by rw [e]⟩
      refine Ex.cons (Ex1.skip ?z0A) (Ex.weakout Ex.nil (by walk_at "wk"))
      refine Tr.cast (Tr.boolop (TrL.or_cons (a := false) ?z1A (fun _ => TrL.or_cons (a := false) ?z2A (fun _ => TrL.or_nil)))) rfl
      case z1A =>
        refine Tr.cast (Tr.not (Tr.val (Ev.call (Ev.glob (by walk_at "at")) hgs (EvL.cons (Ev.name (by walk_at "at")) (EvL.cons (Ev.sub (Ev.name (by walk_at "at")) (by walk_at "ev") (Sbo.of (Sbo.neg (by decide) (by simp; omega) hlast))) (EvL.cons ?arg EvL.nil)))
          (cal_saysP (due := (o == hb && t == fb)) hT (Nat.le_refl 8) (by simp) h46 hjl (by simp)) ?y1A ?y2A) Tv.bool)) ?_
        case arg => exact Ev.cast (Ev.and2 (p := .bool (o == hb)) (b := (o == hb)) (q := .bool (t == fb)) (Ev.cast (Ev.cmp (Ev.name (by walk_at "at")) (Ev.name (by walk_at "at")) Cm2.eqs) (by rw [b1])) Tv.bool (fun _ => Ev.cast (Ev.cmp (Ev.name (by walk_at "at")) (Ev.name (by walk_at "at")) Cm2.eqs) (by rw [b2]))) (show _ = V.bool (o == hb && t == fb) by cases (o == hb) <;> rfl)
        case y1A => intro _; rfl
        case y2A => intro e; cases e
        rw [m1', beq_self_eq_true]; rfl
      case z2A =>
        refine Tr.cast (Tr.not (Tr.val (Ev.call (Ev.glob (by walk_at "at")) hgs (EvL.cons (Ev.name (by walk_at "at")) (EvL.cons (Ev.sub (Ev.name (by walk_at "at")) (Ev.name (by walk_at "at")) (Sb.dict (spell_look K Z.hb))) (EvL.cons Ev.bool EvL.nil)))
          (cal_saysP hT (Nat.le_refl 8) (by simp) h46 hjl (by simp)) ?y1B ?y2B) Tv.bool)) ?_
        case y1B => intro _; rfl
        case y2B => intro e; cases e
        rw [m2']; rfl
  case rest =>
    have two0 : ∀ a ∈ ([] : List Nat), a < 2 := by intro a ha; cases ha
    have hw0 : (W.map fun u => V.str (joinP dots (partsP h x y hb fb u)))[((0 : Int)).toNat]? = some (.str (joinP dots (partsP h x y hb fb []))) := by
      show (W.map fun u => V.str (joinP dots (partsP h x y hb fb u)))[0]? = _
      rw [List.getElem?_map, hW0]; rfl
    have ht0 : (W.map fun u => V.str (txtP h x y hb fb u))[((0 : Int)).toNat]? = some (.str (txtP h x y hb fb [])) := by
      show (W.map fun u => V.str (txtP h x y hb fb u))[0]? = _
      rw [List.getElem?_map, hW0]; rfl
    have hwl : (W.map fun u => V.str (joinP dots (partsP h x y hb fb u)))[((-1 : Int) + ((W.map fun u => V.str (joinP dots (partsP h x y hb fb u))).length : Nat)).toNat]? = some (.str (joinP dots (partsP h x y hb fb w))) := by
      have e : ((-1 : Int) + ((W.map fun u => V.str (joinP dots (partsP h x y hb fb u))).length : Nat)).toNat = W.length - 1 := by rw [List.length_map]; omega
      rw [e, List.getElem?_map, hWl]; rfl
    have hb2 := Z.hb
    have hf2 := Z.fb
    refine Ex.cons (Ex1.skip ?z0C0) ?zrC0
    case z0C0 =>
      refine Tr.cast (Tr.boolop (TrL.or_cons (a := false) ?z1C0 (fun _ => TrL.or_cons (a := false) ?z2C0 (fun _ => TrL.or_nil)))) rfl
      case z1C0 =>
        refine Tr.cast (Tr.not (Tr.val (Ev.call (Ev.glob (by walk_at "at")) hgs (EvL.cons (Ev.sub (Ev.name (by walk_at "at")) (by walk_at "ev") (Sbo.of (Sbo.at (by decide) hw0))) (EvL.cons (Ev.sub (Ev.name (by walk_at "at")) (by walk_at "ev") (Sbo.of (Sbo.at (by decide) ht0))) (EvL.cons Ev.bool EvL.nil)))
          (cal_saysP hT (Nat.le_refl 8) (by simp [partsP]) (parts_46 K Z.hb Z.fb two0) (Nat.le_trans (parts_len K Z.hb Z.fb (by simp) two0) (by decide)) (by simp [partsP])) ?y1C0 ?y2C0) Tv.bool)) ?_
        case y1C0 => intro _; rfl
        case y2C0 => intro e; cases e
        rw [em_words K Z.hb Z.fb two0 two0]; rfl
      case z2C0 =>
        refine Tr.cast (Tr.not (Tr.val (Ev.call (Ev.glob (by walk_at "at")) hgs (EvL.cons (Ev.sub (Ev.name (by walk_at "at")) (by walk_at "ev") (Sbo.of (Sbo.at (by decide) ht0))) (EvL.cons (Ev.sub (Ev.name (by walk_at "at")) (by walk_at "ev") (Sbo.of (Sbo.at (by decide) ht0))) (EvL.cons Ev.bool EvL.nil)))
          (cal_saysP (ps := [txtP h x y hb fb []]) hT (Nat.le_refl 8) (by simp) ?y3D0 ?y4D0 (by simp)) ?y1D0 ?y2D0) Tv.bool)) ?_
        case y1D0 => intro _; rfl
        case y2D0 => intro e; cases e
        case y3D0 => intro p hp; rw [List.mem_singleton.mp hp]; exact flat_46 K (tok_all Z.hb Z.fb two0)
        case y4D0 => have := txt_len K (u := []) Z.hb Z.fb (by simp) two0; exact Nat.le_trans this (by decide)
        rw [em_first, beq_self_eq_true]; rfl
    refine Ex.cons (Ex1.skip ?z0C1) ?zrC1
    case z0C1 =>
      refine Tr.cast (Tr.boolop (TrL.or_cons (a := false) ?z1C1 (fun _ => TrL.or_cons (a := false) ?z2C1 (fun _ => TrL.or_nil)))) rfl
      case z1C1 =>
        refine Tr.cast (Tr.not (Tr.val (Ev.call (Ev.glob (by walk_at "at")) hgs (EvL.cons (Ev.str (l := dots) (by decide +kernel) (by decide)) (EvL.cons (Ev.sub (Ev.name (by walk_at "at")) (by walk_at "ev") (Sbo.of (Sbo.neg (by decide) (by simp; omega) hlast))) (EvL.cons Ev.bool EvL.nil)))
          (cal_saysP (ps := [[], []]) hT (Nat.le_refl 8) (by simp) (by simp) (by simp [joinP]) (by simp)) ?y1C1 ?y2C1) Tv.bool)) ?_
        case y1C1 => intro _; rfl
        case y2C1 => intro e; cases e
        rw [(em_open K Z).1]; rfl
      case z2C1 =>
        have hl := parts_len K (u := w) Z.hb Z.fb (by have := Z.hi; omega) Z.two
        have hj : joinP dots ([] :: (partsP h x y hb fb w ++ [[]])) = dots ++ joinP dots (partsP h x y hb fb w) ++ dots := joinP_open (by simp [partsP])
        refine Tr.cast (Tr.not (Tr.val (Ev.call (Ev.glob (by walk_at "at")) hgs (EvL.cons (Ev.cast (Ev.bin (Ev.bin (Ev.str (l := dots) (by decide +kernel) (by decide)) (Ev.sub (Ev.name (by walk_at "at")) (by walk_at "ev") (Sbo.of (Sbo.neg (by decide) (by simp; omega) hwl))) (Op2.cat ?y5D1)) (Ev.str (l := dots) (by decide +kernel) (by decide)) (Op2.cat ?y6D1)) (congrArg V.str hj.symm))
          (EvL.cons (Ev.sub (Ev.name (by walk_at "at")) (by walk_at "ev") (Sbo.of (Sbo.neg (by decide) (by simp; omega) hlast))) (EvL.cons Ev.bool EvL.nil)))
          (cal_saysP hT (Nat.le_refl 8) (by simp) ?y3D1 ?y4D1 (by simp [partsP]; have := Z.hi; omega)) ?y1D1 ?y2D1) Tv.bool)) ?_
        case y1D1 => intro _; rfl
        case y2D1 => intro e; cases e
        case y3D1 =>
          intro p hp
          rcases List.mem_cons.mp hp with rfl | hp
          · simp
          · rcases List.mem_append.mp hp with hp | hp
            · exact parts_46 K Z.hb Z.fb Z.two p hp
            · rw [List.mem_singleton.mp hp]; simp
        case y4D1 => rw [hj]; simp; omega
        case y5D1 => simp; omega
        case y6D1 => simp; omega
        rw [(em_open K Z).2]; rfl
    have g0l := gT_len K (t := 0) (by decide)
    have l0 : ([([x], gT h x y 0), ([y], gT h x y 1)] : List (List Nat × List Nat)).lookup [x] = some (gT h x y 0) := spell_look (t := 0) K (by decide)
    have m2 : mulP (gT h x y 0) ((2 : Int).toNat) = gT h x y 0 ++ gT h x y 0 := by show (List.replicate 2 _).flatten = _; simp
    refine Ex.cons (Ex1.assign (p := .str (joinP dots [gT h x y 0, gT h x y 0 ++ gT h x y 0, gT h x y 0 ++ gT h x y 0, gT h x y 0])) ?q1 (by walk_at "at")) ?q2
    case q1 =>
      refine Ev.meth (ps := [.list ([gT h x y 0, gT h x y 0 ++ gT h x y 0, gT h x y 0 ++ gT h x y 0, gT h x y 0].map .str)]) (Ev.str (l := dots) (by decide +kernel) (by decide)) (EvL.cons ?q3 EvL.nil) (Mth.join ?q4) ?q5 ?q6 ?q7 ?q8 ?q9
      case q5 => intro _; rfl
      case q6 => intro _; rfl
      case q7 => intro _; rfl
      case q8 => rfl
      case q9 => intro e; cases e
      case q4 => simp [sumLen]; omega
      case q3 =>
        refine Ev.list (EvL.cons ?r1 (EvL.cons ?r2 (EvL.cons ?r3 (EvL.cons ?r4 EvL.nil))))
        case r1 => exact Ev.sub (Ev.name (by walk_at "at")) (Ev.name (by walk_at "at")) (Sb.dict l0)
        case r2 => exact Ev.cast (Ev.bin (Ev.sub (Ev.name (by walk_at "at")) (Ev.name (by walk_at "at")) (Sb.dict l0)) Ev.int (Op2.mulstr (by decide) (by decide) (by omega))) (congrArg V.str m2)
        case r3 => exact Ev.cast (Ev.bin (Ev.sub (Ev.name (by walk_at "at")) (Ev.name (by walk_at "at")) (Sb.dict l0)) Ev.int (Op2.mulstr (by decide) (by decide) (by omega))) (congrArg V.str m2)
        case r4 => exact Ev.sub (Ev.name (by walk_at "at")) (Ev.name (by walk_at "at")) (Sb.dict l0)
    case q2 =>
    have h46 : ∀ p ∈ [gT h x y 0, gT h x y 0 ++ gT h x y 0, gT h x y 0 ++ gT h x y 0, gT h x y 0], 46 ∉ p := by
      have := (cod_two K (a := 0) (b := 0) (by decide) (by decide)).2.1
      intro p hp
      simp only [List.mem_cons, List.not_mem_nil, or_false] at hp
      rcases hp with rfl | rfl | rfl | rfl <;> simp [this]
    have hjl : (joinP dots [gT h x y 0, gT h x y 0 ++ gT h x y 0, gT h x y 0 ++ gT h x y 0, gT h x y 0]).length ≤ 1048576 := by simp [joinP]; omega
    obtain ⟨s5, s6⟩ := em_six K
    have w5 : escP h (mulP [x] ((5 : Int).toNat)) = ([0, 0, 0, 0, 0] : List Nat).flatMap (gT h x y) := by rw [← esc_flat]; rfl
    have w6 : escP h (mulP [x] ((6 : Int).toNat)) = ([0, 0, 0, 0, 0, 0] : List Nat).flatMap (gT h x y) := by rw [← esc_flat]; rfl
    refine Ex.cons (Ex1.skip ?q10) ?q11
    case q10 =>
      refine Tr.cast (Tr.boolop (TrL.or_cons (a := false) ?q12 (fun _ => TrL.or_cons (a := false) ?q13 (fun _ => TrL.or_nil)))) rfl
      case q12 =>
        refine Tr.cast (Tr.not (Tr.val (Ev.call (Ev.glob (by walk_at "at")) hgs (EvL.cons (Ev.name (by walk_at "at")) (EvL.cons (Ev.cast (Ev.call (Ev.name (by walk_at "at")) (esc_mem hT K.hh) (EvL.cons (Ev.bin (Ev.name (by walk_at "at")) Ev.int (Op2.mulstr (by decide) (by decide) (by simp))) EvL.nil) (cal_write hT (by decide) K.hh (by show (List.replicate 5 [x]).flatten.length ≤ 1000; simp))) (congrArg V.str w5)) (EvL.cons Ev.bool EvL.nil)))
          (cal_saysP hT (Nat.le_refl 8) (by simp) h46 hjl (by simp)) ?q14 ?q15) Tv.bool)) ?_
        case q14 => intro _; rfl
        case q15 => intro e; cases e
        rw [s5]; rfl
      case q13 =>
        refine Tr.cast (Tr.not (Tr.val (Ev.call (Ev.glob (by walk_at "at")) hgs (EvL.cons (Ev.name (by walk_at "at")) (EvL.cons (Ev.cast (Ev.call (Ev.name (by walk_at "at")) (esc_mem hT K.hh) (EvL.cons (Ev.bin (Ev.name (by walk_at "at")) Ev.int (Op2.mulstr (by decide) (by decide) (by simp))) EvL.nil) (cal_write hT (by decide) K.hh (by show (List.replicate 6 [x]).flatten.length ≤ 1000; simp))) (congrArg V.str w6)) (EvL.cons Ev.bool EvL.nil)))
          (cal_saysP hT (Nat.le_refl 8) (by simp) h46 hjl (by simp)) ?q16 ?q17) Tv.bool)) ?_
        case q16 => intro _; rfl
        case q17 => intro e; cases e
        rw [s6]; rfl
    case q11 =>
    have hfa : ∀ c ∈ w.map (fT x y), c < 128 := by
      intro c hc
      obtain ⟨a, ha, rfl⟩ := List.mem_map.mp hc
      exact (sub_of K (i := a) (j := a) (by have := Z.two a ha; omega) (by have := Z.two a ha; omega)).2.2
    have hwle := Z.hi
    refine Ex.ret ?_
    refine Ex1.return_ ?_
    refine Ev.cast (Ev.call (Ev.glob (by walk_at "at")) hgt (EvL.cons (Ev.bin (Ev.name (by walk_at "at")) (Ev.str (l := [61]) (by decide +kernel) (by decide)) (Op2.cat ?q18)) (EvL.cons (Ev.bin (Ev.str (l := [61]) (by decide +kernel) (by decide)) (Ev.name (by walk_at "at")) (Op2.cat ?q19)) (EvL.cons Ev.int (EvL.cons Ev.int EvL.nil))))
      (cal_tellsP hT (Nat.le_refl 8) ?q20 ?q21 ?q22 ?q23) ?q24 ?q25) ?q26
    case q18 => simp; omega
    case q19 => simp; omega
    case q20 => intro c hc; rcases List.mem_append.mp hc with hc | hc; exact hfa c hc; rw [List.mem_singleton.mp hc]; decide
    case q21 => intro c hc; rcases List.mem_append.mp hc with hc | hc; rw [List.mem_singleton.mp hc]; decide; exact hfa c hc
    case q22 => simp; omega
    case q23 => simp; omega
    case q24 => intro _; rfl
    case q25 => intro e; cases e
    case q26 => rw [lev_shift K Z, beq_self_eq_true]
end
section
open PySem PySem.W PyProof.Rows
set_option Elab.async false
set_option linter.unusedVariables false
set_option maxRecDepth 100000
set_option maxHeartbeats 4000000
variable {T : TC}


structure Pair (u v : List Nat) : Prop where
  hu : ∀ a ∈ u, a < 2
  hv : ∀ a ∈ v, a < 2
  lu : u.length ≤ 4
  le : v.length ≤ u.length
  ne : u ≠ v
  same : u.length = v.length → u.length ≤ 3
theorem pairA {u v : List Nat} (Q : Pair u v) (x y : Nat) (e : u.length = v.length) : levP (subT (priceT x y)) u v (dueT (priceT x y) u v) = dueT (priceT x y) u v ∧ subB u v = false ∧ subB v u = false := by
  have h0 : 0 < u.length := by
    rcases Nat.eq_zero_or_pos u.length with h | h
    · have h1 := List.eq_nil_of_length_eq_zero h
      have h2 := List.eq_nil_of_length_eq_zero (e.symm.trans h)
      exact absurd (h1.trans h2.symm) Q.ne
    · exact h
  have hl := Q.same e
  have key : ∀ p : Int, (p = 1 ∨ p = 2) → ∀ n, (n = 1 ∨ n = 2 ∨ n = 3) → factA p n = true := by
    have hA := fA
    simp only [Bool.and_eq_true] at hA
    obtain ⟨⟨⟨⟨⟨a1, a2⟩, a3⟩, b1⟩, b2⟩, b3⟩ := hA
    rintro p (rfl | rfl) n (rfl | rfl | rfl)
    · exact a1
    · exact a2
    · exact a3
    · exact b1
    · exact b2
    · exact b3
  have hf := key (priceT x y) (price_two x y) u.length (by omega)
  have mu := wordsN_mem Q.hu
  have mv := wordsN_mem Q.hv
  rw [← e] at mv
  unfold factA at hf
  have one := List.all_eq_true.mp (List.all_eq_true.mp hf u mu) v mv
  have two := List.all_eq_true.mp (List.all_eq_true.mp hf v mv) u mu
  rw [Bool.or_eq_true, beq_iff_eq, Bool.and_eq_true, beq_iff_eq, Bool.not_eq_true'] at one two
  exact ⟨(one.resolve_left Q.ne).1, (one.resolve_left Q.ne).2, (two.resolve_left (Ne.symm Q.ne)).2⟩
theorem pairB {u v : List Nat} (Q : Pair u v) (x y : Nat) (e : v.length < u.length) : (levP (subT (priceT x y)) u v (2 * ((u.length : Int) - v.length)) == 2 * ((u.length : Int) - v.length)) = subB v u := by
  have key : ∀ p : Int, (p = 1 ∨ p = 2) → ∀ n, (n = 1 ∨ n = 2 ∨ n = 3 ∨ n = 4) → factB p n = true := by
    have hA := fB
    simp only [Bool.and_eq_true] at hA
    obtain ⟨⟨⟨⟨⟨⟨⟨a1, a2⟩, a3⟩, a4⟩, b1⟩, b2⟩, b3⟩, b4⟩ := hA
    rintro p (rfl | rfl) n (rfl | rfl | rfl | rfl)
    · exact a1
    · exact a2
    · exact a3
    · exact a4
    · exact b1
    · exact b2
    · exact b3
    · exact b4
  have := Q.lu
  have hf := key (priceT x y) (price_two x y) u.length (by omega)
  unfold factB at hf
  have one := List.all_eq_true.mp (List.all_eq_true.mp (List.all_eq_true.mp hf u (wordsN_mem Q.hu)) v.length (List.mem_range.mpr e)) v (wordsN_mem Q.hv)
  exact eq_of_beq one
theorem drop_last (x : List Nat) (h : 0 < x.length) : x.take ((-1 : Int) + x.length).toNat = x.dropLast := by
  rw [List.dropLast_eq_take]; congr 1; omega
noncomputable def totS (u v : List Nat) : Int := if v.length + 1 == u.length && subB v u then ordP 0 v else 0
theorem law4j (hT : IsT T) {h x y hb fb sz : Nat} (K : Cfg h x y) {w : List Nat} {W : List (List Nat)} (Z : Wd w hb fb) {i j : Nat} {u v : List Nat} (hi : W[i]? = some u) (hj : W[j]? = some v) (Q : Pair u v) (hji : j < i) (hiW : i ≤ 16)
    {ways : List Int} (hw : ways[j]? = some (ordP 0 v)) {tot : Int} :
    Ex T cLaw (sLaw h x y hb fb sz w W (.own (ways.map .int)) (.val (.int i)) (.val (.int tot)) (.val (.int j)) .dead .dead .dead .dead .dead .dead) (forAll (forBody ((dAt 17).body.getD 22 default) 1))
      (.next (sLaw h x y hb fb sz w W (.own (ways.map .int)) (.val (.int i)) (.val (.int (tot + totS u v))) (.val (.int j)) .dead .dead .dead .dead .dead .dead)) := by
  have hgs : ∃ d, d ∈ recsOf T.view ∧ d.name = Str.ofString "_law_says" := ⟨dAt 14, by rw [hT.view]; exact m14, n14⟩
  have hgt : ∃ d, d ∈ recsOf T.view ∧ d.name = Str.ofString "_law_tells" := ⟨dAt 15, by rw [hT.view]; exact m15, n15⟩
  have hgl : ∃ d, d ∈ recsOf T.view ∧ d.name = Str.ofString "_levenshtein_distance" := ⟨dAt 6, by rw [hT.view]; exact m6, n6⟩
  have gw : ∀ {k : Nat} {z : List Nat}, W[k]? = some z → (W.map fun u => V.str (u.map (fT x y)))[((k : Nat) : Int).toNat]? = some (.str (z.map (fT x y))) := by
    intro k z hk; rw [Int.toNat_natCast, List.getElem?_map, hk]; rfl
  have gn : ∀ {k : Nat} {z : List Nat}, W[k]? = some z → (W.map fun u => V.str (joinP dots (partsP h x y hb fb u)))[((k : Nat) : Int).toNat]? = some (.str (joinP dots (partsP h x y hb fb z))) := by
    intro k z hk; rw [Int.toNat_natCast, List.getElem?_map, hk]; rfl
  have gx : ∀ {k : Nat} {z : List Nat}, W[k]? = some z → (W.map fun u => V.str (txtP h x y hb fb u))[((k : Nat) : Int).toNat]? = some (.str (txtP h x y hb fb z)) := by
    intro k z hk; rw [Int.toNat_natCast, List.getElem?_map, hk]; rfl
  have hlu := Q.lu
  have hle := Q.le
  have lenp : ∀ {z : List Nat}, (∀ a ∈ z, a < 2) → z.length ≤ 4 → (joinP dots (partsP h x y hb fb z)).length ≤ 1048576 := fun hz hl => Nat.le_trans (parts_len K Z.hb Z.fb (by omega) hz) (by decide)
  have asc : ∀ {z : List Nat}, (∀ a ∈ z, a < 2) → ∀ c ∈ z.map (fT x y), c < 128 := by
    intro z hz c hc
    obtain ⟨a, ha, rfl⟩ := List.mem_map.mp hc
    exact (sub_of K (i := a) (j := a) (by have := hz a ha; omega) (by have := hz a ha; omega)).2.2
  have pne : ∀ {z : List Nat}, partsP h x y hb fb z ≠ [] := by intro z; simp [partsP]
  have pln : ∀ {z : List Nat}, z.length ≤ 4 → (partsP h x y hb fb z).length ≤ 1048576 := by intro z hz; simp [partsP]; omega
  refine Ex.cons (σ1 := sLaw h x y hb fb sz w W (.own (ways.map .int)) (.val (.int i)) (.val (.int tot)) (.val (.int j)) (.val (.int ((u.length : Int) - v.length))) .dead .dead .dead .dead .dead) (Ex1.assign ?q1 (by walk_at "at")) ?q2
  case q1 =>
    refine Ev.bin (Ev.cast (Ev.callb (Ev.glob (by walk_at "at")) (EvL.cons (Ev.sub (Ev.name (by walk_at "at")) (Ev.name (by walk_at "at")) (Sbo.of (Sbo.at (Int.natCast_nonneg _) (gw hi)))) EvL.nil) Bcl.lens) ?q3) (Ev.cast (Ev.callb (Ev.glob (by walk_at "at")) (EvL.cons (Ev.sub (Ev.name (by walk_at "at")) (Ev.name (by walk_at "at")) (Sbo.of (Sbo.at (Int.natCast_nonneg _) (gw hj)))) EvL.nil) Bcl.lens) ?q4) Op2.sub
    case q3 => rw [List.length_map]
    case q4 => rw [List.length_map]
  case q2 =>
  by_cases he : u.length = v.length
  · have ht : totS u v = 0 := by
      unfold totS
      rw [if_neg]
      simp only [Bool.and_eq_true, beq_iff_eq]
      omega
    rw [ht, Int.add_zero]
    obtain ⟨pa, pb, pc⟩ := pairA Q x y he
    have h0 : 0 < u.length := by
      rcases Nat.eq_zero_or_pos u.length with h | h
      · have h1 := List.eq_nil_of_length_eq_zero h
        have h2 := List.eq_nil_of_length_eq_zero (he.symm.trans h)
        exact absurd (h1.trans h2.symm) Q.ne
      · exact h
    refine Ex.cons (σ1 := sLaw h x y hb fb sz w W (.own (ways.map .int)) (.val (.int i)) (.val (.int tot)) (.val (.int j)) .dead .dead .dead .dead .dead .dead) (Ex1.weak (Ex1.if_ (b := true)
      (o := .next (sLaw h x y hb fb sz w W (.own (ways.map .int)) (.val (.int i)) (.val (.int tot)) (.val (.int j)) (.val (.int ((u.length : Int) - v.length))) (.val (.int (dueT (priceT x y) u v))) .dead .dead .dead .dead)) ?a1 (fun _ => ?a2) (fun e => nomatch e)) (by walk_at "wk")) Ex.nil
    case a1 => exact Tr.cast (by walk_at "tr") (by simp; omega)
    case a2 =>
      refine Ex.cons (σ1 := sLaw h x y hb fb sz w W (.own (ways.map .int)) (.val (.int i)) (.val (.int tot)) (.val (.int j)) (.val (.int ((u.length : Int) - v.length))) (.val (.int (priceT x y * hamT u v))) .dead .dead .dead .dead) (Ex1.assign ?c1 (by walk_at "at")) ?c2
      case c1 =>
        have hham : hamT u v ≤ u.length := by unfold hamT; exact Nat.le_trans (List.length_filter_le _ _) (by simp)
        refine Ev.bin (pb := .int (hamT u v)) (Ev.name (by walk_at "at")) ?c3 (Op2.mulr (by omega))
        case c3 =>
        refine Ev.cast (Ev.callo (Ev.glob (by walk_at "at")) (EvO.of (Ev.compF (caps := [Str.ofString "words", Str.ofString "i", Str.ofString "j"]) (cs := [.val (wordsV x y W), .val (.int i), .val (.int j)]) (G' := [])
          (xs := List.range u.length) (w := fun k => .int (k : Nat)) (f := fun k => .int (k : Nat)) (t := fun k => u.getD k 0 != v.getD k 0) ?d1 ?d2 ?d3 ?d4 ?d5 ?d6 ?d7)) Bco.len) ?c4
        case c4 => rw [List.length_map]; rfl
        case d1 =>
          refine It.range1 (n := u.length) (Ev.glob (by walk_at "at")) (Ev.cast (Ev.callb (Ev.glob (by walk_at "at")) (EvL.cons (Ev.sub (Ev.name (by walk_at "at")) (Ev.name (by walk_at "at")) (Sbo.of (Sbo.at (Int.natCast_nonneg _) (gw hi)))) EvL.nil) Bcl.lens) ?d8) (by omega)
          rw [List.length_map]
        case d2 => decide +kernel
        case d3 => exact CapL.val (by walk_at "at") (CapL.val (by walk_at "at") (CapL.val (by walk_at "at") .nil))
        case d4 => exact .skip (.skip (.skip (.skip (.skip (.skip (.skip (.skip (.skip (.skip (.skip (.skip (.skip (.skip (.skip (.skip (.skip .nil))))))))))))))))
        case d5 =>
          intro k hk
          have hku := List.mem_range.mp hk
          have hkv : k < v.length := by omega
          have e1 : (u.map (fT x y))[((k : Nat) : Int).toNat]? = some (fT x y (u.getD k 0)) := by rw [Int.toNat_natCast, List.getElem?_map, getD_at hku]; rfl
          have e2 : (v.map (fT x y))[((k : Nat) : Int).toNat]? = some (fT x y (v.getD k 0)) := by rw [Int.toNat_natCast, List.getElem?_map, getD_at hkv]; rfl
          refine TrIf.one (Tr.cast (Tr.cmp (Ev.weak (Ev.sub (Ev.sub (Ev.name (by walk_at "at")) (Ev.name (by walk_at "at")) (Sbo.of (Sbo.at (Int.natCast_nonneg _) (gw hi)))) (Ev.name (by walk_at "at")) (Sb.str (Int.natCast_nonneg _) ?d9 e1)))
            (Ev.weak (Ev.sub (Ev.sub (Ev.name (by walk_at "at")) (Ev.name (by walk_at "at")) (Sbo.of (Sbo.at (Int.natCast_nonneg _) (gw hj)))) (Ev.name (by walk_at "at")) (Sb.str (Int.natCast_nonneg _) ?d10 e2))) Cm2.nes) ?d11)
          case d9 => rw [List.length_map]; omega
          case d10 => rw [List.length_map]; omega
          case d11 =>
            have m1 := Q.hu _ (getD_mem hku)
            have m2 := Q.hv _ (getD_mem hkv)
            rw [Bool.eq_iff_iff, bne_iff_ne, bne_iff_ne]
            exact ⟨fun hn e => hn (by rw [e]), fun hn e => hn (fT_inj K (by omega) (by omega) (List.cons.inj e).1)⟩
        case d6 => intro k hk _; exact Ev.name (by walk_at "at")
        case d7 => simp; omega
      case c2 =>
      have s1 : sliceP (u.map (fT x y)) (some 1) none = (u.drop 1).map (fT x y) := by rw [sliceP_from (by decide) (by simp; omega), List.map_drop]; rfl
      have s2 : sliceP (v.map (fT x y)) (some 1) none = (v.drop 1).map (fT x y) := by rw [sliceP_from (by decide) (by simp; omega), List.map_drop]; rfl
      have s3 : sliceP (u.map (fT x y)) none (some (-1)) = u.dropLast.map (fT x y) := by rw [sliceP_to_neg (by decide) (by simp; omega), drop_last _ (by simp; omega), List.map_dropLast]
      have s4 : sliceP (v.map (fT x y)) none (some (-1)) = v.dropLast.map (fT x y) := by rw [sliceP_to_neg (by decide) (by simp; omega), drop_last _ (by simp; omega), List.map_dropLast]
      have cut : ∀ {a b : List Nat}, (∀ z ∈ a, z < 2) → (∀ z ∈ b, z < 2) → (a.map (fT x y) == b.map (fT x y)) = decide (a = b) := by
        intro a b ha hb'
        rw [Bool.eq_iff_iff, beq_iff_eq, decide_eq_true_iff]
        exact ⟨map_inj_on (D := (· < 2)) (fun i j hi hj => fT_inj K (Nat.lt_trans hi (by decide)) (Nat.lt_trans hj (by decide))) ha hb', fun e => by rw [e]⟩
      have k1 : ((u.drop 1).map (fT x y) == v.dropLast.map (fT x y)) = decide (u.drop 1 = v.dropLast) := cut (fun z hz => Q.hu z (List.mem_of_mem_drop hz)) (fun z hz => Q.hv z (List.dropLast_subset _ hz))
      have k2 : ((v.drop 1).map (fT x y) == u.dropLast.map (fT x y)) = decide (v.drop 1 = u.dropLast) := cut (fun z hz => Q.hv z (List.mem_of_mem_drop hz)) (fun z hz => Q.hu z (List.dropLast_subset _ hz))
      refine Ex.cons (σ1 := sLaw h x y hb fb sz w W (.own (ways.map .int)) (.val (.int i)) (.val (.int tot)) (.val (.int j)) (.val (.int ((u.length : Int) - v.length))) (.val (.int (dueT (priceT x y) u v))) .dead .dead .dead .dead)
        (Ex1.if_ (b := decide (u.drop 1 = v.dropLast) || (decide (v.drop 1 = u.dropLast) || false)) ?e1 (fun hy => ?e2) (fun hn => ?e3)) ?e4
      case e1 =>
        refine Tr.boolop (TrL.or_cons (Tr.cast (Tr.cmp (Ev.cast (Ev.strsl (Ev.sub (Ev.name (by walk_at "at")) (Ev.name (by walk_at "at")) (Sbo.of (Sbo.at (Int.natCast_nonneg _) (gw hi)))) (.int Ev.int) .none) (congrArg V.str s1)) (Ev.cast (Ev.strsl (Ev.sub (Ev.name (by walk_at "at")) (Ev.name (by walk_at "at")) (Sbo.of (Sbo.at (Int.natCast_nonneg _) (gw hj)))) .none (.int (by walk_at "ev"))) (congrArg V.str s4)) Cm2.eqs) k1)
          (fun _ => TrL.or_cons (Tr.cast (Tr.cmp (Ev.cast (Ev.strsl (Ev.sub (Ev.name (by walk_at "at")) (Ev.name (by walk_at "at")) (Sbo.of (Sbo.at (Int.natCast_nonneg _) (gw hj)))) (.int Ev.int) .none) (congrArg V.str s2)) (Ev.cast (Ev.strsl (Ev.sub (Ev.name (by walk_at "at")) (Ev.name (by walk_at "at")) (Sbo.of (Sbo.at (Int.natCast_nonneg _) (gw hi)))) .none (.int (by walk_at "ev"))) (congrArg V.str s3)) Cm2.eqs) k2) (fun _ => TrL.or_nil)))
      case e2 =>
        have hc : u.drop 1 = v.dropLast ∨ v.drop 1 = u.dropLast := by simpa using hy
        have hd' : dueT (priceT x y) u v = (if 4 < priceT x y * hamT u v then 4 else priceT x y * hamT u v) := by unfold dueT; rw [if_pos hc]
        rw [hd']
        refine Ex.cons (Ex1.assign (Ev.cast (Ev.callb (Ev.glob (by walk_at "at")) (EvL.cons (Ev.name (by walk_at "at")) (EvL.cons Ev.int EvL.nil)) Bcl.min) ?e5) (by walk_at "at")) Ex.nil
        rfl
      case e3 =>
        have hc : ¬ (u.drop 1 = v.dropLast ∨ v.drop 1 = u.dropLast) := by simpa using hn
        have hd' : dueT (priceT x y) u v = priceT x y * hamT u v := by unfold dueT; rw [if_neg hc]
        rw [hd']
        exact Ex.nil
      case e4 =>
      generalize hdue : dueT (priceT x y) u v = due at pa
      refine Ex.cons (Ex1.skip ?f1) ?f2
      case f1 =>
        refine Tr.cast (Tr.not (Tr.val (Ev.call (Ev.glob (by walk_at "at")) hgt (EvL.cons (Ev.sub (Ev.name (by walk_at "at")) (Ev.name (by walk_at "at")) (Sbo.of (Sbo.at (Int.natCast_nonneg _) (gw hi)))) (EvL.cons (Ev.sub (Ev.name (by walk_at "at")) (Ev.name (by walk_at "at")) (Sbo.of (Sbo.at (Int.natCast_nonneg _) (gw hj)))) (EvL.cons (Ev.name (by walk_at "at")) (EvL.cons (Ev.name (by walk_at "at")) EvL.nil))))
          (cal_tellsP hT (Nat.le_refl 8) (asc Q.hu) (asc Q.hv) ?f3 ?f4) ?f5 ?f6) Tv.bool)) ?f7
        case f3 => rw [List.length_map]; omega
        case f4 => rw [List.length_map]; omega
        case f5 => intro _; rfl
        case f6 => intro e; cases e
        case f7 => rw [lev_f K (lt3 Q.hu) (lt3 Q.hv), pa, beq_self_eq_true]; rfl
      case f2 =>
      refine Ex.cons (Ex1.skip ?g1) Ex.nil
      refine Tr.cast (Tr.boolop (TrL.or_cons (a := false) ?g2 (fun _ => TrL.or_cons (a := false) ?g3 (fun _ => TrL.or_nil)))) rfl
      case g2 =>
        refine Tr.cast (Tr.not (Tr.val (Ev.call (Ev.glob (by walk_at "at")) hgs (EvL.cons (Ev.sub (Ev.name (by walk_at "at")) (Ev.name (by walk_at "at")) (Sbo.of (Sbo.at (Int.natCast_nonneg _) (gn hi)))) (EvL.cons (Ev.sub (Ev.name (by walk_at "at")) (Ev.name (by walk_at "at")) (Sbo.of (Sbo.at (Int.natCast_nonneg _) (gx hj)))) (EvL.cons Ev.bool EvL.nil)))
          (cal_saysP hT (Nat.le_refl 8) pne (parts_46 K Z.hb Z.fb Q.hu) (lenp Q.hu hlu) (pln hlu)) ?g4 ?g5) Tv.bool)) ?g6
        case g4 => intro _; rfl
        case g5 => intro e; cases e
        case g6 => rw [em_words K Z.hb Z.fb Q.hu Q.hv, pb]; rfl
      case g3 =>
        refine Tr.cast (Tr.not (Tr.val (Ev.call (Ev.glob (by walk_at "at")) hgs (EvL.cons (Ev.sub (Ev.name (by walk_at "at")) (Ev.name (by walk_at "at")) (Sbo.of (Sbo.at (Int.natCast_nonneg _) (gn hj)))) (EvL.cons (Ev.sub (Ev.name (by walk_at "at")) (Ev.name (by walk_at "at")) (Sbo.of (Sbo.at (Int.natCast_nonneg _) (gx hi)))) (EvL.cons Ev.bool EvL.nil)))
          (cal_saysP hT (Nat.le_refl 8) pne (parts_46 K Z.hb Z.fb Q.hv) (lenp Q.hv (by omega)) (pln (by omega))) ?g7 ?g8) Tv.bool)) ?g9
        case g7 => intro _; rfl
        case g8 => intro e; cases e
        case g9 => rw [em_words K Z.hb Z.fb Q.hv Q.hu, pc]; rfl
  · have hlt : v.length < u.length := by omega
    have pb := pairB Q x y hlt
    generalize hfar : levP (subT (priceT x y)) u v (2 * ((u.length : Int) - v.length)) = far at pb
    refine Ex.cons (σ1 := sLaw h x y hb fb sz w W (.own (ways.map .int)) (.val (.int i)) (.val (.int (tot + totS u v))) (.val (.int j)) .dead .dead .dead .dead .dead .dead) (Ex1.weak (Ex1.if_ (b := false)
      (o := .next (sLaw h x y hb fb sz w W (.own (ways.map .int)) (.val (.int i)) (.val (.int (tot + totS u v))) (.val (.int j)) (.val (.int ((u.length : Int) - v.length))) .dead (.val (.int far)) .dead .dead .dead)) ?b1 (fun e => nomatch e) (fun _ => ?b2)) (by walk_at "wk")) Ex.nil
    case b1 => exact Tr.cast (by walk_at "tr") (by simp; omega)
    case b2 =>
      refine Ex.cons (σ1 := sLaw h x y hb fb sz w W (.own (ways.map .int)) (.val (.int i)) (.val (.int tot)) (.val (.int j)) (.val (.int ((u.length : Int) - v.length))) .dead (.val (.int far)) .dead .dead .dead) (Ex1.assign ?n1 (by walk_at "at")) ?n2
      case n1 =>
        refine Ev.cast (Ev.call (Ev.glob (by walk_at "at")) hgl (EvL.cons (Ev.sub (Ev.name (by walk_at "at")) (Ev.name (by walk_at "at")) (Sbo.of (Sbo.at (Int.natCast_nonneg _) (gw hi)))) (EvL.cons (Ev.sub (Ev.name (by walk_at "at")) (Ev.name (by walk_at "at")) (Sbo.of (Sbo.at (Int.natCast_nonneg _) (gw hj)))) (EvL.cons (Ev.bin Ev.int (Ev.name (by walk_at "at")) (Op2.mulr (by omega))) EvL.nil)))
          (cal_lev hT (by decide) (asc Q.hu) (asc Q.hv) ?n3 ?n4) ?n5 ?n6) ?n7
        case n3 => rw [List.length_map]; omega
        case n4 => rw [List.length_map]; omega
        case n5 => intro _; rfl
        case n6 => intro e; cases e
        case n7 => rw [lev_f K (lt3 Q.hu) (lt3 Q.hv), hfar]
      case n2 =>
      refine Ex.cons (Ex1.skip ?o1) ?o2
      case o1 =>
        refine Tr.cast (Tr.boolop (TrL.or_cons (a := false) ?o3 (fun _ => TrL.or_cons (a := false) ?o4 (fun _ => TrL.or_nil)))) rfl
        case o3 => exact Tr.cmp (Ev.type_ (Ev.glob (by walk_at "at")) (Ev.name (by walk_at "at")) (typ_int (i := far)) (by decide)) (Ev.glob (by walk_at "at")) Cm2.isnot_ty
        case o4 =>
          refine Tr.cast (Tr.not (Tr.val (Ev.call (Ev.glob (by walk_at "at")) hgs (EvL.cons (Ev.sub (Ev.name (by walk_at "at")) (Ev.name (by walk_at "at")) (Sbo.of (Sbo.at (Int.natCast_nonneg _) (gn hj)))) (EvL.cons (Ev.sub (Ev.name (by walk_at "at")) (Ev.name (by walk_at "at")) (Sbo.of (Sbo.at (Int.natCast_nonneg _) (gx hi)))) (EvL.cons (Ev.cmp (Ev.name (by walk_at "at")) (Ev.bin Ev.int (Ev.name (by walk_at "at")) (Op2.mulr (by omega))) Cm2.eq) EvL.nil)))
            (cal_saysP hT (Nat.le_refl 8) pne (parts_46 K Z.hb Z.fb Q.hv) (lenp Q.hv (by omega)) (pln (by omega))) ?o5 ?o6) Tv.bool)) ?o7
          case o5 => intro _; rfl
          case o6 => intro e; cases e
          case o7 => rw [em_words K Z.hb Z.fb Q.hv Q.hu, pb, beq_self_eq_true]; rfl
      case o2 =>
      have tb : ((((u.length : Int) - v.length) == 1) && ((far == 2) && true)) = (v.length + 1 == u.length && subB v u) := by
        by_cases h1 : v.length + 1 = u.length
        · have e1 : ((u.length : Int) - v.length) = 1 := by omega
          rw [e1] at pb ⊢
          rw [← pb]
          simp [h1]
        · have e1 : (((u.length : Int) - v.length) == 1) = false := by simp; omega
          have e2 : (v.length + 1 == u.length) = false := by simp; omega
          rw [e1, e2]; rfl
      refine Ex.cons (Ex1.if_ (b := (v.length + 1 == u.length && subB v u)) ?r1 (fun hy => ?r2) (fun hn => ?r3)) Ex.nil
      case r1 => exact Tr.cast (Tr.boolop (TrL.and_cons (by walk_at "tr") (fun _ => TrL.and_cons (by walk_at "tr") (fun _ => TrL.and_nil)))) tb
      case r2 =>
        have ht : totS u v = ordP 0 v := by unfold totS; rw [if_pos hy]
        rw [ht]
        refine Ex.cons (Ex1.aug (by walk_at "at") (Ev.subo (EvO.name (by walk_at "at")) (Ev.name (by walk_at "at")) (Sbo.at (Int.natCast_nonneg _) ?r4)) Ip2.add (by walk_at "at")) Ex.nil
        case r4 => rw [Int.toNat_natCast, List.getElem?_map, hw]; rfl
      case r3 =>
        have ht : totS u v = 0 := by unfold totS; rw [if_neg (by rw [hn]; decide)]
        rw [ht, Int.add_zero]
        exact Ex.nil
end
section
open PySem PySem.W PyProof.Rows
set_option Elab.async false
set_option linter.unusedVariables false
set_option maxRecDepth 100000
set_option maxHeartbeats 4000000
variable {T : TC}

theorem perm_sum {a b : List Int} (h : a.Perm b) : a.sum = b.sum := by
  induction h with
  | nil => rfl
  | cons x _ ih => rw [List.sum_cons, List.sum_cons, ih]
  | swap x y l => rw [List.sum_cons, List.sum_cons, List.sum_cons, List.sum_cons]; omega
  | trans _ _ ih1 ih2 => rw [ih1, ih2]
theorem sum_if {α : Type} (t : α → Bool) (g : α → Int) : ∀ l : List α, (l.map fun v => if t v then g v else 0).sum = ((l.filter t).map g).sum
  | [] => rfl
  | v :: l => by
    rw [List.map_cons, List.sum_cons, sum_if t g l, List.filter_cons]
    cases t v <;> simp
theorem sum_zero {α : Type} (g : α → Int) : ∀ l : List α, (∀ v ∈ l, g v = 0) → (l.map g).sum = 0
  | [], _ => rfl
  | v :: l, h => by rw [List.map_cons, List.sum_cons, h v (.head _), sum_zero g l fun z hz => h z (.tail _ hz)]; rfl
section
variable {w : List Nat} {hb fb : Nat} {W : List (List Nat)} (Z : Wd w hb fb) (Q : Wl w W)
include Z Q
theorem w_D : (foundT w).Nodup ∧ [] ∈ foundT w ∧ w ∈ foundT w ∧ (foundT w).length ≤ 16 := by
  have h := of_three (P := factD) Z fD
  unfold factD at h
  simp only [Bool.and_eq_true, decide_eq_true_iff, List.contains_iff_mem] at h
  exact ⟨h.1.1.1, h.1.1.2, h.1.2, h.2⟩
theorem w_C {u : List Nat} (hu : u ∈ W) : (u = [] ∨ (((foundT w).filter fun v => v.length + 1 == u.length && subB v u).map (ordP 0)).sum = ordP 0 u) ∧ subB u u = true ∧ u.length ≤ w.length ∧ (u = w ∨ u.length < w.length) ∧ (∀ a ∈ u, a < 2) ∧ (u.length + 1 = w.length → ∃ k, k < w.length ∧ u = w.eraseIdx k) := by
  have h := of_three (P := factC) Z fC
  unfold factC at h
  have h1 := List.all_eq_true.mp h u (Q.perm.mem_iff.mp hu)
  rw [Bool.and_eq_true, Bool.and_eq_true, Bool.and_eq_true, Bool.and_eq_true, Bool.and_eq_true] at h1
  obtain ⟨⟨⟨⟨⟨h1, h2⟩, h3⟩, h4⟩, h5⟩, h6⟩ := h1
  refine ⟨?_, h2, of_decide_eq_true h3, ?_, ?_, ?_⟩
  · rw [Bool.or_eq_true] at h1
    rcases h1 with h1 | h1
    · exact .inl (eq_of_beq h1)
    · exact .inr (eq_of_beq h1)
  · rw [Bool.or_eq_true] at h4
    rcases h4 with h4 | h4
    · exact .inl (eq_of_beq h4)
    · exact .inr (of_decide_eq_true h4)
  · intro a ha; exact of_decide_eq_true (List.all_eq_true.mp h5 a ha)
  · intro e
    rw [Bool.or_eq_true, Bool.not_eq_true'] at h6
    rcases h6 with h6 | h6
    · rw [e, beq_self_eq_true] at h6; cases h6
    · obtain ⟨k, hk, hk2⟩ := List.any_eq_true.mp h6
      exact ⟨k, List.mem_range.mp hk, eq_of_beq hk2⟩
theorem w_nodup : W.Nodup := Q.perm.nodup_iff.mpr (w_D Z Q).1
theorem w_len : W.length ≤ 16 := by rw [Q.perm.length_eq]; exact (w_D Z Q).2.2.2
theorem w_le {i j : Nat} {u v : List Nat} (hij : j < i) (hi : W[i]? = some u) (hj : W[j]? = some v) : v.length ≤ u.length := by
  obtain ⟨h1, rfl⟩ := List.getElem?_eq_some_iff.mp hi
  obtain ⟨h2, rfl⟩ := List.getElem?_eq_some_iff.mp hj
  exact List.pairwise_iff_getElem.mp Q.sort j i h2 h1 hij
theorem w_ne {i j : Nat} {u v : List Nat} (hij : j < i) (hi : W[i]? = some u) (hj : W[j]? = some v) : u ≠ v := by
  obtain ⟨h1, rfl⟩ := List.getElem?_eq_some_iff.mp hi
  obtain ⟨h2, rfl⟩ := List.getElem?_eq_some_iff.mp hj
  exact fun e => List.pairwise_iff_getElem.mp (w_nodup Z Q) j i h2 h1 hij e.symm
theorem w_zero : W[0]? = some [] := by
  have hm : [] ∈ W := Q.perm.mem_iff.mpr (w_D Z Q).2.1
  obtain ⟨k, hk⟩ := List.mem_iff_getElem?.mp hm
  rcases Nat.eq_zero_or_pos k with h | h
  · rw [h] at hk; exact hk
  · have hk' := (List.getElem?_eq_some_iff.mp hk).1
    have h0 : W[0]? = some W[0] := List.getElem?_eq_getElem (by omega)
    have := w_le Z Q h hk h0
    rw [h0, List.eq_nil_of_length_eq_zero (Nat.le_zero.mp this)]
theorem w_last : W[W.length - 1]? = some w := by
  have hm : w ∈ W := Q.perm.mem_iff.mpr (w_D Z Q).2.2.1
  obtain ⟨k, hk⟩ := List.mem_iff_getElem?.mp hm
  have hk' := (List.getElem?_eq_some_iff.mp hk).1
  rcases Nat.lt_or_ge k (W.length - 1) with h | h
  · have h0 : W[W.length - 1]? = some W[W.length - 1] := List.getElem?_eq_getElem (by omega)
    have h1 := w_le Z Q h h0 hk
    rcases (w_C Z Q (List.mem_of_getElem? h0)).2.2.2.1 with h2 | h2
    · rw [h0, h2]
    · omega
  · have : k = W.length - 1 := by omega
    rw [← this]; exact hk
theorem w_pair {i j : Nat} {u v : List Nat} (hij : j < i) (hi : W[i]? = some u) (hj : W[j]? = some v) : Pair u v := by
  have cu := w_C Z Q (List.mem_of_getElem? hi)
  have cv := w_C Z Q (List.mem_of_getElem? hj)
  have := Z.hi
  refine ⟨cu.2.2.2.2.1, cv.2.2.2.2.1, Nat.le_trans cu.2.2.1 this, w_le Z Q hij hi hj, w_ne Z Q hij hi hj, fun e => ?_⟩
  rcases cu.2.2.2.1 with h1 | h1
  · rcases cv.2.2.2.1 with h2 | h2
    · exact absurd (h1.trans h2.symm) (w_ne Z Q hij hi hj)
    · rw [h1] at e; omega
  · omega
theorem w_total {i : Nat} {u : List Nat} (h0 : 0 < i) (hi : W[i]? = some u) : ((W.take i).map (totS u)).sum = ordP 0 u := by
  have hne : u ≠ [] := w_ne Z Q h0 hi (w_zero Z Q)
  have h1 : (W.map (totS u)).sum = ((W.take i).map (totS u)).sum + ((W.drop i).map (totS u)).sum := by
    rw [← List.sum_append, ← List.map_append, List.take_append_drop]
  have h2 : ((W.drop i).map (totS u)).sum = 0 := by
    refine sum_zero _ _ fun v hv => ?_
    obtain ⟨k, hk⟩ := List.mem_iff_getElem?.mp hv
    rw [List.getElem?_drop] at hk
    have hle : u.length ≤ v.length := by
      rcases Nat.eq_zero_or_pos k with h | h
      · rw [h, Nat.add_zero, hi] at hk; cases hk; exact Nat.le_refl _
      · exact w_le Z Q (by omega) hk hi
    unfold totS
    rw [if_neg]
    simp only [Bool.and_eq_true, beq_iff_eq]
    omega
  have h3 : (W.map (totS u)).sum = ((foundT w).map (totS u)).sum := perm_sum (Q.perm.map _)
  have h4 : ((foundT w).map (totS u)).sum = (((foundT w).filter fun v => v.length + 1 == u.length && subB v u).map (ordP 0)).sum := sum_if _ _ _
  have h5 := (w_C Z Q (List.mem_of_getElem? hi)).1.resolve_left hne
  omega
end
end
section
open PySem PySem.W PyProof.Rows
set_option Elab.async false
set_option linter.unusedVariables false
set_option maxRecDepth 100000
set_option maxHeartbeats 4000000
variable {T : TC}


theorem Trl.cast {c : Cx} {σ : List Slot} {op es a b} (h : TrL T c σ op es a) (e : a = b) : TrL T c σ op es b := e ▸ h
theorem law4 (hT : IsT T) {h x y hb fb : Nat} (K : Cfg h x y) {w : List Nat} {W : List (List Nat)} (Z : Wd w hb fb) (Q : Wl w W) :
    Ex T cLaw (sLaw h x y hb fb w.length w W .dead .dead .dead .dead .dead .dead .dead .dead .dead .dead) ((dAt 17).body.drop 21) (.ret (.bool true)) := by
  have hgs : ∃ d, d ∈ recsOf T.view ∧ d.name = Str.ofString "_law_says" := ⟨dAt 14, by rw [hT.view]; exact m14, n14⟩
  have hgt : ∃ d, d ∈ recsOf T.view ∧ d.name = Str.ofString "_law_tells" := ⟨dAt 15, by rw [hT.view]; exact m15, n15⟩
  have hgo : ∃ d, d ∈ recsOf T.view ∧ d.name = Str.ofString "_law_orders" := ⟨dAt 16, by rw [hT.view]; exact m16, n16⟩
  have hW16 := w_len Z Q
  have hW0 := w_zero Z Q
  have hWl := w_last Z Q
  have hpos : 0 < W.length := (List.getElem?_eq_some_iff.mp hW0).1
  have gw : ∀ {k : Nat} {z : List Nat}, W[k]? = some z → (W.map fun u => V.str (u.map (fT x y)))[((k : Nat) : Int).toNat]? = some (.str (z.map (fT x y))) := by
    intro k z hk; rw [Int.toNat_natCast, List.getElem?_map, hk]; rfl
  have gn : ∀ {k : Nat} {z : List Nat}, W[k]? = some z → (W.map fun u => V.str (joinP dots (partsP h x y hb fb u)))[((k : Nat) : Int).toNat]? = some (.str (joinP dots (partsP h x y hb fb z))) := by
    intro k z hk; rw [Int.toNat_natCast, List.getElem?_map, hk]; rfl
  have gx : ∀ {k : Nat} {z : List Nat}, W[k]? = some z → (W.map fun u => V.str (txtP h x y hb fb u))[((k : Nat) : Int).toNat]? = some (.str (txtP h x y hb fb z)) := by
    intro k z hk; rw [Int.toNat_natCast, List.getElem?_map, hk]; rfl
  have hlast : (W.map fun u => V.str (txtP h x y hb fb u))[((-1 : Int) + ((W.map fun u => V.str (txtP h x y hb fb u)).length : Nat)).toNat]? = some (.str (txtP h x y hb fb w)) := by
    have e : ((-1 : Int) + ((W.map fun u => V.str (txtP h x y hb fb u)).length : Nat)).toNat = W.length - 1 := by rw [List.length_map]; omega
    rw [e, List.getElem?_map, hWl]; rfl
  have ht0 : (W.map fun u => V.str (txtP h x y hb fb u))[((0 : Int)).toNat]? = some (.str (txtP h x y hb fb [])) := by
    show (W.map fun u => V.str (txtP h x y hb fb u))[0]? = _
    rw [List.getElem?_map, hW0]; rfl
  have two0 : ∀ a ∈ ([] : List Nat), a < 2 := by intro a ha; cases ha
  refine Ex.cons (σ1 := sLaw h x y hb fb w.length w W (.own (((W.take 1).map (ordP 0)).map .int)) .dead .dead .dead .dead .dead .dead .dead .dead .dead) (Ex1.assign_new ?a1 (by walk_at "at")) ?a2
  case a1 =>
    have e : ((W.take 1).map (ordP 0)).map V.int = [.int 1] := by
      have : W.take 1 = [[]] := by rw [List.take_one, List.head?_eq_getElem?, hW0]; rfl
      rw [this]; rfl
    rw [e]
    exact EvN.list (EvL.cons Ev.int EvL.nil)
  case a2 =>
  refine Ex.forAll (L := fun k => sLaw h x y hb fb w.length w W (.own (((W.take (k + 1)).map (ordP 0)).map .int)) .dead .dead .dead .dead .dead .dead .dead .dead .dead) (qs := (List.range (W.length - 1)).map fun (i : Nat) => .int ((1 + i : Nat) : Int)) ?b1 (Weak.refl _) ?b2 ?b3
  case b1 =>
    refine It.range2 (a := 1) (n := W.length) (Ev.glob (by walk_at "at")) Ev.int (Ev.cast (Ev.callo (Ev.glob (by walk_at "at")) (EvO.of (Ev.name (by walk_at "at"))) Bco.len) ?b4) (by omega) (by omega)
    rw [List.length_map]
  case b3 => exact law5 hT K Z hW0 hWl hW16
  case b2 =>
    intro k q hq
    obtain ⟨rfl, hk⟩ := rng_at hq
    have hu : W[1 + k]? = some (W[1 + k]'(by omega)) := List.getElem?_eq_getElem (by omega)
    generalize W[1 + k]'(by omega) = u at hu
    have cu := w_C Z Q (List.mem_of_getElem? hu)
    obtain ⟨c1, c2, c3, c4, c5, c6⟩ := cu
    have hne : u ≠ [] := w_ne Z Q (by omega) hu hW0
    have hwle := Z.hi
    have hul : u.length ≤ 4 := Nat.le_trans c3 hwle
    have htk : W.take (k + 1) = W.take (1 + k) := by rw [Nat.add_comm]
    have htk2 : W.take (k + 1 + 1) = W.take (1 + k) ++ [u] := by
      rw [Nat.add_comm k 1, List.take_add_one, hu]; rfl
    refine ⟨sLaw h x y hb fb w.length w W (.own (((W.take (1 + k)).map (ordP 0)).map .int)) (.val (.int ((1 + k : Nat) : Int))) .dead .dead .dead .dead .dead .dead .dead .dead, by rw [htk]; walk_at "at", ?_⟩
    rw [htk2]
    refine Ex.cons (Ex1.assign (p := .int (((W.take 0).map (totS u)).sum)) (Ev.cast Ev.int (by rfl)) (by walk_at "at")) ?c1
    refine Ex.forAll (L := fun j => sLaw h x y hb fb w.length w W (.own (((W.take (1 + k)).map (ordP 0)).map .int)) (.val (.int ((1 + k : Nat) : Int))) (.val (.int (((W.take j).map (totS u)).sum))) .dead .dead .dead .dead .dead .dead .dead) (qs := (List.range (1 + k)).map fun (i : Nat) => .int (i : Int)) ?d1 (Weak.refl _) ?d2 ?d3
    case d1 => exact It.range1 (n := 1 + k) (Ev.glob (by walk_at "at")) (Ev.name (by walk_at "at")) (by omega)
    case d2 =>
      intro j q hq
      obtain ⟨rfl, hj⟩ := rng_at hq
      have hv : W[j]? = some (W[j]'(by omega)) := List.getElem?_eq_getElem (by omega)
      generalize W[j]'(by omega) = v at hv
      have e : (((W.take (j + 1)).map (totS u)).sum) = ((W.take j).map (totS u)).sum + totS u v := by
        rw [List.take_add_one, hv, List.map_append, List.sum_append]; simp
      have hways : ((W.take (1 + k)).map (ordP 0))[j]? = some (ordP 0 v) := by
        rw [List.getElem?_map, List.getElem?_take_of_lt hj, hv]; rfl
      refine ⟨sLaw h x y hb fb w.length w W (.own (((W.take (1 + k)).map (ordP 0)).map .int)) (.val (.int ((1 + k : Nat) : Int))) (.val (.int (((W.take j).map (totS u)).sum))) (.val (.int (j : Int))) .dead .dead .dead .dead .dead .dead, by walk_at "at", ?_⟩
      rw [e]
      exact Ex.weakout (law4j hT K Z hu hv (w_pair Z Q hj hu hv) hj (by omega) hways) (by walk_at "wk")
    case d3 =>
    rw [List.length_map, List.length_range, w_total Z Q (by omega) hu]
    refine Ex.cons (σ1 := sLaw h x y hb fb w.length w W (.own (((W.take (1 + k) ++ [u]).map (ordP 0)).map .int)) (.val (.int ((1 + k : Nat) : Int))) (.val (.int (ordP 0 u))) .dead .dead .dead .dead .dead .dead .dead) ?e1 ?e2
    case e1 =>
      have e : ((W.take (1 + k) ++ [u]).map (ordP 0)).map V.int = ((W.take (1 + k)).map (ordP 0)).map V.int ++ [.int (ordP 0 u)] := by simp
      rw [e]
      exact Ex1.append (by walk_at "at") (Ev.name (by walk_at "at")) (by simp; omega) (by walk_at "at")
    case e2 =>
    have hox : ordP x (u.map (fT x y)) = ordP 0 u := by
      refine ordP_map fun z hz => ?_
      have h2 := c5 z hz
      have : z = 0 ∨ z = 1 := by omega
      rcases this with rfl | rfl
      · show (x == x) = _; simp
      · show (y == x) = _
        rw [beq_false_of_ne (Ne.symm K.ne)]; rfl
    have ascT : ∀ {z : List Nat}, (∀ a ∈ z, a < 2) → ∀ c ∈ txtP h x y hb fb z, c < 128 := fun hz => flat_asc K (tok_all Z.hb Z.fb hz)
    have hlu := txt_len K (u := u) Z.hb Z.fb (by omega) c5
    have hlw := txt_len K (u := w) Z.hb Z.fb (by omega) Z.two
    have hl0 := txt_len K (u := []) Z.hb Z.fb (by simp) two0
    refine Ex.cons (Ex1.skip ?f1) ?f2
    case f1 =>
      refine Tr.cast (Tr.boolop (TrL.or_cons (a := false) ?f3 (fun _ => TrL.or_cons (a := false) ?f4 (fun _ => TrL.or_nil)))) rfl
      case f3 =>
        refine Tr.cast (Tr.cmp (Ev.name (by walk_at "at")) (Ev.call (Ev.glob (by walk_at "at")) hgo (EvL.cons (Ev.sub (Ev.name (by walk_at "at")) (Ev.name (by walk_at "at")) (Sbo.of (Sbo.at (Int.natCast_nonneg _) (gw hu)))) (EvL.cons (Ev.name (by walk_at "at")) EvL.nil)) (cal_orders hT (by decide) (by rw [List.length_map]; omega))) Cm2.ne) ?f5
        rw [hox]; simp
      case f4 =>
        refine Tr.cast (Tr.not (Tr.val (Ev.call (Ev.glob (by walk_at "at")) hgs (EvL.cons (Ev.sub (Ev.name (by walk_at "at")) (Ev.name (by walk_at "at")) (Sbo.of (Sbo.at (Int.natCast_nonneg _) (gn hu)))) (EvL.cons (Ev.sub (Ev.name (by walk_at "at")) (Ev.name (by walk_at "at")) (Sbo.of (Sbo.at (Int.natCast_nonneg _) (gx hu)))) (EvL.cons Ev.bool EvL.nil)))
          (cal_saysP hT (Nat.le_refl 8) (by simp [partsP]) (parts_46 K Z.hb Z.fb c5) (Nat.le_trans (parts_len K Z.hb Z.fb (by omega) c5) (by decide)) (by simp [partsP]; omega)) ?f6 ?f7) Tv.bool)) ?f8
        case f6 => intro _; rfl
        case f7 => intro e; cases e
        case f8 => rw [em_words K Z.hb Z.fb c5 c5, c2]; rfl
    case f2 =>
    refine Ex.cons (Ex1.assign (p := .int (2 * (((txtP h x y hb fb w).length : Int) - (txtP h x y hb fb u).length))) ?g1 (by walk_at "at")) ?g2
    case g1 =>
      exact Ev.bin Ev.int (Ev.bin (Ev.callb (Ev.glob (by walk_at "at")) (EvL.cons (Ev.sub (Ev.name (by walk_at "at")) (by walk_at "ev") (Sbo.of (Sbo.neg (by decide) (by simp; omega) hlast))) EvL.nil) Bcl.lens)
        (Ev.callb (Ev.glob (by walk_at "at")) (EvL.cons (Ev.sub (Ev.name (by walk_at "at")) (Ev.name (by walk_at "at")) (Sbo.of (Sbo.at (Int.natCast_nonneg _) (gx hu)))) EvL.nil) Bcl.lens) Op2.sub) (Op2.mulr (by omega))
    case g2 =>
    refine Ex.cons (Ex1.skip ?h1) ?h2
    case h1 =>
      refine Tr.cast (Tr.boolop (TrL.and_cons (a := decide (u.length + 1 = w.length)) (b := false) ?h3 (fun hy => ?hz))) (by simp)
      case hz =>
        have hy' : u.length + 1 = w.length := by simpa using hy
        obtain ⟨k', hk', rfl⟩ := c6 hy'
        obtain ⟨lt1, lt2⟩ := lev_texts (hb := hb) (fb := fb) K hk' Z.two (2 * (((txtP h x y hb fb w).length : Int) - (txtP h x y hb fb (w.eraseIdx k')).length) - 2)
        refine Trl.cast (TrL.and_cons (b := true) (Tr.not (Tr.val (Ev.call (Ev.glob (by walk_at "at")) hgt (EvL.cons (Ev.sub (Ev.name (by walk_at "at")) (Ev.name (by walk_at "at")) (Sbo.of (Sbo.at (Int.natCast_nonneg _) (gx hu)))) (EvL.cons (Ev.sub (Ev.name (by walk_at "at")) (by walk_at "ev") (Sbo.of (Sbo.neg (by decide) (by simp; omega) hlast)))
          (EvL.cons (Ev.bin (Ev.name (by walk_at "at")) Ev.int Op2.sub) (EvL.cons (Ev.name (by walk_at "at")) EvL.nil)))) (cal_tellsP hT (Nat.le_refl 8) (ascT c5) (ascT Z.two) (by omega) (by omega)) ?h6 ?h7) Tv.bool)) (fun _ => TrL.and_nil)) ?h8
        case h6 => intro _; rfl
        case h7 => intro e; cases e
        case h8 => rw [lt1, beq_self_eq_true]; rfl
      case h3 =>
        refine Tr.cast (Tr.cmp (Ev.cast (q := .int (u.length : Nat)) (Ev.callb (Ev.glob (by walk_at "at")) (EvL.cons (Ev.sub (Ev.name (by walk_at "at")) (Ev.name (by walk_at "at")) (Sbo.of (Sbo.at (Int.natCast_nonneg _) (gw hu)))) EvL.nil) Bcl.lens) ?h4) (by walk_at "ev") Cm2.eq) ?h5
        case h4 => rw [List.length_map]
        case h5 => rw [Bool.eq_iff_iff, beq_iff_eq, decide_eq_true_iff]; omega
    case h2 =>
    refine Ex.cons (Ex1.skip ?i1) (Ex.weakout Ex.nil (by walk_at "wk"))
    refine Tr.cast (Tr.not (Tr.val (Ev.call (Ev.glob (by walk_at "at")) hgs (EvL.cons (Ev.sub (Ev.name (by walk_at "at")) (by walk_at "ev") (Sbo.of (Sbo.at (by decide) ht0))) (EvL.cons (Ev.sub (Ev.name (by walk_at "at")) (Ev.name (by walk_at "at")) (Sbo.of (Sbo.at (Int.natCast_nonneg _) (gx hu)))) (EvL.cons Ev.bool EvL.nil)))
      (cal_saysP (ps := [txtP h x y hb fb []]) hT (Nat.le_refl 8) (by simp) ?i2 ?i3 (by simp)) ?i4 ?i5) Tv.bool)) ?i6
    case i2 => intro p hp; rw [List.mem_singleton.mp hp]; exact flat_46 K (tok_all Z.hb Z.fb two0)
    case i3 => exact Nat.le_trans hl0 (by decide)
    case i4 => intro _; rfl
    case i5 => intro e; cases e
    case i6 =>
      rw [em_first, beq_false_of_ne fun e => hne (txt_inj K Z.hb Z.fb two0 c5 e).symm]; rfl
end
section
open PySem PySem.W PyProof.Rows
set_option Elab.async false
set_option linter.unusedVariables false
set_option maxRecDepth 100000
set_option maxHeartbeats 4000000
variable {T : TC}


@[reducible] noncomputable def s0 (sc a b c ha wr sg x y pr sz wd hd ft sp fd ch pt : Slot) : List Slot :=
  [sc, a, b, c, ha, wr, sg, x, y, pr, sz, wd, hd, ft, sp, fd, ch, pt, .dead, .dead, .dead, .dead, .dead, .dead, .dead, .dead, .dead, .dead, .dead, .dead, .dead]
theorem pow_small {i : Nat} (h : i < 4) : (0 : Int) < 2 ^ i ∧ (2 : Int) ^ i ≤ 16 ∧ ((2 : Int) ^ i = ((2 ^ i : Nat) : Int)) := by
  have : i = 0 ∨ i = 1 ∨ i = 2 ∨ i = 3 := by omega
  rcases this with rfl | rfl | rfl | rfl <;> decide
theorem join_single (f : Nat → Nat) : ∀ l : List Nat, joinP [] (l.map fun t => [f t]) = l.map f
  | [] => rfl
  | [a] => rfl
  | a :: b :: l => by
    show [f a] ++ [] ++ joinP [] ((b :: l).map fun t => [f t]) = _
    rw [join_single f (b :: l)]; rfl
theorem single_sum (f : Nat → Nat) (l : List Nat) : sumLen (l.map fun t => [f t]) = l.length := by
  unfold sumLen
  induction l with
  | nil => rfl
  | cons a l ih => rw [List.map_cons, List.map_cons, List.sum_cons, ih, List.length_cons]; simp; omega
theorem foundN_succ (w : List Nat) (n : Nat) : foundN w (n + 1) = if (foundN w n).contains (partT w n) then foundN w n else foundN w n ++ [partT w n] := by
  unfold foundN
  rw [List.range_succ, List.foldl_append]; rfl
theorem foundN_len (w : List Nat) : ∀ n, (foundN w n).length ≤ n
  | 0 => Nat.le_refl _
  | n + 1 => by
    have := foundN_len w n
    rw [foundN_succ]
    split
    · omega
    · simp; omega
theorem partT_two {w : List Nat} (h : ∀ a ∈ w, a < 2) (n : Nat) : ∀ a ∈ partT w n, a < 2 := by
  intro a ha
  obtain ⟨i, hi, rfl⟩ := List.mem_map.mp ha
  have := List.mem_range.mp (List.mem_filter.mp hi).1
  exact h _ (getD_mem this)
theorem partT_len (w : List Nat) (n : Nat) : (partT w n).length ≤ w.length := by
  unfold partT
  rw [List.length_map]
  exact Nat.le_trans (List.length_filter_le _ _) (by simp)
theorem foundN_two {w : List Nat} (h : ∀ a ∈ w, a < 2) : ∀ n, ∀ u ∈ foundN w n, (∀ a ∈ u, a < 2) ∧ u.length ≤ w.length
  | 0 => by intro u hu; cases hu
  | n + 1 => by
    intro u hu
    rw [foundN_succ] at hu
    split at hu
    · exact foundN_two h n u hu
    · rcases List.mem_append.mp hu with hu | hu
      · exact foundN_two h n u hu
      · rw [List.mem_singleton.mp hu]; exact ⟨partT_two h n, partT_len w n⟩
theorem cont_map {h x y : Nat} (K : Cfg h x y) {F : List (List Nat)} {p : List Nat} (hF : ∀ u ∈ F, ∀ a ∈ u, a < 2) (hp : ∀ a ∈ p, a < 2) : (F.map fun u => u.map (fT x y)).contains (p.map (fT x y)) = F.contains p := by
  rw [Bool.eq_iff_iff, List.contains_iff_mem, List.contains_iff_mem]
  constructor
  · intro hm
    obtain ⟨u, hu, e⟩ := List.mem_map.mp hm
    have := map_inj_on (D := (· < 2)) (f := fT x y) (fun i j hi hj => fT_inj K (Nat.lt_trans hi (by decide)) (Nat.lt_trans hj (by decide))) (hF u hu) hp e
    rw [← this]; exact hu
  · intro hm; exact List.mem_map.mpr ⟨p, hm, rfl⟩
theorem asc_map {h x y : Nat} (K : Cfg h x y) {u : List Nat} (hu : ∀ a ∈ u, a < 2) : ∀ c ∈ u.map (fT x y), c < 128 := by
  intro c hc
  obtain ⟨a, ha, rfl⟩ := List.mem_map.mp hc
  exact (sub_of K (i := a) (j := a) (by have := hu a ha; omega) (by have := hu a ha; omega)).2.2
theorem dOk_str {u : List Nat} (h : ∀ c ∈ u, c < 128) : dOk 9 (.str u) = true := by
  unfold dOk
  rw [List.all_eq_true]
  intro c hc
  have := h c hc
  simp; omega
theorem perm_of_map {α β : Type} (g : α → β) {l1 l2 : List β} (hp : l1.Perm l2) : ∀ F : List α, l2 = F.map g → ∃ W : List α, W.Perm F ∧ l1 = W.map g := by
  induction hp with
  | nil => intro F hF; exact ⟨[], by have : F = [] := by simpa using hF.symm
                                     rw [this], rfl⟩
  | cons x _ ih =>
    intro F hF
    cases F with
    | nil => cases hF
    | cons y F =>
      simp only [List.map_cons, List.cons.injEq] at hF
      obtain ⟨W, h1, h2⟩ := ih F hF.2
      exact ⟨y :: W, h1.cons y, by rw [List.map_cons, hF.1, h2]⟩
  | swap x y l =>
    intro F hF
    match F, hF with
    | p :: q :: F, hF =>
      simp only [List.map_cons, List.cons.injEq] at hF
      exact ⟨q :: p :: F, List.Perm.swap p q F, by rw [List.map_cons, List.map_cons, hF.1, hF.2.1, hF.2.2]⟩
  | trans _ _ ih1 ih2 =>
    intro F hF
    obtain ⟨W2, h1, h2⟩ := ih2 F hF
    obtain ⟨W1, h3, h4⟩ := ih1 W2 h2
    exact ⟨W1, h3.trans h1, h4⟩
theorem joinP_flat : ∀ ps : List (List Nat), joinP [] ps = ps.flatten
  | [] => rfl
  | [p] => by simp [joinP]
  | p :: q :: r => by
    show p ++ [] ++ joinP [] (q :: r) = _
    rw [joinP_flat (q :: r)]; simp
theorem parts_flat (h x y hb fb : Nat) (u : List Nat) : joinP [] (partsP h x y hb fb u) = txtP h x y hb fb u := by
  rw [joinP_flat]; unfold partsP txtP; rw [List.flatMap_def]
@[reducible] noncomputable def sLaw0 (h x y hb fb : Nat) (w : List Nat) (W : List (List Nat)) (wn tx : Slot) : List Slot :=
  [.dead, .dead, .dead, .dead, .val (.int h), .val (.fn (escName h)), .dead, .val (.str [x]), .val (.str [y]), .val (.int (priceT x y)), .val (.int w.length), .val (.str (w.map (fT x y))), .val (.str [fT x y hb]), .val (.str [fT x y fb]),
   .val (spellD h x y), .dead, .dead, .dead, .val (wordsV x y W), wn, tx, .dead, .dead, .dead, .dead, .dead, .dead, .dead, .dead, .dead, .dead]
theorem law3 (hT : IsT T) {h x y hb fb : Nat} (K : Cfg h x y) {w : List Nat} (Z : Wd w hb fb) :
    Ex T cLaw (s0 .dead .dead .dead .dead (.val (.int h)) (.val (.fn (escName h))) .dead (.val (.str [x])) (.val (.str [y])) (.val (.int (priceT x y))) (.val (.int w.length)) (.val (.str (w.map (fT x y)))) (.val (.str [fT x y hb])) (.val (.str [fT x y fb])) (.val (spellD h x y)) (.own []) .dead .dead)
      ((dAt 17).body.drop 16) (.ret (.bool true)) := by
  have hlo := Z.lo
  have hhi := Z.hi
  have h16 : 2 ^ w.length ≤ 16 := by
    have : w.length = 2 ∨ w.length = 3 ∨ w.length = 4 := by omega
    rcases this with e | e | e <;> rw [e] <;> decide
  have fwd : ∀ i < w.length, (w.map (fT x y))[((i : Nat) : Int).toNat]? = some (fT x y (w.getD i 0)) := by
    intro i hi; rw [Int.toNat_natCast, List.getElem?_map, getD_at hi]; rfl
  refine Ex.forAll (L := fun n => s0 .dead .dead .dead .dead (.val (.int h)) (.val (.fn (escName h))) .dead (.val (.str [x])) (.val (.str [y])) (.val (.int (priceT x y))) (.val (.int w.length)) (.val (.str (w.map (fT x y)))) (.val (.str [fT x y hb])) (.val (.str [fT x y fb])) (.val (spellD h x y)) (.own ((foundN w n).map fun u => .str (u.map (fT x y)))) .dead .dead) (qs := (List.range (2 ^ w.length)).map fun (i : Nat) => .int (i : Int)) ?a1 (Weak.refl _) ?a2 ?a3
  case a1 =>
    refine It.range1 (n := 2 ^ w.length) (Ev.glob (by walk_at "at")) (Ev.cast (Ev.bin Ev.int (Ev.name (by walk_at "at")) (Op2.pow (Int.natCast_nonneg _) (by omega) (by decide))) ?a4) (by omega)
    simp
  case a2 =>
    intro n q hq
    obtain ⟨rfl, hn⟩ := rng_at hq
    refine ⟨s0 .dead .dead .dead .dead (.val (.int h)) (.val (.fn (escName h))) .dead (.val (.str [x])) (.val (.str [y])) (.val (.int (priceT x y))) (.val (.int w.length)) (.val (.str (w.map (fT x y)))) (.val (.str [fT x y hb])) (.val (.str [fT x y fb])) (.val (spellD h x y)) (.own ((foundN w n).map fun u => .str (u.map (fT x y)))) (.val (.int (n : Int))) .dead, by walk_at "at", ?_⟩
    have pt2 := partT_two Z.two n
    have ptl := partT_len w n
    have fl := foundN_len w n
    refine Ex.cons (Ex1.assign (p := .str ((partT w n).map (fT x y))) ?b1 (by walk_at "at")) ?b2
    case b1 =>
      refine Ev.cast (Ev.meth (ps := [.list (((partT w n).map fun t => [fT x y t]).map .str)]) (Ev.str (l := []) (by decide +kernel) (by decide)) (EvL.cons ?c3 EvL.nil) (Mth.join ?c4) ?c5 ?c6 ?c7 ?c8 ?c9) ?c10
      case c5 => intro _; rfl
      case c6 => intro _; rfl
      case c7 => intro _; rfl
      case c8 => rfl
      case c9 => intro e; cases e
      case c4 => rw [single_sum]; simp; omega
      case c10 => rw [join_single]
      case c3 =>
        refine Ev.cast (Ev.compF (caps := [Str.ofString "word", Str.ofString "choice"]) (cs := [.val (.str (w.map (fT x y))), .val (.int n)]) (G' := []) (xs := List.range w.length) (w := fun i => .int (i : Nat)) (t := fun i => n / 2 ^ i % 2 == 1) (f := fun i => .str [fT x y (w.getD i 0)]) ?d1 ?d2 ?d3 ?d4 ?d5 ?d6 ?d7) ?d8
        case d1 => exact It.range1 (n := w.length) (Ev.glob (by walk_at "at")) (Ev.name (by walk_at "at")) (by omega)
        case d2 => decide +kernel
        case d3 => exact CapL.val (by walk_at "at") (CapL.val (by walk_at "at") .nil)
        case d4 => exact .skip (.skip (.skip (.skip (.skip (.skip (.skip (.skip (.skip (.skip (.skip (.skip (.skip (.skip (.skip (.skip (.skip .nil))))))))))))))))
        case d7 => simp; omega
        case d8 => unfold partT; rw [List.map_map, List.map_map]; rfl
        case d5 =>
          intro i hi
          have hi' := List.mem_range.mp hi
          obtain ⟨p1, p2, p3⟩ := pow_small (i := i) (by omega)
          refine TrIf.one (Tr.cast (Tr.cmp (Ev.bin (Ev.bin (Ev.name (by walk_at "at")) (Ev.bin Ev.int (Ev.name (by walk_at "at")) (Op2.pow (Int.natCast_nonneg _) (by omega) (by decide))) (Op2.div' (by rw [Int.toNat_natCast]; exact p1) (by rw [Int.toNat_natCast]; omega))) Ev.int (Op2.mod' (by decide))) Ev.int Cm2.eq) ?e1)
          rw [Int.toNat_natCast, p3, show ((n : Int) / ((2 ^ i : Nat) : Int) % 2) = ((n / 2 ^ i % 2 : Nat) : Int) from by push_cast; rfl]
          rw [Bool.eq_iff_iff, beq_iff_eq, beq_iff_eq]
          omega
        case d6 =>
          intro i hi _
          have hi' := List.mem_range.mp hi
          exact Ev.weak (Ev.sub (Ev.name (by walk_at "at")) (Ev.name (by walk_at "at")) (Sb.str (Int.natCast_nonneg _) (by rw [List.length_map]; omega) (fwd i hi')))
    case b2 =>
    have e1 : ((foundN w n).map fun u => V.str (u.map (fT x y))) = ((foundN w n).map fun u => u.map (fT x y)).map V.str := by rw [List.map_map]; rfl
    have e2 : inV (.str ((partT w n).map (fT x y))) ((foundN w n).map fun u => V.str (u.map (fT x y))) = (foundN w n).contains (partT w n) := by
      rw [e1, inV_map eqV_str, cont_map K (fun u hu => (foundN_two Z.two n u hu).1) pt2]
    have hok : dOks 9 ((foundN w n).map fun u => V.str (u.map (fT x y))) = true := dOks_map fun u hu => dOk_str (asc_map K (foundN_two Z.two n u hu).1)
    refine Ex.cons (σ1 := s0 .dead .dead .dead .dead (.val (.int h)) (.val (.fn (escName h))) .dead (.val (.str [x])) (.val (.str [y])) (.val (.int (priceT x y))) (.val (.int w.length)) (.val (.str (w.map (fT x y)))) (.val (.str [fT x y hb])) (.val (.str [fT x y fb])) (.val (spellD h x y)) (.own ((foundN w (n + 1)).map fun u => .str (u.map (fT x y)))) (.val (.int (n : Int))) (.val (.str ((partT w n).map (fT x y)))))
      (Ex1.if_ (b := !(foundN w n).contains (partT w n)) ?f1 (fun hy => ?f2) (fun hn' => ?f3)) (Ex.weakout Ex.nil (by walk_at "wk"))
    case f1 => exact Tr.cast (Tr.cmpo (Ev.name (by walk_at "at")) (EvO.name (by walk_at "at")) (Cmo.notin (dOk_str (asc_map K pt2)) hok)) (by rw [e2])
    case f2 =>
      rw [foundN_succ, if_neg (by simpa using hy), List.map_append, List.map_singleton]
      exact Ex.cons (Ex1.append (by walk_at "at") (Ev.name (by walk_at "at")) (by simp; omega) (by walk_at "at")) Ex.nil
    case f3 =>
      rw [foundN_succ, if_pos (by simpa using hn')]
      exact Ex.nil
  case a3 =>
    rw [List.length_map, List.length_range]
    have hF : foundN w (2 ^ w.length) = foundT w := rfl
    rw [hF]
    have hFt : ∀ u ∈ foundT w, (∀ a ∈ u, a < 2) ∧ u.length ≤ w.length := fun u hu => foundN_two Z.two _ u hu
    have hFl : (foundT w).length ≤ 16 := Nat.le_trans (foundN_len w _) h16
    have e1 : ((foundT w).map fun u => V.str (u.map (fT x y))) = ((foundT w).map fun u => u.map (fT x y)).map V.str := by rw [List.map_map]; rfl
    rw [e1]
    refine Ex.sortlen (xs := (foundT w).map fun u => u.map (fT x y)) (σ1 := fun ws => [.dead, .dead, .dead, .dead, .val (.int h), .val (.fn (escName h)), .dead, .val (.str [x]), .val (.str [y]), .val (.int (priceT x y)), .val (.int w.length), .val (.str (w.map (fT x y))), .val (.str [fT x y hb]), .val (.str [fT x y fb]), .val (spellD h x y), .own (((foundT w).map fun u => u.map (fT x y)).map V.str), .dead, .dead, .val (.list (ws.map .str)), .dead, .dead, .dead, .dead, .dead, .dead, .dead, .dead, .dead, .dead, .dead, .dead])
      (EvO.name (by walk_at "at")) (by walk_at "at") (by walk_at "at") (by rw [List.length_map]; omega) (by walk_at "at") (fun ws => by walk_at "at") (fun env => rfl) (fun env => rfl) ?s1
    intro ws hperm hsort
    obtain ⟨W, hWp, rfl⟩ := perm_of_map _ hperm (foundT w) rfl
    have Q : Wl w W := ⟨hWp, by rw [List.pairwise_map] at hsort; exact hsort.imp fun h => by simpa using h⟩
    have hWl : W.length ≤ 16 := by rw [hWp.length_eq]; exact hFl
    have hWt : ∀ u ∈ W, (∀ a ∈ u, a < 2) ∧ u.length ≤ w.length := fun u hu => hFt u (hWp.mem_iff.mp hu)
    have ew : ((W.map fun u => u.map (fT x y)).map V.str) = W.map fun u => V.str (u.map (fT x y)) := by rw [List.map_map]; rfl
    rw [ew]
    have at_W : ∀ {α : Type} {f : List Nat → α} {i : Nat} {q : α}, (W.map f)[i]? = some q → ∃ u, W[i]? = some u ∧ q = f u := by
      intro α f i q hq
      rw [List.getElem?_map] at hq
      cases hu : W[i]? with
      | none => rw [hu] at hq; cases hq
      | some u => rw [hu] at hq; exact ⟨u, rfl, (Option.some.inj hq).symm⟩
    refine Ex.weak (σ1 := sLaw0 h x y hb fb w W .dead .dead) (by walk_at "wk") ?t1
    have itW : ∀ {wn tx : Slot} {p : Pos}, It T cLaw (sLaw0 h x y hb fb w W wn tx) (.Name (Str.ofString "words") p) (W.map fun u => .str (u.map (fT x y))) := It.list (Ev.name (by walk_at "at"))
    refine Ex.cons (σ1 := sLaw0 h x y hb fb w W (.val (wantsV h x y hb fb W)) .dead) (Ex1.compL (caps := [Str.ofString "head", Str.ofString "foot", Str.ofString "spelled"]) (cs := [.val (.str [fT x y hb]), .val (.str [fT x y fb]), .val (spellD h x y)]) (G' := []) (rs := W.map fun u => .str (joinP dots (partsP h x y hb fb u))) itW ?u1 ?u2 ?u3 ?u4 ?u5 ?u6 ?u7) ?u8
    case u1 => decide +kernel
    case u2 => exact CapL.val (by walk_at "at") (CapL.val (by walk_at "at") (CapL.val (by walk_at "at") .nil))
    case u3 => exact .skip (.skip (.skip (.skip (.skip (.skip (.skip (.skip (.skip (.skip (.skip (.skip (.skip (.skip (.skip (.skip (.skip .nil))))))))))))))))
    case u4 => simp
    case u6 => simp; omega
    case u7 => walk_at "at"
    case u5 =>
      intro i q r hq hr
      obtain ⟨u, hu, rfl⟩ := at_W hq
      obtain ⟨u', hu', rfl⟩ := at_W hr
      rw [hu] at hu'; cases hu'
      obtain ⟨hut, hul⟩ := hWt u (List.mem_of_getElem? hu)
      refine Ev.meth (ps := [.list ((partsP h x y hb fb u).map .str)]) (Ev.str (l := dots) (by decide +kernel) (by decide)) (EvL.cons ?v1 EvL.nil) (Mth.join ?v2) ?v3 ?v4 ?v5 ?v6 ?v7
      case v3 => intro _; rfl
      case v4 => intro _; rfl
      case v5 => intro _; rfl
      case v6 => rfl
      case v7 => intro e; cases e
      case v2 =>
        have h2 := parts_sum K (tok_all Z.hb Z.fb hut)
        simp only [List.length_cons, List.length_append, List.length_nil] at h2
        unfold partsP
        simp only [List.length_map, List.length_cons, List.length_append, List.length_nil]
        omega
      case v1 =>
          refine Ev.compL (caps := [Str.ofString "spelled"]) (cs := [.val (spellD h x y)]) (G' := []) (qs := ((hb :: (u ++ [fb])).map (fT x y)).map fun ch => .str [ch]) ?wa ?wb ?wc ?wd ?we ?wf ?wg
          case wa =>
            have e : [fT x y hb] ++ u.map (fT x y) ++ [fT x y fb] = (hb :: (u ++ [fb])).map (fT x y) := by simp
            rw [← e]
            exact It.str (Ev.bin (Ev.bin (Ev.name (by walk_at "at")) (Ev.name (by walk_at "at")) (Op2.cat (by simp; omega))) (Ev.name (by walk_at "at")) (Op2.cat (by simp; omega)))
          case wb => decide +kernel
          case wc => exact CapL.val (by walk_at "at") .nil
          case wd => exact .nil
          case we => simp [partsP]
          case wg => simp; omega
          case wf =>
            intro i q r hq hr
            rw [List.getElem?_map, List.getElem?_map] at hq
            unfold partsP at hr
            rw [List.getElem?_map, List.getElem?_map] at hr
            cases ht : (hb :: (u ++ [fb]))[i]? with
            | none => rw [ht] at hq; cases hq
            | some t =>
              rw [ht] at hq hr
              cases hq; cases hr
              exact Ev.sub (Ev.name (by walk_at "at")) (Ev.name (by walk_at "at")) (Sb.dict (spell_look K (tok_all Z.hb Z.fb hut t (List.mem_of_getElem? ht))))
    case u8 =>
    have etx : ∀ {u : List Nat}, escP h ([fT x y hb] ++ u.map (fT x y) ++ [fT x y fb]) = txtP h x y hb fb u := by
      intro u
      have e : [fT x y hb] ++ u.map (fT x y) ++ [fT x y fb] = (hb :: (u ++ [fb])).map (fT x y) := by simp
      rw [e, esc_flat]; rfl
    refine Ex.cons (σ1 := sLaw0 h x y hb fb w W (.val (wantsV h x y hb fb W)) (.val (textsV h x y hb fb W))) (Ex1.compL (caps := [Str.ofString "write", Str.ofString "head", Str.ofString "foot"]) (cs := [.val (.fn (escName h)), .val (.str [fT x y hb]), .val (.str [fT x y fb])]) (G' := []) (rs := W.map fun u => .str (txtP h x y hb fb u)) itW ?x1 ?x2 ?x3 ?x4 ?x5 ?x6 ?x7) ?x8
    case x1 => decide +kernel
    case x2 => exact CapL.val (by walk_at "at") (CapL.val (by walk_at "at") (CapL.val (by walk_at "at") .nil))
    case x3 => exact .skip (.skip (.skip (.skip (.skip (.skip (.skip (.skip (.skip (.skip (.skip (.skip (.skip (.skip (.skip (.skip (.skip .nil))))))))))))))))
    case x4 => simp
    case x6 => simp; omega
    case x7 => walk_at "at"
    case x5 =>
      intro i q r hq hr
      obtain ⟨u, hu, rfl⟩ := at_W hq
      obtain ⟨u', hu', rfl⟩ := at_W hr
      rw [hu] at hu'; cases hu'
      obtain ⟨hut, hul⟩ := hWt u (List.mem_of_getElem? hu)
      exact Ev.cast (Ev.call (Ev.name (by walk_at "at")) (esc_mem hT K.hh) (EvL.cons (Ev.bin (Ev.bin (Ev.name (by walk_at "at")) (Ev.name (by walk_at "at")) (Op2.cat (by simp; omega))) (Ev.name (by walk_at "at")) (Op2.cat (by simp; omega))) EvL.nil) (cal_write hT (by decide) K.hh (by simp; omega))) (congrArg V.str etx)
    case x8 =>
    have etv : ((W.map fun u => V.str (txtP h x y hb fb u))) = (W.map fun u => txtP h x y hb fb u).map V.str := by rw [List.map_map]; rfl
    have hok : dOk 9 (.list (W.map fun u => V.str (txtP h x y hb fb u))) = true := by
      unfold dOk
      rw [etv]
      refine dOks_map fun s hs => ?_
      obtain ⟨u, hu, rfl⟩ := List.mem_map.mp hs
      unfold dOk
      rw [List.all_eq_true]
      intro c hc
      have := flat_asc K (tok_all Z.hb Z.fb (hWt u hu).1) c hc
      simp; omega
    refine Ex.cons (Ex1.skip (Tr.cast (Tr.cmp (pb := textsV h x y hb fb W) (Ev.name (by walk_at "at")) ?y1 (Cm2.ned hok hok)) ?y2)) ?y3
    case y2 =>
      show (!eqV (.list (W.map fun u => V.str (txtP h x y hb fb u))) (.list (W.map fun u => V.str (txtP h x y hb fb u)))) = false
      rw [etv, eqV_list eqV_str, beq_self_eq_true]; rfl
    case y3 => exact law4 hT K Z Q
    case y1 =>
    refine Ev.compL (caps := [Str.ofString "head", Str.ofString "foot", Str.ofString "spelled"]) (cs := [.val (.str [fT x y hb]), .val (.str [fT x y fb]), .val (spellD h x y)]) (G' := []) (rs := W.map fun u => .str (txtP h x y hb fb u)) itW ?z1 ?z2 ?z3 ?z4 ?z5 ?z6
    case z1 => decide +kernel
    case z2 => exact CapL.val (by walk_at "at") (CapL.val (by walk_at "at") (CapL.val (by walk_at "at") .nil))
    case z3 => exact .skip (.skip (.skip (.skip (.skip (.skip (.skip (.skip (.skip (.skip (.skip (.skip (.skip (.skip (.skip (.skip (.skip .nil))))))))))))))))
    case z4 => simp
    case z6 => simp; omega
    case z5 =>
      intro i q r hq hr
      obtain ⟨u, hu, rfl⟩ := at_W hq
      obtain ⟨u', hu', rfl⟩ := at_W hr
      rw [hu] at hu'; cases hu'
      obtain ⟨hut, hul⟩ := hWt u (List.mem_of_getElem? hu)
      refine Ev.cast (Ev.meth (ps := [.list ((partsP h x y hb fb u).map .str)]) (Ev.str (l := []) (by decide +kernel) (by decide)) (EvL.cons ?k1 EvL.nil) (Mth.join ?k2) ?k3 ?k4 ?k5 ?k6 ?k7) (congrArg V.str (parts_flat h x y hb fb u))
      case k3 => intro _; rfl
      case k4 => intro _; rfl
      case k5 => intro _; rfl
      case k6 => rfl
      case k7 => intro e; cases e
      case k2 =>
        have h2 := parts_sum K (tok_all Z.hb Z.fb hut)
        simp only [List.length_cons, List.length_append, List.length_nil] at h2
        unfold partsP
        simp only [List.length_map, List.length_cons, List.length_append, List.length_nil]
        omega
      case k1 =>
          refine Ev.compL (caps := [Str.ofString "spelled"]) (cs := [.val (spellD h x y)]) (G' := []) (qs := ((hb :: (u ++ [fb])).map (fT x y)).map fun ch => .str [ch]) ?qaq ?qbq ?qcq ?qdq ?qeq ?qfq ?qgq
          case qaq =>
            have e : [fT x y hb] ++ u.map (fT x y) ++ [fT x y fb] = (hb :: (u ++ [fb])).map (fT x y) := by simp
            rw [← e]
            exact It.str (Ev.bin (Ev.bin (Ev.name (by walk_at "at")) (Ev.name (by walk_at "at")) (Op2.cat (by simp; omega))) (Ev.name (by walk_at "at")) (Op2.cat (by simp; omega)))
          case qbq => decide +kernel
          case qcq => exact CapL.val (by walk_at "at") .nil
          case qdq => exact .nil
          case qeq => simp [partsP]
          case qgq => simp; omega
          case qfq =>
            intro i q r hq hr
            rw [List.getElem?_map, List.getElem?_map] at hq
            unfold partsP at hr
            rw [List.getElem?_map, List.getElem?_map] at hr
            cases ht : (hb :: (u ++ [fb]))[i]? with
            | none => rw [ht] at hq; cases hq
            | some t =>
              rw [ht] at hq hr
              cases hq; cases hr
              exact Ev.sub (Ev.name (by walk_at "at")) (Ev.name (by walk_at "at")) (Sb.dict (spell_look K (tok_all Z.hb Z.fb hut t (List.mem_of_getElem? ht))))
end
section
open PySem PySem.W PyProof.Rows
set_option Elab.async false
set_option linter.unusedVariables false
set_option maxRecDepth 100000
set_option maxHeartbeats 4000000
variable {T : TC}


theorem sgn_ne : ∀ p < 9, ∀ q < 9, p ≠ q → signs.getD p 0 ≠ signs.getD q 0 := by decide
theorem sgn_mem : ∀ p < 9, signs.getD p 0 ∈ signs := by decide
theorem sgn_low : ∀ p < 9, signs.getD p 0 < 128 := by decide
theorem sgn_get : ∀ p < 9, signs[p]? = some (signs.getD p 0) := by decide
noncomputable def bitsP (b n : Nat) : List Nat := (List.range n).map fun i => b / 3 / 2 ^ i % 2
@[reducible] noncomputable def escV : List V := [.fn "_escape_cdata", .fn "_escape_attrib", .fn "_escape_attrib_html", .fn "_escape_cdata_c14n", .fn "_escape_attrib_c14n"]
theorem esc_get : ∀ {h : Nat}, h < 5 → escV[((h : Nat) : Int).toNat]? = some (.fn (escName h)) := by
  intro h hh
  match h, hh with
  | 0, _ => rfl
  | 1, _ => rfl
  | 2, _ => rfl
  | 3, _ => rfl
  | 4, _ => rfl
theorem two_get {x y t : Nat} (ht : t < 2) : ([.str [x], .str [y]] : List V)[t]? = some (.str [fT x y t]) := by
  have : t = 0 ∨ t = 1 := by omega
  rcases this with rfl | rfl <;> rfl
theorem law_top (hT : IsT T) (ns : List Int) (hns : ns.length ≤ 63) : Ex T cLaw [.val (.list (ns.map .int)), .dead, .dead, .dead, .dead, .dead, .dead, .dead, .dead, .dead, .dead, .dead, .dead, .dead, .dead, .dead, .dead, .dead, .dead, .dead, .dead, .dead, .dead, .dead, .dead, .dead, .dead, .dead, .dead, .dead, .dead] (dAt 17).body (.ret (.bool true)) := by
  generalize hA : ((1 + (pickI ns (some 0) (some 63) (some 3)).sum) % 1000000).toNat = A
  generalize hB : ((7 + (pickI ns (some 1) (some 63) (some 3)).sum) % 1000000).toNat = B
  generalize hC : (((pickI ns (some 2) (some 63) (some 3)).sum) % 1000000).toNat = C
  refine Ex.cons (Ex1.assign (p := .int (A : Int)) ?a1 (by walk_at "at")) ?a2
  case a1 =>
    refine Ev.cast (Ev.bin (Ev.bin Ev.int (Ev.callo (Ev.glob (by walk_at "at")) (EvO.of (Ev.cast (Ev.listslice3 (EvO.of (Ev.name (by walk_at "at"))) (.int Ev.int) (.int Ev.int) Ev.int (by decide)) (congrArg V.list (pickV_int _ _ _ _)))) Bco.sum) Op2.add) Ev.int (Op2.mod' (by decide))) ?a3
    congr 1
    omega
  case a2 =>
  refine Ex.cons (Ex1.assign (p := .int (B : Int)) ?b1 (by walk_at "at")) ?b2
  case b1 =>
    refine Ev.cast (Ev.bin (Ev.bin Ev.int (Ev.callo (Ev.glob (by walk_at "at")) (EvO.of (Ev.cast (Ev.listslice3 (EvO.of (Ev.name (by walk_at "at"))) (.int Ev.int) (.int Ev.int) Ev.int (by decide)) (congrArg V.list (pickV_int _ _ _ _)))) Bco.sum) Op2.add) Ev.int (Op2.mod' (by decide))) ?b3
    congr 1
    omega
  case b2 =>
  refine Ex.cons (Ex1.assign (p := .int (C : Int)) ?c1 (by walk_at "at")) ?c2
  case c1 =>
    refine Ev.cast (Ev.bin (Ev.callo (Ev.glob (by walk_at "at")) (EvO.of (Ev.cast (Ev.listslice3 (EvO.of (Ev.name (by walk_at "at"))) (.int Ev.int) (.int Ev.int) Ev.int (by decide)) (congrArg V.list (pickV_int _ _ _ _)))) Bco.sum) Ev.int (Op2.mod' (by decide))) ?c3
    congr 1
    omega
  case c2 =>
  have hh : A % 5 < 5 := by omega
  refine Ex.cons (Ex1.assign (p := .int ((A % 5 : Nat) : Int)) (Ev.cast (by walk_at "ev") (by congr 1)) (by walk_at "at")) ?d1
  refine Ex.cons (Ex1.assign (p := .fn (escName (A % 5))) ?d2 (by walk_at "at")) ?d3
  case d2 =>
    exact Ev.sub (Ev.list (ps := escV) (EvL.cons (Ev.glob (by walk_at "at")) (EvL.cons (Ev.glob (by walk_at "at")) (EvL.cons (Ev.glob (by walk_at "at")) (EvL.cons (Ev.glob (by walk_at "at")) (EvL.cons (Ev.glob (by walk_at "at")) EvL.nil)))))) (Ev.name (by walk_at "at")) (Sbo.of (Sbo.at (Int.natCast_nonneg _) (esc_get hh)))
  case d3 =>
  refine Ex.cons (Ex1.assign (p := .str signs) (Ev.str (l := signs) (by decide +kernel) (by decide)) (by walk_at "at")) ?e1
  have hp : A / 5 % 9 < 9 := by omega
  have hq : (A / 5 + 1 + A / 45 % 8) % 9 < 9 := by omega
  have hpq : A / 5 % 9 ≠ (A / 5 + 1 + A / 45 % 8) % 9 := by omega
  have gp : signs[((A : Int) / 5 % 9).toNat]? = some (signs.getD (A / 5 % 9) 0) := by
    have e : ((A : Int) / 5 % 9).toNat = A / 5 % 9 := by omega
    rw [e]; exact sgn_get _ hp
  have gq : signs[(((A : Int) / 5 + 1 + (A : Int) / 45 % 8) % 9).toNat]? = some (signs.getD ((A / 5 + 1 + A / 45 % 8) % 9) 0) := by
    have e : (((A : Int) / 5 + 1 + (A : Int) / 45 % 8) % 9).toNat = (A / 5 + 1 + A / 45 % 8) % 9 := by
      rw [show (((A : Int) / 5 + 1 + (A : Int) / 45 % 8) % 9) = (((A / 5 + 1 + A / 45 % 8) % 9 : Nat) : Int) from by push_cast; rfl]
      exact Int.toNat_natCast _
    rw [e]; exact sgn_get _ hq
  have K : Cfg (A % 5) (signs.getD (A / 5 % 9) 0) (signs.getD ((A / 5 + 1 + A / 45 % 8) % 9) 0) := ⟨hh, sgn_mem _ hp, sgn_mem _ hq, sgn_ne _ hp _ hq hpq⟩
  have lx := sgn_low _ hp
  have ly := sgn_low _ hq
  generalize A % 5 = h at K hh ⊢
  generalize signs.getD (A / 5 % 9) 0 = x at gp K lx
  generalize signs.getD ((A / 5 + 1 + A / 45 % 8) % 9) 0 = y at gq K ly
  refine Ex.cons (Ex1.assign (p := .str [x]) (Ev.weak (Ev.sub (Ev.name (by walk_at "at")) (by walk_at "ev") (Sb.str (by omega) (by decide) gp))) (by walk_at "at")) ?f1
  refine Ex.cons (Ex1.assign (p := .str [y]) (Ev.weak (Ev.sub (Ev.name (by walk_at "at")) (by walk_at "ev") (Sb.str (by omega) (by decide) gq))) (by walk_at "at")) ?f2
  refine Ex.cons (Ex1.assign (p := .int (priceT x y)) ?f3 (by walk_at "at")) ?f4
  case f3 =>
    refine Ev.cast (Ev.ifexp (b := decide (lowP x = lowP y)) (p := .int 1) (q := .int 2) ?f5 (fun _ => Ev.int) (fun _ => Ev.int)) ?f6
    case f5 =>
      refine Tr.cast (Tr.cmp (Ev.meth0 (Ev.name (by walk_at "at")) (Mth.lower lx)) (Ev.meth0 (Ev.name (by walk_at "at")) (Mth.lower ly)) Cm2.eqs) ?f7
      rw [Bool.eq_iff_iff, beq_iff_eq, decide_eq_true_iff]; simp
    case f6 => unfold priceT; by_cases hl : lowP x = lowP y <;> simp [hl]
  case f4 =>
  refine Ex.cons (Ex1.assign (p := .int ((2 + B % 3 : Nat) : Int)) (Ev.cast (by walk_at "ev") (by congr 1)) (by walk_at "at")) ?g1
  have hsz : 2 ≤ 2 + B % 3 ∧ 2 + B % 3 ≤ 4 := by omega
  have hwl : (bitsP B (2 + B % 3)).length = 2 + B % 3 := by simp [bitsP]
  have Z : Wd (bitsP B (2 + B % 3)) (C % 2) (C / 2 % 2) := by
    refine ⟨by omega, by omega, ?_, by omega, by omega⟩
    intro a ha
    obtain ⟨i, _, rfl⟩ := List.mem_map.mp ha
    exact Nat.mod_lt _ (by decide)
  have hwi : ∀ i < 2 + B % 3, (bitsP B (2 + B % 3))[i]? = some (B / 3 / 2 ^ i % 2) := by
    intro i hi
    unfold bitsP
    rw [List.getElem?_map, List.getElem?_range hi]; rfl
  generalize 2 + B % 3 = SZ at hsz hwl Z hwi ⊢
  generalize hw : bitsP B SZ = w at hwl Z hwi
  have hwx : ∀ a ∈ w, a < 2 := Z.two
  refine Ex.cons (Ex1.assign (p := .str (w.map (fT x y))) ?h1 (by walk_at "at")) ?h2
  case h1 =>
    refine Ev.cast (Ev.meth (ps := [.list ((w.map fun t => [fT x y t]).map .str)]) (Ev.str (l := []) (by decide +kernel) (by decide)) (EvL.cons ?h3 EvL.nil) (Mth.join ?h4) ?h5 ?h6 ?h7 ?h8 ?h9) ?h10
    case h5 => intro _; rfl
    case h6 => intro _; rfl
    case h7 => intro _; rfl
    case h8 => rfl
    case h9 => intro e; cases e
    case h4 => rw [single_sum]; simp; omega
    case h10 => rw [join_single]
    case h3 =>
      refine Ev.compL (caps := [Str.ofString "x", Str.ofString "y", Str.ofString "b"]) (cs := [.val (.str [x]), .val (.str [y]), .val (.int B)]) (G' := []) (qs := (List.range SZ).map fun (i : Nat) => .int (i : Int)) ?i1 ?i2 ?i3 ?i4 ?i5 ?i6 ?i7
      case i1 => exact It.range1 (n := SZ) (Ev.glob (by walk_at "at")) (Ev.name (by walk_at "at")) (by omega)
      case i2 => decide +kernel
      case i3 => exact CapL.val (by walk_at "at") (CapL.val (by walk_at "at") (CapL.val (by walk_at "at") .nil))
      case i4 => exact .skip (.skip (.skip (.skip (.skip (.skip (.skip (.skip (.skip (.skip (.skip (.skip (.skip (.skip (.skip (.skip (.skip .nil))))))))))))))))
      case i5 => simp [hwl]
      case i7 => simp; omega
      case i6 =>
        intro i q r hq hr
        obtain ⟨rfl, hi⟩ := rng_at hq
        have hr' : r = .str [fT x y (B / 3 / 2 ^ i % 2)] := by
          rw [List.map_map, List.getElem?_map, hwi i hi] at hr
          cases hr; rfl
        subst hr'
        obtain ⟨p1, p2, p3⟩ := pow_small (i := i) (by omega)
        refine Ev.sub (Ev.list (EvL.cons (Ev.name (by walk_at "at")) (EvL.cons (Ev.name (by walk_at "at")) EvL.nil))) (Ev.bin (Ev.bin (Ev.bin (Ev.name (by walk_at "at")) Ev.int (Op2.div' (by decide) (by decide))) (Ev.bin Ev.int (Ev.name (by walk_at "at")) (Op2.pow (Int.natCast_nonneg _) (by omega) (by decide))) (Op2.div' (by rw [Int.toNat_natCast]; exact p1) (by rw [Int.toNat_natCast]; omega))) Ev.int (Op2.mod' (by decide))) (Sbo.of (Sbo.at ?j1 ?j2))
        case j1 => exact Int.emod_nonneg _ (by decide)
        case j2 =>
          have e : ((B : Int) / 3 / 2 ^ ((i : Nat) : Int).toNat % 2).toNat = B / 3 / 2 ^ i % 2 := by
            rw [Int.toNat_natCast, p3, show ((B : Int) / 3 / ((2 ^ i : Nat) : Int) % 2) = ((B / 3 / 2 ^ i % 2 : Nat) : Int) from by push_cast; rfl]
            exact Int.toNat_natCast _
          rw [e]
          exact two_get (Nat.mod_lt _ (by decide))
  case h2 =>
  have hhb : C % 2 < 2 := by omega
  have hfb : C / 2 % 2 < 2 := by omega
  have ehb : ((C : Int) % 2).toNat = C % 2 := by omega
  have efb : ((C : Int) / 2 % 2).toNat = C / 2 % 2 := by omega
  refine Ex.cons (Ex1.assign (p := .str [fT x y (C % 2)]) (Ev.sub (Ev.list (EvL.cons (Ev.name (by walk_at "at")) (EvL.cons (Ev.name (by walk_at "at")) EvL.nil))) (by walk_at "ev") (Sbo.of (Sbo.at (by omega) (by rw [ehb]; exact two_get hhb)))) (by walk_at "at")) ?k1
  refine Ex.cons (Ex1.assign (p := .str [fT x y (C / 2 % 2)]) (Ev.sub (Ev.list (EvL.cons (Ev.name (by walk_at "at")) (EvL.cons (Ev.name (by walk_at "at")) EvL.nil))) (by walk_at "ev") (Sbo.of (Sbo.at (by omega) (by rw [efb]; exact two_get hfb)))) (by walk_at "at")) ?k2
  generalize C % 2 = hb at hhb Z ⊢
  generalize C / 2 % 2 = fb at hfb Z ⊢
  have hgp : ∃ d, d ∈ recsOf T.view ∧ d.name = Str.ofString "_law_spelling" := ⟨dAt 13, by rw [hT.view]; exact m13, n13⟩
  have ex : escP h [x] = gT h x y 0 := by unfold escP; simp [gT, fT]
  have ey : escP h [y] = gT h x y 1 := by unfold escP; simp [gT, fT]
  have nd : (([([x], gT h x y 0), ([y], gT h x y 1)] : List (List Nat × List Nat)).map (·.1)).Nodup := by
    simp; exact K.ne
  refine Ex.cons (Ex1.assign (p := spellD h x y) ?l1 (by walk_at "at")) ?l2
  case l1 =>
    refine Ev.dict (EvD.cons (Ev.name (by walk_at "at")) (Ev.cast (Ev.call (Ev.name (by walk_at "at")) (esc_mem hT hh) (EvL.cons (Ev.name (by walk_at "at")) EvL.nil) (cal_write hT (by decide) hh (by simp))) (congrArg V.str ex)) (EvD.cons (Ev.name (by walk_at "at")) (Ev.cast (Ev.call (Ev.name (by walk_at "at")) (esc_mem hT hh) (EvL.cons (Ev.name (by walk_at "at")) EvL.nil) (cal_write hT (by decide) hh (by simp))) (congrArg V.str ey)) EvD.nil)) nd
  case l2 =>
  have csx : Cal T 8 (Str.ofString "_law_spelling") [.int h, .str [x]] (.str (gT h x y 0)) := cal_spell hT (by decide) hh K.hx
  have csy : Cal T 8 (Str.ofString "_law_spelling") [.int h, .str [y]] (.str (gT h x y 1)) := cal_spell hT (by decide) hh K.hy
  refine Ex.cons (Ex1.skip ?l3) ?l4
  case l3 =>
    refine Tr.cmp (Ev.name (by walk_at "at")) (Ev.dict (q := [([x], gT h x y 0), ([y], gT h x y 1)]) (EvD.cons (Ev.name (by walk_at "at")) (Ev.call (Ev.glob (by walk_at "at")) hgp (EvL.cons (Ev.name (by walk_at "at")) (EvL.cons (Ev.name (by walk_at "at")) EvL.nil)) csx) (EvD.cons (Ev.name (by walk_at "at")) (Ev.call (Ev.glob (by walk_at "at")) hgp (EvL.cons (Ev.name (by walk_at "at")) (EvL.cons (Ev.name (by walk_at "at")) EvL.nil)) csy) EvD.nil)) nd) (Cm2.neD nd)
  case l4 =>
  clear csx csy ex ey hgp hp hq hpq gp gq lx ly hA hC
  subst hwl
  refine Ex.cons (σ1 := s0 .dead .dead .dead .dead (.val (.int h)) (.val (.fn (escName h))) .dead (.val (.str [x])) (.val (.str [y])) (.val (.int (priceT x y))) (.val (.int w.length)) (.val (.str (w.map (fT x y)))) (.val (.str [fT x y hb])) (.val (.str [fT x y fb])) (.val (spellD h x y)) (.own []) .dead .dead)
    (Ex1.weak (Ex1.assign_new (EvN.list EvL.nil) (by walk_at "at")) (by walk_at "wk")) ?m1
  exact law3 hT K Z
end
section
open PySem PySem.W PyProof.Rows
set_option Elab.async false
set_option linter.unusedVariables false
set_option maxRecDepth 100000
set_option maxHeartbeats 4000000
theorem reps_ints {T : TC} {s : Shared} {U : List Addr} : ∀ {vs : List Value} {ns : List Int}, IntsAre vs ns → Reps T s U vs (ns.map .int)
  | _, _, .nil => Reps.nil
  | _, _, .cons n t h => Reps.cons Rep.int_ (reps_ints h)
theorem well_list {P : Params} {h : Heap} {a : Addr} {vs : List Value} {xs : List PyData} (x : Well P h (.ref a) (ofPy (.list xs))) (hl : h.IsList a vs.toArray) : IsL h a vs.toArray 0 := by
  unfold ofPy at x
  cases x with
  | list h1 h2 =>
    obtain ⟨o, k1, k2, n, k3⟩ := hl
    rw [h1] at k1
    cases k1
    cases k3
    exact h1
theorem law_run {T : TC} (hT : IsT T) {A : Around} {s : Shared} {fa a : Addr} {vs : List Value} {ns : List Int} (hA : Ok 9 A) (htop : Keeps T.h₀ s.heap) (hmg : T.mg (Str.ofString "law") = some (.ref fa)) (hl : IsL s.heap a vs.toArray 0) (hi : IntsAre vs ns) (hn : ns.length ≤ 63) :
    wpAny (model T.prog T.w) A (call (.ref fa) [.ref a]) (fun v s' => v = .bool true ∧ Ext s s') (fun _ _ => False) s := by
  have hr : Reps T s [] [.ref a] [.list (ns.map .int)] := Reps.cons (by unfold Rep; exact ⟨a, vs.toArray, 0, rfl, by simp, hl, by simp; omega, reps_ints hi⟩) Reps.nil
  exact wpB (Cal.run (dd := 9) (fLaw hT) (ps := [.list (ns.map .int)]) (q := .bool true) rfl (by decide) (law_top hT ns hn) hA htop (U := []) (by intro b hb; cases hb) (by rw [n17]; exact hmg) hr (.inr ⟨_, rfl, by decide +kernel⟩)) fun v s' ⟨h1, h2⟩ => ⟨rep_bool h1, h2⟩
end
end Mine
open PySem PySem.W PyProof.Rows
set_option Elab.async false
set_option maxRecDepth 100000
set_option maxHeartbeats 8000000
theorem PySem.Challenge.cw_rw0083_01_holds : PySem.Challenge.rw_rw0083_01.Holds := by
  refine hd.turn.symm ▸ ?_
  w_on; o_law; o_head Hook.none; (case hw => w_witness2)
  have hv : PySem.Challenge.cw_rw0083_01_holds.view_39 = hd.view_39 := by kernel_rfl
  intro w s₀ s₁ mg mb G Y fa o pm cd doc dV kV ho hd1 hcd hD hmg hg args vals as hpre hlay hrd hwl hlo
  refine Ground.open G ?_
  intro T B D TE TW
  have T' : Top hd.view_39 (looseW hd.view_39 []) (ExcName.means s₀.heap) mg mb s₁.heap := hv ▸ T
  clear Y ho hd1 hcd hD B D TE TW G T hv
  wrow_args hpre hlay hrd hwl hlo
  refine wpAny_mono (Mine.law_run (T := ⟨_, w, s₁.heap, mg, mb, hd.view_39, looseW hd.view_39 [], ExcName.means s₀.heap, T'⟩) ⟨rfl, rfl⟩ ⟨rfl, by decide, by decide⟩ (Mine.Keeps.refl _) hmg ?zl (by assumption) (by omega)) (fun v s' h => ?_) (fun _ _ h => h.elim)
  case zl => exact Mine.well_list (by assumption) (by assumption)
  obtain ⟨rfl, h2⟩ := h
  refine ⟨.inl ⟨_, .bool true, [], rfl, fun _ => rfl, .bool _, ?zp, fun _ => ⟨.nil, fun _ ha => nomatch ha⟩⟩, .of_keep h2.keep, h2.os, .of_eq (h2.gens.trans hg)⟩
  first | kernel_rfl | wrow_post
