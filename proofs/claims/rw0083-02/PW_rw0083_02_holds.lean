import PyProof.Rows.All
import Wide.All
import OpenK.AllK
import Wide.FinOn
import PySem.Challenge.RW_rw0083_02
open PySem PySem.W PyProof.Rows
set_option Elab.async false
set_option maxRecDepth 100000
set_option maxHeartbeats 8000000
-- the law's text without the lines that but name its files
noncomputable def hd.view_39 : Program := { PySem.Challenge.rw_rw0083_02.prog with main := { PySem.Challenge.rw_rw0083_02.prog.main with body := ([1, 2, 3, 4, 5, 7, 8, 10, 11, 12, 13, 14, 15, 17, 18, 19, 20, 21, 22, 23] : List Nat).filterMap fun i => PySem.Challenge.rw_rw0083_02.prog.main.body[i]? } }
-- the same law, its text's statements named one by one: the head's twins stay small so (some 3 MB of the compiled file)
def hd.s (i : Nat) : Stmt := PySem.Challenge.rw_rw0083_02.prog.main.body.getD i default
def hd.prog : Program := { PySem.Challenge.rw_rw0083_02.prog with main := { PySem.Challenge.rw_rw0083_02.prog.main with body := [hd.s 0, hd.s 1, hd.s 2, hd.s 3, hd.s 4, hd.s 5, hd.s 6, hd.s 7, hd.s 8, hd.s 9, hd.s 10, hd.s 11, hd.s 12, hd.s 13, hd.s 14, hd.s 15, hd.s 16, hd.s 17, hd.s 18, hd.s 19, hd.s 20, hd.s 21, hd.s 22, hd.s 23] } }
def hd.law : OpenLaw := { PySem.Challenge.rw_rw0083_02 with prog := hd.prog }
theorem hd.turn : PySem.Challenge.rw_rw0083_02 = hd.law := by kernel_rfl
set_option compiler.extract_closed false
set_option genSizeOfSpec false
set_option linter.unusedVariables false
set_option linter.unusedSimpArgs false
set_option linter.unusedSectionVars false
namespace Mine
local macro_rules | `(tactic| walk_at "r1") => `(tactic| first | (intros; rfl) | (intro e; cases e) | with_unfolding_all rfl)
local macro_rules | `(tactic| walk_at "sz") => `(tactic| first | decide | (simp; done) | omega)
section
open PySem PySem.W PyProof.Rows
set_option Elab.async false

inductive V where
  | none
  | bool (b : Bool)
  | int (i : Int)
  | str (x : List Nat)
  | strt (x : List Nat)
  | list (l : List V)
  | dict (l : List (List Nat × List Nat))
  | fn (f : Str)
  | raw (v : Value)

noncomputable def S (l : List Nat) : Str := ⟨l.toArray⟩
theorem S_len (l : List Nat) : (S l).length = l.length := by simp [S, Str.length]
theorem S_of (x : Str) : S x.cps.toList = x := by simp [S]
theorem S_cps (l : List Nat) : (S l).cps.toList = l := by simp [S]
theorem S_inj {a b : List Nat} (h : S a = S b) : a = b := by rw [← S_cps a, h, S_cps]

structure TC where
  prog : Program
  w : World
  h₀ : Heap
  mg : Str → Option Value
  mb : Str → Option Value
  view : Program
  loose : List Str
  mean : ExcName → Option Value
  top : Top view loose mean mg mb h₀

noncomputable def Keeps (h h' : Heap) : Prop := ∀ b o, h.get? b = some o → h'.get? b = some o
theorem Keeps.refl (h : Heap) : Keeps h h := fun _ _ e => e
theorem Keeps.trans {a b c : Heap} (x : Keeps a b) (y : Keeps b c) : Keeps a c := fun _ _ e => y _ _ (x _ _ e)
theorem Keeps.push (h : Heap) (o : Obj) : Keeps h (h.push o) := fun _ _ e => Heap.get?_push_of_some o e



mutual
noncomputable def Rep (T : TC) (s : Shared) (U : List Addr) (v : Value) : V → Prop
  | .none => v = .none
  | .bool b => v = .bool b
  | .int i => ∃ t, v = .int i t
  | .str x => ∃ t, v = .str (S x) t ∧ x.length ≤ 1048576
  | .strt x => ∃ t, v = .str (S x) t ∧ x.length ≤ 1048576 ∧ t ≠ 0 ∧ t < s.toks
  | .list ps => ∃ a items n, v = .ref a ∧ a ∉ U ∧ IsL s.heap a items n ∧ ps.length ≤ 1048576 ∧ Reps T s U items.toList ps
  | .dict kvs => ∃ a vs n, v = .ref a ∧ a ∉ U ∧ (a == sysModules) = false ∧ s.heap.DictAt (strKind T.prog T.w) a vs n ∧ vs.length = kvs.length ∧ (∀ (i : Nat) (k : Str) (x : Value), vs[i]? = some (k, x) → ∃ t y, x = Value.str (S y) t ∧ y.length ≤ 1048576 ∧ kvs[i]? = some (k.cps.toList, y))
  | .fn f => ∃ a, v = .ref a ∧ T.mg f = some (.ref a)
  | .raw u => v = u
noncomputable def Reps (T : TC) (s : Shared) (U : List Addr) (vs : List Value) : List V → Prop
  | [] => vs = []
  | p :: ps => ∃ v r, vs = v :: r ∧ Rep T s U v p ∧ Reps T s U r ps
end

mutual
theorem Rep.but {T : TC} {s s' : Shared} {U : List Addr} (k : ∀ a o, a ∉ U → s.heap.get? a = some o → s'.heap.get? a = some o) (kt : s.toks ≤ s'.toks) : ∀ {p : V} {v : Value}, Rep T s U v p → Rep T s' U v p
  | .none, _, x => x
  | .bool _, _, x => x
  | .int _, _, x => x
  | .str _, _, x => x
  | .strt _, _, x => by
    unfold Rep at x ⊢
    obtain ⟨t, h1, h2, h3, h4⟩ := x
    exact ⟨t, h1, h2, h3, Nat.lt_of_lt_of_le h4 kt⟩
  | .fn _, _, x => x
  | .raw _, _, x => x
  | .dict _, _, x => by
    unfold Rep at x ⊢
    obtain ⟨a, vs, n, h1, h2, h6, ⟨o, es, h3, h4⟩, h5⟩ := x
    exact ⟨a, vs, n, h1, h2, h6, ⟨o, es, k _ _ h2 h3, h4⟩, h5⟩
  | .list ps, _, x => by
    unfold Rep at x ⊢
    obtain ⟨a, items, n, h1, h2, h3, h5, h4⟩ := x
    exact ⟨a, items, n, h1, h2, k _ _ h2 h3, h5, Reps.but k kt h4⟩
theorem Reps.but {T : TC} {s s' : Shared} {U : List Addr} (k : ∀ a o, a ∉ U → s.heap.get? a = some o → s'.heap.get? a = some o) (kt : s.toks ≤ s'.toks) : ∀ {ps : List V} {vs : List Value}, Reps T s U vs ps → Reps T s' U vs ps
  | [], _, x => x
  | p :: ps, _, x => by
    unfold Reps at x ⊢
    obtain ⟨v, r, h1, h2, h3⟩ := x
    exact ⟨v, r, h1, Rep.but k kt h2, Reps.but k kt h3⟩
end

mutual
theorem Rep.set {T : TC} {s : Shared} {U U' : List Addr} (k : ∀ a o, s.heap.get? a = some o → a ∉ U → a ∉ U') : ∀ {p : V} {v : Value}, Rep T s U v p → Rep T s U' v p
  | .none, _, x => x
  | .bool _, _, x => x
  | .int _, _, x => x
  | .str _, _, x => x
  | .strt _, _, x => x
  | .fn _, _, x => x
  | .raw _, _, x => x
  | .dict _, _, x => by
    unfold Rep at x ⊢
    obtain ⟨a, vs, n, h1, h2, h6, ⟨o, es, h3, h4⟩, h5⟩ := x
    exact ⟨a, vs, n, h1, k _ _ h3 h2, h6, ⟨o, es, h3, h4⟩, h5⟩
  | .list ps, _, x => by
    unfold Rep at x ⊢
    obtain ⟨a, items, n, h1, h2, h3, h5, h4⟩ := x
    exact ⟨a, items, n, h1, k _ _ h3 h2, h3, h5, Reps.set k h4⟩
theorem Reps.set {T : TC} {s : Shared} {U U' : List Addr} (k : ∀ a o, s.heap.get? a = some o → a ∉ U → a ∉ U') : ∀ {ps : List V} {vs : List Value}, Reps T s U vs ps → Reps T s U' vs ps
  | [], _, x => x
  | p :: ps, _, x => by
    unfold Reps at x ⊢
    obtain ⟨v, r, h1, h2, h3⟩ := x
    exact ⟨v, r, h1, Rep.set k h2, Reps.set k h3⟩
end
theorem Rep.sub {T : TC} {s : Shared} {U U' : List Addr} {p : V} {v : Value} (x : Rep T s U v p) (k : ∀ a, a ∈ U' → a ∈ U) : Rep T s U' v p := Rep.set (fun a _ _ n m => n (k a m)) x
theorem Reps.sub {T : TC} {s : Shared} {U U' : List Addr} {p : List V} {v : List Value} (x : Reps T s U v p) (k : ∀ a, a ∈ U' → a ∈ U) : Reps T s U' v p := Reps.set (fun a _ _ n m => n (k a m)) x

section
variable {T : TC} {s : Shared} {U : List Addr}
theorem Reps.length : ∀ {ps : List V} {vs : List Value}, Reps T s U vs ps → vs.length = ps.length
  | [], _, x => by unfold Reps at x; subst x; rfl
  | p :: ps, _, x => by unfold Reps at x; obtain ⟨v, r, rfl, _, h3⟩ := x; simp [Reps.length h3]
theorem Reps.nil : Reps T s U [] [] := by unfold Reps; rfl
theorem Reps.cons {v : Value} {p : V} {vs : List Value} {ps : List V} (x : Rep T s U v p) (y : Reps T s U vs ps) : Reps T s U (v :: vs) (p :: ps) := by unfold Reps; exact ⟨v, vs, rfl, x, y⟩
theorem Reps.append : ∀ {ps qs : List V} {vs us : List Value}, Reps T s U vs ps → Reps T s U us qs → Reps T s U (vs ++ us) (ps ++ qs)
  | [], _, _, _, x, y => by unfold Reps at x; subst x; exact y
  | p :: ps, _, _, _, x, y => by
    unfold Reps at x; obtain ⟨v, r, rfl, h2, h3⟩ := x
    exact Reps.cons h2 (Reps.append h3 y)
theorem Reps.get : ∀ {ps : List V} {vs : List Value} {i : Nat} {p : V}, Reps T s U vs ps → ps[i]? = some p → ∃ v, vs[i]? = some v ∧ Rep T s U v p
  | [], _, _, _, _, e => by simp at e
  | q :: ps, _, i, p, x, e => by
    unfold Reps at x; obtain ⟨v, r, rfl, h2, h3⟩ := x
    cases i with
    | zero => simp at e; subst e; exact ⟨v, by simp, h2⟩
    | succ i => simp at e; obtain ⟨u, a, b⟩ := Reps.get h3 e; exact ⟨u, by simpa using a, b⟩
theorem Reps.set' : ∀ {ps : List V} {vs : List Value} {v : Value} {p : V} (n : Nat), Reps T s U vs ps → Rep T s U v p → Reps T s U (vs.set n v) (ps.set n p)
  | [], _, _, _, n, x, _ => by unfold Reps at x; subst x; simp [Reps]
  | q :: ps, _, _, _, n, x, y => by
    unfold Reps at x; obtain ⟨v, r, rfl, h2, h3⟩ := x
    cases n with
    | zero => exact Reps.cons y h3
    | succ n => exact Reps.cons h2 (Reps.set' n h3 y)
theorem Rep.str_ {x : List Nat} {t : Tok} (h : x.length ≤ 1048576) : Rep T s U (.str (S x) t) (.str x) := by unfold Rep; exact ⟨t, rfl, h⟩
theorem Rep.int_ {i : Int} {t : Tok} : Rep T s U (.int i t) (.int i) := by unfold Rep; exact ⟨t, rfl⟩
theorem Rep.bool_ {b : Bool} : Rep T s U (.bool b) (.bool b) := by unfold Rep; rfl
theorem Rep.none_ : Rep T s U .none .none := by unfold Rep; rfl
theorem Rep.weak {x : List Nat} {v : Value} (h : Rep T s U v (.strt x)) : Rep T s U v (.str x) := by
  unfold Rep at h ⊢; obtain ⟨t, a, b, _⟩ := h; exact ⟨t, a, b⟩
end

-- a state that has only grown
structure Ext (s s' : Shared) : Prop where
  keep : Keeps s.heap s'.heap
  gens : s'.gens = s.gens
  os : s'.os = s.os
  toks : s.toks ≤ s'.toks
structure Ext0 (s s' : Shared) : Prop where
  keep : Keeps s.heap s'.heap
  gens : s'.gens = s.gens
  os : s'.os = s.os
theorem Ext.refl (s : Shared) : Ext s s := ⟨Keeps.refl _, rfl, rfl, Nat.le_refl _⟩
theorem Ext.trans {a b c : Shared} (x : Ext a b) (y : Ext b c) : Ext a c := ⟨x.keep.trans y.keep, y.gens.trans x.gens, y.os.trans x.os, Nat.le_trans x.toks y.toks⟩
theorem Ext0.trans {a b c : Shared} (x : Ext0 a b) (y : Ext0 b c) : Ext0 a c := ⟨x.keep.trans y.keep, y.gens.trans x.gens, y.os.trans x.os⟩
theorem Ext.zero {a b : Shared} (x : Ext a b) : Ext0 a b := ⟨x.keep, x.gens, x.os⟩
theorem Ext0.toks (s : Shared) (k : Nat) : Ext0 s { s with toks := k } := ⟨Keeps.refl _, rfl, rfl⟩
theorem Ext0.push (s : Shared) (o : Obj) (k : Nat) : Ext0 s { s with heap := s.heap.push o, toks := k } := ⟨Keeps.push _ _, rfl, rfl⟩
theorem Ext0.of {s : Shared} {h : Heap} {k : Nat} (x : Keeps s.heap h) : Ext0 s { s with heap := h, toks := k } := ⟨x, rfl, rfl⟩
theorem Ext.of {s : Shared} {h : Heap} (x : Keeps s.heap h) : Ext s { s with heap := h } := ⟨x, rfl, rfl, Nat.le_refl _⟩
theorem Ext.push' (s : Shared) (o : Obj) : Ext s { s with heap := s.heap.push o } := ⟨Keeps.push _ _, rfl, rfl, Nat.le_refl _⟩
theorem Ext.toks' (s : Shared) : Ext s { s with toks := s.toks + 1 } := ⟨Keeps.refl _, rfl, rfl, Nat.le_succ _⟩
theorem Ext.toksn (s : Shared) (k : Nat) (h : s.toks ≤ k) : Ext s { s with toks := k } := ⟨Keeps.refl _, rfl, rfl, h⟩
noncomputable def Live (s : Shared) (a : Addr) : Prop := ∃ o, s.heap.get? a = some o
theorem Live.ext {s s' : Shared} {a : Addr} (x : Live s a) (e : Ext s s') : Live s' a := let ⟨o, h⟩ := x; ⟨o, e.keep _ _ h⟩
theorem get_size (h : Heap) : h.get? h.objs.size = none := by
  cases e : h.get? h.objs.size with
  | none => rfl
  | some o => exact absurd (Heap.lt_size e) (Nat.lt_irrefl _)
theorem get_ge {h : Heap} {a : Addr} (x : h.objs.size ≤ a) : h.get? a = none := by
  cases e : h.get? a with
  | none => rfl
  | some o => exact absurd (Heap.lt_size e) (Nat.not_lt.mpr x)
theorem new_not {s : Shared} {U : List Addr} (hu : ∀ a ∈ U, Live s a) {a : Addr} (h : s.heap.get? a = none) : a ∉ U := fun m => by
  obtain ⟨o, e⟩ := hu a m; rw [h] at e; cases e

theorem ext_of {α : Type} {M : Model} {A : Around} {t : Sem α} {P : α → Shared → Prop} {E : Value → Shared → Prop} {s : Shared}
    (h : wpAny M A t (fun v s' => s.toks ≤ s'.toks → P v s' ∧ Ext0 s s') E s) : wpAny M A t (fun v s' => P v s' ∧ Ext s s') E s :=
  wpAny_mono (wpAny_toks h) (fun _ _ ⟨a, b⟩ => let ⟨c, d⟩ := b a; ⟨c, d.keep, d.gens, d.os, a⟩) fun _ _ x => x.2

theorem Rep.ext {T : TC} {s s' : Shared} {U : List Addr} {p : V} {v : Value} (x : Rep T s U v p) (e : Ext s s') : Rep T s' U v p := Rep.but (fun a o _ h => e.keep a o h) e.toks x
theorem Reps.ext {T : TC} {s s' : Shared} {U : List Addr} {p : List V} {v : List Value} (x : Reps T s U v p) (e : Ext s s') : Reps T s' U v p := Reps.but (fun a o _ h => e.keep a o h) e.toks x

-- room left: d calls deep
structure Ok (d : Nat) (A : Around) : Prop where
  handled : A.handled = none
  depth : A.depth + d ≤ 900
  units : A.units + 10 * d ≤ 9000
theorem Ok.mono {d d' : Nat} {A : Around} (x : Ok d A) (h : d' ≤ d) : Ok d' A := ⟨x.handled, by have := x.depth; omega, by have := x.units; omega⟩
theorem Ok.zero {d : Nat} {A : Around} (x : Ok d A) : Ok 0 A := x.mono (Nat.zero_le _)
theorem Ok.deeper {d : Nat} {A : Around} {env : Env} (x : Ok (d + 1) A) : Ok d (A.deeper env) := ⟨x.handled, by have := x.depth; simp only [Around.deeper]; omega, by have := x.units; simp only [Around.deeper]; omega⟩

inductive Slot where
  | val (p : V)
  | own (ps : List V)
  | dead

-- the name's place in the table
inductive At : List Str → List Slot → Str → Slot → Prop
  | here {x xs s ss} : At (x :: xs) (s :: ss) x s
  | there {x y xs s t ss} : At xs ss x s → At (y :: xs) (t :: ss) x s
inductive Upd : List Str → List Slot → Str → Slot → List Slot → Prop
  | here {x xs s s' ss} : Upd (x :: xs) (s :: ss) x s' (s' :: ss)
  | there {x y xs s' t ss ss'} : Upd xs ss x s' ss' → Upd (y :: xs) (t :: ss) x s' (t :: ss')
theorem At.mem {N σ x sl} (h : At N σ x sl) : x ∈ N := by
  induction h with
  | here => exact .head _
  | there _ ih => exact .tail _ ih
theorem Upd.mem {N σ x sl σ'} (h : Upd N σ x sl σ') : x ∈ N := by
  induction h with
  | here => exact .head _
  | there _ ih => exact .tail _ ih
theorem Upd.at {N σ x sl σ' y sl'} (h : Upd N σ x sl σ') (hn : N.Nodup) (a : At N σ' y sl') : (y = x ∧ sl' = sl) ∨ (y ≠ x ∧ At N σ y sl') := by
  induction h with
  | here =>
    cases a with
    | here => exact .inl ⟨rfl, rfl⟩
    | there a => exact .inr ⟨fun e => by subst e; exact (List.nodup_cons.mp hn).1 a.mem, .there a⟩
  | there u ih =>
    cases a with
    | here => exact .inr ⟨fun e => by subst e; exact (List.nodup_cons.mp hn).1 u.mem, .here⟩
    | there a =>
      rcases ih (List.nodup_cons.mp hn).2 a with h | ⟨h1, h2⟩
      · exact .inl h
      · exact .inr ⟨h1, .there h2⟩
-- a state that knows less
inductive Weak : List Slot → List Slot → Prop
  | nil : Weak [] []
  | keep {s a b} : Weak a b → Weak (s :: a) (s :: b)
  | drop {s a b} : Weak a b → Weak (s :: a) (.dead :: b)
theorem Weak.at {N σ σ' x sl} (w : Weak σ σ') (a : At N σ' x sl) (hd : sl ≠ .dead) : At N σ x sl := by
  induction w generalizing N with
  | nil => cases a
  | keep w ih =>
    cases a with
    | here => exact .here
    | there a => exact .there (ih a)
  | drop w ih =>
    cases a with
    | here => exact absurd rfl hd
    | there a => exact .there (ih a)
theorem Weak.refl : ∀ σ, Weak σ σ
  | [] => .nil
  | _ :: r => .keep (Weak.refl r)


-- globals: name, value as data
inductive AtG : List (Str × V) → Str → V → Prop
  | here {x p l} : AtG ((x, p) :: l) x p
  | there {x p e l} : AtG l x p → AtG (e :: l) x p

noncomputable def HoldsVar (h : Heap) (env : Env) (x : Str) (v : Value) : Prop :=
  (env.kindOf x = some .local ∧ ∃ m, h.Ns env.locals m ∧ m x = some v) ∨ (env.kindOf x = some .cell ∧ ∃ c, env.cells.lookup x = some c ∧ h.IsCell c (some v))
theorem HoldsVar.keep {h h' : Heap} {env : Env} {x : Str} {v : Value} (y : HoldsVar h env x v) (k : Keeps h h') : HoldsVar h' env x v := by
  rcases y with ⟨a, m, b, c⟩ | ⟨a, m, b, c⟩
  · exact .inl ⟨a, m, b.keeps k, c⟩
  · exact .inr ⟨a, m, b, c.keeps k⟩
theorem HoldsVar.uniq {h : Heap} {env : Env} {x : Str} {v w : Value} (y : HoldsVar h env x v) (z : HoldsVar h env x w) : v = w := by
  rcases y with ⟨a, m, b, c⟩ | ⟨a, m, b, c⟩ <;> rcases z with ⟨a', m', b', c'⟩ | ⟨a', m', b', c'⟩
  · have := b.agree b' x; rw [c, c'] at this; exact Option.some.inj this
  · rw [a] at a'; cases a'
  · rw [a] at a'; cases a'
  · rw [b] at b'; cases b'
    obtain ⟨o, h1, h2⟩ := c; obtain ⟨o', h1', h2'⟩ := c'
    rw [h1] at h1'; cases h1'; rw [h2] at h2'; cases h2'; rfl
noncomputable def HoldsGlob (T : TC) (env : Env) (x : Str) (v : Value) : Prop :=
  env.kindOf x = some .globalImplicit ∧ (T.mg x = some v ∨ (T.mg x = none ∧ T.mb x = some v))

-- a scope: calls left, names' kinds, names told of, globals told of
structure Cx where
  d : Nat
  nm : List (Str × NameKind)
  N : List Str
  G : List (Str × V)

structure Rd (T : TC) (c : Cx) (σ : List Slot) (U : List Addr) (env : Env) (s : Shared) : Prop where
  top : Keeps T.h₀ s.heap
  kind : env.scope.kind = .function
  names : env.scope.names = c.nm
  globals : env.globals = mainGlobals
  builtins : env.builtins = builtinsNs
  var : ∀ x p, At c.N σ x (.val p) → (x == ("__debug__" : Str)) = false ∧ ∃ v, HoldsVar s.heap env x v ∧ Rep T s U v p
  own : ∀ x ps, At c.N σ x (.own ps) → (x == ("__debug__" : Str)) = false ∧ ∃ a items n, HoldsVar s.heap env x (.ref a) ∧ IsL s.heap a items n ∧ ps.length ≤ 1048576 ∧ Reps T s U items.toList ps
  glob : ∀ x p, AtG c.G x p → (x == ("__debug__" : Str)) = false ∧ ∃ v, HoldsGlob T env x v ∧ (∀ s U, Rep T s U v p)
  used : ∀ a ∈ U, Live s a
  tok : 0 < s.toks

theorem Rd.ext {T c σ U env} {s s' : Shared} (R : Rd T c σ U env s) (x : Ext s s') : Rd T c σ U env s' where
  top := R.top.trans x.keep
  kind := R.kind
  names := R.names
  globals := R.globals
  builtins := R.builtins
  var y p a := let ⟨d, v, h1, h2⟩ := R.var y p a; ⟨d, v, h1.keep x.keep, h2.ext x⟩
  own y ps b := let ⟨d, a, items, n, h1, h2, h4, h3⟩ := R.own y ps b; ⟨d, a, items, n, h1.keep x.keep, x.keep _ _ h2, h4, h3.ext x⟩
  glob := R.glob
  used a h := (R.used a h).ext x
  tok := Nat.lt_of_lt_of_le R.tok x.toks

noncomputable def Ev (T : TC) (c : Cx) (σ : List Slot) (e : Expr) (p : V) : Prop :=
  ∀ A env U s, Ok c.d A → Rd T c σ U env s → wpAny (model T.prog T.w) A (eval e env) (fun v s' => Rep T s' U v p ∧ Ext s s') (fun _ _ => False) s
-- a list that is only looked at
noncomputable def Pk (T : TC) (s : Shared) (U : List Addr) (v : Value) (ps : List V) : Prop :=
  ∃ a items n, v = .ref a ∧ IsL s.heap a items n ∧ ps.length ≤ 1048576 ∧ Reps T s U items.toList ps
noncomputable def EvO (T : TC) (c : Cx) (σ : List Slot) (e : Expr) (ps : List V) : Prop :=
  ∀ A env U s, Ok c.d A → Rd T c σ U env s → wpAny (model T.prog T.w) A (eval e env) (fun v s' => Pk T s' U v ps ∧ Ext s s') (fun _ _ => False) s
-- a list made anew, nothing but plain data in it
noncomputable def V.flat : V → Bool
  | .none => true
  | .bool _ => true
  | .int _ => true
  | .str _ => true
  | .strt _ => true
  | _ => false
noncomputable def EvN (T : TC) (c : Cx) (σ : List Slot) (e : Expr) (ps : List V) : Prop :=
  ∀ A env U s, Ok c.d A → Rd T c σ U env s → wpAny (model T.prog T.w) A (eval e env)
    (fun v s' => (∃ a items n, v = .ref a ∧ s.heap.get? a = none ∧ IsL s'.heap a items n ∧ ps.length ≤ 1048576 ∧ ps.all V.flat = true ∧ Reps T s' U items.toList ps) ∧ Ext s s') (fun _ _ => False) s
noncomputable def Tr (T : TC) (c : Cx) (σ : List Slot) (e : Expr) (b : Bool) : Prop :=
  ∀ A env U s, Ok c.d A → Rd T c σ U env s → wpAny (model T.prog T.w) A (isTrue e env (eval e env)) (fun r s' => r = b ∧ Ext s s') (fun _ _ => False) s
theorem Rep.flat {T : TC} {s s' : Shared} {U U' : List Addr} {v : Value} {p : V} (h : Rep T s U v p) (hp : p.flat = true) (ht : s.toks ≤ s'.toks) : Rep T s' U' v p := by
  cases p <;> first | exact h | (cases hp; done) | skip
  unfold Rep at h ⊢
  obtain ⟨t, h1, h2, h3, h4⟩ := h
  exact ⟨t, h1, h2, h3, Nat.lt_of_lt_of_le h4 ht⟩
theorem Reps.flat {T : TC} {s s' : Shared} {U U' : List Addr} : ∀ {ps : List V} {vs : List Value}, Reps T s U vs ps → ps.all V.flat = true → s.toks ≤ s'.toks → Reps T s' U' vs ps
  | [], _, h, _, _ => h
  | p :: ps, _, h, hp, ht => by
    unfold Reps at h; obtain ⟨v, r, rfl, h2, h3⟩ := h
    rw [List.all_cons, Bool.and_eq_true] at hp
    exact Reps.cons (h2.flat hp.1 ht) (Reps.flat h3 hp.2 ht)

-- what an operation wants of a state
structure Su (T : TC) (U : List Addr) (s : Shared) : Prop where
  top : Keeps T.h₀ s.heap
  used : ∀ a ∈ U, Live s a
  tok : 0 < s.toks
theorem Rd.su {T c σ U env s} (R : Rd T c σ U env s) : Su T U s := ⟨R.top, R.used, R.tok⟩
noncomputable def Op2 (T : TC) (op : Operator) (pa pb p : V) : Prop :=
  ∀ A U s va vb, Ok 0 A → Su T U s → Rep T s U va pa → Rep T s U vb pb → wpAny (model T.prog T.w) A (binaryOp op va vb) (fun v s' => Rep T s' U v p ∧ Ext s s') (fun _ _ => False) s
noncomputable def Cm2 (T : TC) (op : CmpOp) (pa pb : V) (b : Bool) : Prop :=
  ∀ A U s va vb, Ok 0 A → Su T U s → Rep T s U va pa → Rep T s U vb pb → wpAny (model T.prog T.w) A (compareOp op va vb) (fun v s' => v = .bool b ∧ Ext s s') (fun _ _ => False) s
noncomputable def Tv (T : TC) (p : V) (b : Bool) : Prop :=
  ∀ A U s v, Ok 0 A → Su T U s → Rep T s U v p → wpAny (model T.prog T.w) A (truthy v) (fun r s' => r = b ∧ Ext s s') (fun _ _ => False) s
-- a call of a value told of
noncomputable def Cal (T : TC) (d : Nat) (f : Str) (ps : List V) (p : V) : Prop :=
  ∀ A U s a args, Ok d A → Su T U s → T.mg f = some (.ref a) → Reps T s U args ps → wpAny (model T.prog T.w) A (call (.ref a) args) (fun v s' => Rep T s' U v p ∧ Ext s s') (fun _ _ => False) s
noncomputable def Bcl (T : TC) (id : String) (ps : List V) (p : V) : Prop :=
  ∀ A U s args, Ok 0 A → Su T U s → Reps T s U args ps → wpAny (model T.prog T.w) A (call (.builtin id) args) (fun v s' => Rep T s' U v p ∧ Ext s s') (fun _ _ => False) s
end
section
open PySem PySem.W PyProof.Rows
set_option Elab.async false
variable {T : TC} {c : Cx} {σ : List Slot}

theorem wpB {α : Type} {M : Model} {A : Around} {E : Value → Shared → Prop} {s : Shared} {t : Sem α} {P Q : α → Shared → Prop} (h : wpAny M A t P E s) (k : ∀ a s', P a s' → Q a s') : wpAny M A t Q E s := wpAny_mono h k fun _ _ x => x

theorem Ev.int {i : Int} {k pos} : Ev T c σ (.Constant (.int i) k pos) (.int i) :=
  fun _ _ _ s _ _ => wpAny_Constant_int ⟨Rep.int_, Ext.toks' s⟩
theorem Ev.str {x : Str} {l : List Nat} {k pos} (e : x = S l) (h : l.length ≤ 1048576) : Ev T c σ (.Constant (.str x) k pos) (.str l) :=
  fun _ _ _ s _ _ => wpAny_Constant_str ⟨by subst e; exact Rep.str_ h, Ext.toks' s⟩
theorem Ev.none {k pos} : Ev T c σ (.Constant .none k pos) .none := fun _ _ _ s _ _ => wpAny_Constant_none ⟨Rep.none_, Ext.refl s⟩
theorem Ev.bool {b : Bool} {k pos} : Ev T c σ (.Constant (.bool b) k pos) (.bool b) := fun _ _ _ s _ _ => wpAny_Constant_bool ⟨Rep.bool_, Ext.refl s⟩

theorem load_var {A : Around} {E : Value → Shared → Prop} {M : Model} {s : Shared} {env : Env} {x : Str} {v : Value} {Q : Value → Shared → Prop} (hk : env.scope.kind = .function) (h : HoldsVar s.heap env x v) (q : Q v s) : wpAny M A (loadName env x) Q E s := by
  rcases h with ⟨a, m, b, d⟩ | ⟨a, m, b, d⟩
  · exact wpAny_loadName_local hk a b d q
  · exact wpAny_loadName_cell hk a b d q
theorem load_glob {A : Around} {E : Value → Shared → Prop} {M : Model} {s : Shared} {env : Env} {x : Str} {v : Value} {Q : Value → Shared → Prop} (hk : env.scope.kind = .function) (hg : env.globals = mainGlobals) (hb : env.builtins = builtinsNs)
    (ht : Keeps T.h₀ s.heap) (h : HoldsGlob T env x v) (q : Q v s) : wpAny M A (loadName env x) Q E s := by
  obtain ⟨a, b⟩ := h
  unfold loadName
  simp only [Env.blockKind, hk, a, ScopeKind.isAnnotationScope, Bool.false_and, Bool.false_eq_true, if_false]
  unfold loadGlobal
  rw [hg, hb]
  refine wpAny_bind (wpAny_nsGet (T.top.g.keeps ht) ?_)
  rcases b with b | ⟨b, d⟩
  · rw [b]; exact wpAny_pure q
  · rw [b]
    refine wpAny_bind (wpAny_nsGet (T.top.b.keeps ht) ?_)
    rw [d]; exact wpAny_pure q

theorem Ev.name {x pos p} (h : At c.N σ x (.val p)) : Ev T c σ (.Name x pos) p := fun _ _ _ s _ R =>
  let ⟨d, _, h1, h2⟩ := R.var x p h
  wpAny_Name (load_var R.kind h1 ⟨h2, Ext.refl s⟩) d
theorem Ev.glob {x pos p} (h : AtG c.G x p) : Ev T c σ (.Name x pos) p := fun _ _ U s _ R =>
  let ⟨d, _, h1, h2⟩ := R.glob x p h
  wpAny_Name (load_glob R.kind R.globals R.builtins R.top h1 ⟨h2 s U, Ext.refl s⟩) d

theorem Ev.bin {l op r pos pa pb p} (h1 : Ev T c σ l pa) (h2 : Ev T c σ r pb) (h3 : Op2 T op pa pb p) : Ev T c σ (.BinOp l op r pos) p := fun A env U s O R =>
  wpAny_BinOp (wpB (h1 A env U s O R) fun va s1 ⟨a1, e1⟩ => wpB (h2 A env U s1 O (R.ext e1)) fun vb s2 ⟨a2, e2⟩ =>
    wpB (h3 A U s2 va vb O.zero ((R.ext e1).ext e2).su (a1.ext e2) a2) fun _ _ ⟨a3, e3⟩ => ⟨a3, (e1.trans e2).trans e3⟩)
theorem Ev.cmp {l op r pos pa pb b} (h1 : Ev T c σ l pa) (h2 : Ev T c σ r pb) (h3 : Cm2 T op pa pb b) (hm : behindInMarks op r = false := by walk_at "r1") : Ev T c σ (.Compare l [op] [r] pos) (.bool b) := fun A env U s O R =>
  wpAny_Compare1 (wpB (h1 A env U s O R) fun va s1 ⟨a1, e1⟩ => wpB (h2 A env U s1 O (R.ext e1)) fun vb s2 ⟨a2, e2⟩ =>
    wpB (h3 A U s2 va vb O.zero ((R.ext e1).ext e2).su (a1.ext e2) a2) fun _ _ ⟨a3, e3⟩ => ⟨by subst a3; exact Rep.bool_, (e1.trans e2).trans e3⟩) hm
theorem Tr.cmp {l op r pos pa pb b} (h1 : Ev T c σ l pa) (h2 : Ev T c σ r pb) (h3 : Cm2 T op pa pb b) (hm : behindInMarks op r = false := by walk_at "r1") : Tr T c σ (.Compare l [op] [r] pos) b := fun A env U s O R =>
  wpAny_isTrue_Compare1 (wpB (h1 A env U s O R) fun va s1 ⟨a1, e1⟩ => wpB (h2 A env U s1 O (R.ext e1)) fun vb s2 ⟨a2, e2⟩ =>
    wpB (h3 A U s2 va vb O.zero ((R.ext e1).ext e2).su (a1.ext e2) a2) fun _ _ ⟨a3, e3⟩ => by subst a3; exact wpAny_truthy_bool ⟨rfl, (e1.trans e2).trans e3⟩) hm
theorem Tr.val {e p b} (h1 : Ev T c σ e p) (h2 : Tv T p b) (he : ∀ env whole, isTrue e env whole = (do let v ← whole; standAt e.pos; holding [v] (truthy v)) := by walk_at "r1") : Tr T c σ e b := fun A env U s O R =>
  wpAny_isTrue_value (wpB (h1 A env U s O R) fun v s1 ⟨a1, e1⟩ => wpB (h2 A U s1 v O.zero (R.ext e1).su a1) fun _ _ ⟨a2, e2⟩ => ⟨a2, e1.trans e2⟩) (he env _)
theorem Tr.not {x pos b} (h : Tr T c σ x b) : Tr T c σ (.UnaryOp .Not x pos) (!b) := fun A env U s O R =>
  wpAny_isTrue_Not (wpB (h A env U s O R) fun _ _ ⟨a, e⟩ => ⟨by rw [a], e⟩)

noncomputable def TrL (T : TC) (c : Cx) (σ : List Slot) (op : BoolOp) (es : List Expr) (b : Bool) : Prop :=
  ∀ A env U s, Ok c.d A → Rd T c σ U env s → wpAny (model T.prog T.w) A (allTrue op es env) (fun r s' => r = b ∧ Ext s s') (fun _ _ => False) s
theorem TrL.and_nil : TrL T c σ .And [] true := fun _ _ _ s _ _ => wpAny_allTrue_And_nil ⟨rfl, Ext.refl s⟩
theorem TrL.or_nil : TrL T c σ .Or [] false := fun _ _ _ s _ _ => wpAny_allTrue_Or_nil ⟨rfl, Ext.refl s⟩
theorem TrL.and_cons {x rest a b} (h1 : Tr T c σ x a) (h2 : a = true → TrL T c σ .And rest b) : TrL T c σ .And (x :: rest) (a && b) := fun A env U s O R =>
  wpAny_allTrue_And_cons (wpB (h1 A env U s O R) fun r s1 ⟨a1, e1⟩ => by
    subst a1
    cases r with
    | true => rw [if_pos rfl]; exact wpB (h2 rfl A env U s1 O (R.ext e1)) fun _ _ ⟨a2, e2⟩ => ⟨by simpa using a2, e1.trans e2⟩
    | false => rw [if_neg (by decide)]; exact ⟨rfl, e1⟩)
theorem TrL.or_cons {x rest a b} (h1 : Tr T c σ x a) (h2 : a = false → TrL T c σ .Or rest b) : TrL T c σ .Or (x :: rest) (a || b) := fun A env U s O R =>
  wpAny_allTrue_Or_cons (wpB (h1 A env U s O R) fun r s1 ⟨a1, e1⟩ => by
    subst a1
    cases r with
    | false => rw [if_neg (by decide)]; exact wpB (h2 rfl A env U s1 O (R.ext e1)) fun _ _ ⟨a2, e2⟩ => ⟨by simpa using a2, e1.trans e2⟩
    | true => rw [if_pos rfl]; exact ⟨rfl, e1⟩)
theorem Tr.boolop {op es pos b} (h : TrL T c σ op es b) : Tr T c σ (.BoolOp op es pos) b := fun A env U s O R => wpAny_isTrue_BoolOp (h A env U s O R)

theorem Ev.ifexp {test body orelse pos b p q} (h1 : Tr T c σ test b) (h2 : b = true → Ev T c σ body p) (h3 : b = false → Ev T c σ orelse q) : Ev T c σ (.IfExp test body orelse pos) (if b then p else q) := fun A env U s O R =>
  wpAny_IfExp (wpB (h1 A env U s O R) fun r s1 ⟨a1, e1⟩ => by
    subst a1
    cases r with
    | true => rw [if_pos rfl, if_pos rfl]; exact wpB (h2 rfl A env U s1 O (R.ext e1)) fun _ _ ⟨a2, e2⟩ => ⟨a2, e1.trans e2⟩
    | false => rw [if_neg (by decide), if_neg (by decide)]; exact wpB (h3 rfl A env U s1 O (R.ext e1)) fun _ _ ⟨a2, e2⟩ => ⟨a2, e1.trans e2⟩)
-- one value for both arms
theorem Ev.ifexp' {test body orelse pos b p} (h1 : Tr T c σ test b) (h2 : b = true → Ev T c σ body p) (h3 : b = false → Ev T c σ orelse p) : Ev T c σ (.IfExp test body orelse pos) p := by
  have := Ev.ifexp (pos := pos) h1 h2 h3
  cases b <;> exact this

theorem Ev.cast {e p q} (h : Ev T c σ e p) (k : p = q) : Ev T c σ e q := k ▸ h
theorem Tr.cast {e b d} (h : Tr T c σ e b) (k : b = d) : Tr T c σ e d := k ▸ h

-- a or b, a and b as values (two operands)
theorem Ev.or2 {x y pos p q b} (h1 : Ev T c σ x p) (h2 : Tv T p b) (h3 : b = false → Ev T c σ y q) : Ev T c σ (.BoolOp .Or [x, y] pos) (if b then p else q) := fun A env U s O R => by
  show wpAny _ A (do let v ← eval x env; standAt pos; let t ← holding [v] (truthy v); match BoolOp.Or, t with | .And, false | .Or, true => pure v | _, _ => boolOp pos .Or [eval y env]) _ _ s
  refine wpAny_bind (wpB (h1 A env U s O R) fun v s1 ⟨a1, e1⟩ => wpAny_bind (wpAny_standAt (wpAny_bind (wpAny_holding (wpB (h2 A U s1 v O.zero (R.ext e1).su a1) fun t s2 ⟨a2, e2⟩ => ?_)))))
  subst a2
  cases t with
  | true => exact wpAny_pure ⟨a1.ext e2, e1.trans e2⟩
  | false =>
    show wpAny _ A (eval y env) _ _ s2
    exact wpB (h3 rfl A env U s2 O ((R.ext e1).ext e2)) fun _ _ ⟨a3, e3⟩ => ⟨a3, (e1.trans e2).trans e3⟩
theorem Ev.and2 {x y pos p q b} (h1 : Ev T c σ x p) (h2 : Tv T p b) (h3 : b = true → Ev T c σ y q) : Ev T c σ (.BoolOp .And [x, y] pos) (if b then q else p) := fun A env U s O R => by
  show wpAny _ A (do let v ← eval x env; standAt pos; let t ← holding [v] (truthy v); match BoolOp.And, t with | .And, false | .Or, true => pure v | _, _ => boolOp pos .And [eval y env]) _ _ s
  refine wpAny_bind (wpB (h1 A env U s O R) fun v s1 ⟨a1, e1⟩ => wpAny_bind (wpAny_standAt (wpAny_bind (wpAny_holding (wpB (h2 A U s1 v O.zero (R.ext e1).su a1) fun t s2 ⟨a2, e2⟩ => ?_)))))
  subst a2
  cases t with
  | false => exact wpAny_pure ⟨a1.ext e2, e1.trans e2⟩
  | true =>
    show wpAny _ A (eval y env) _ _ s2
    exact wpB (h3 rfl A env U s2 O ((R.ext e1).ext e2)) fun _ _ ⟨a3, e3⟩ => ⟨a3, (e1.trans e2).trans e3⟩

-- operations
theorem Op2.add {a b : Int} : Op2 T .Add (.int a) (.int b) (.int (a + b)) := by
  intro A U s va vb O S x y
  unfold Rep at x y; obtain ⟨t, rfl⟩ := x; obtain ⟨u, rfl⟩ := y
  exact P.add_int ⟨Rep.int_, Ext.toks' s⟩
theorem Op2.sub {a b : Int} : Op2 T .Sub (.int a) (.int b) (.int (a - b)) := by
  intro A U s va vb O S x y
  unfold Rep at x y; obtain ⟨t, rfl⟩ := x; obtain ⟨u, rfl⟩ := y
  exact P.sub_int ⟨Rep.int_, Ext.toks' s⟩
theorem Op2.mul {a b : Int} (hm : IntMulOk a b) : Op2 T .Mult (.int a) (.int b) (.int (a * b)) := by
  intro A U s va vb O S x y
  unfold Rep at x y; obtain ⟨t, rfl⟩ := x; obtain ⟨u, rfl⟩ := y
  exact P.mul_int ⟨Rep.int_, Ext.toks' s⟩ hm
theorem Op2.mod {a b : Int} (hb : b ≠ 0) : Op2 T .Mod (.int a) (.int b) (.int (a.fmod b)) := by
  intro A U s va vb O S x y
  unfold Rep at x y; obtain ⟨t, rfl⟩ := x; obtain ⟨u, rfl⟩ := y
  exact mod_int' hb ⟨Rep.int_, Ext.toks' s⟩
theorem Op2.div {a b : Int} (hb : b ≠ 0) (hp : Builtin.divisionGoesByPylong a b = false) : Op2 T .FloorDiv (.int a) (.int b) (.int (a.fdiv b)) := by
  intro A U s va vb O S x y
  unfold Rep at x y; obtain ⟨t, rfl⟩ := x; obtain ⟨u, rfl⟩ := y
  exact floordiv_int hb ⟨Rep.int_, Ext.toks' s⟩ (.inl hp)
theorem Op2.pow {a n : Int} (hn : 0 ≤ n) (hn2 : n ≤ 1000000) (ha : a.natAbs < 2 ^ 64) : Op2 T .Pow (.int a) (.int n) (.int (a ^ n.toNat)) := by
  intro A U s va vb O S x y
  unfold Rep at x y; obtain ⟨t, rfl⟩ := x; obtain ⟨u, rfl⟩ := y
  exact pow_int_small hn hn2 ha ⟨Rep.int_, Ext.toks' s⟩
theorem S_append (x y : List Nat) : S x ++ S y = S (x ++ y) := by
  apply Str.ext'; rw [Str.cps_append]; simp [S]
theorem S_beq (x y : List Nat) : (S x == S y) = (x == y) := by
  by_cases h : x = y
  · subst h; simp
  · rw [beq_false_of_ne h, beq_false_of_ne (fun e => h (S_inj e))]
theorem S_bne (x y : List Nat) : (S x != S y) = (x != y) := by simp only [bne, S_beq]
theorem Op2.cat {x y : List Nat} (h : x.length + y.length ≤ 1048576) : Op2 T .Add (.str x) (.str y) (.str (x ++ y)) := by
  intro A U s va vb O S a b
  unfold Rep at a b; obtain ⟨t, rfl, _⟩ := a; obtain ⟨u, rfl, _⟩ := b
  refine ext_of (SB.add (fun t' k _ => ⟨by rw [S_append]; exact Rep.str_ (by rw [List.length_append]; exact h), Ext0.toks s k⟩) (by have : (2:Nat)^24 = sizeLine := rfl; rw [S_len, S_len]; omega))
theorem Cm2.eq {a b : Int} : Cm2 T .Eq (.int a) (.int b) (a == b) := by
  intro A U s va vb O S x y
  unfold Rep at x y; obtain ⟨t, rfl⟩ := x; obtain ⟨u, rfl⟩ := y
  exact P.eq_int ⟨rfl, Ext.refl s⟩
theorem Cm2.ne {a b : Int} : Cm2 T .NotEq (.int a) (.int b) (a != b) := by
  intro A U s va vb O S x y
  unfold Rep at x y; obtain ⟨t, rfl⟩ := x; obtain ⟨u, rfl⟩ := y
  exact P.ne_int ⟨rfl, Ext.refl s⟩
theorem Cm2.lt {a b : Int} : Cm2 T .Lt (.int a) (.int b) (decide (a < b)) := by
  intro A U s va vb O S x y
  unfold Rep at x y; obtain ⟨t, rfl⟩ := x; obtain ⟨u, rfl⟩ := y
  exact P.lt_int ⟨rfl, Ext.refl s⟩
theorem Cm2.gt {a b : Int} : Cm2 T .Gt (.int a) (.int b) (decide (b < a)) := by
  intro A U s va vb O S x y
  unfold Rep at x y; obtain ⟨t, rfl⟩ := x; obtain ⟨u, rfl⟩ := y
  exact P.gt_int ⟨rfl, Ext.refl s⟩
theorem Cm2.ge {a b : Int} : Cm2 T .GtE (.int a) (.int b) (decide (b ≤ a)) := by
  intro A U s va vb O S x y
  unfold Rep at x y; obtain ⟨t, rfl⟩ := x; obtain ⟨u, rfl⟩ := y
  exact P.ge_int ⟨rfl, Ext.refl s⟩
theorem Cm2.eqs {x y : List Nat} : Cm2 T .Eq (.str x) (.str y) (x == y) := by
  intro A U s va vb O S a b
  unfold Rep at a b; obtain ⟨t, rfl, _⟩ := a; obtain ⟨u, rfl, _⟩ := b
  exact PyProof.Rows.eq_str ⟨by rw [S_beq], Ext.refl s⟩
theorem Cm2.nes {x y : List Nat} : Cm2 T .NotEq (.str x) (.str y) (x != y) := by
  intro A U s va vb O S a b
  unfold Rep at a b; obtain ⟨t, rfl, _⟩ := a; obtain ⟨u, rfl, _⟩ := b
  exact PyProof.Rows.ne_str ⟨by rw [S_bne], Ext.refl s⟩

theorem Tv.bool {b : Bool} : Tv T (.bool b) b := by
  intro A U s v O S x; unfold Rep at x; subst x; exact wpAny_truthy_bool ⟨rfl, Ext.refl s⟩
theorem Tv.int {a : Int} : Tv T (.int a) (a != 0) := by
  intro A U s v O S x; unfold Rep at x; obtain ⟨t, rfl⟩ := x; exact P.truthy_int ⟨rfl, Ext.refl s⟩
theorem Tv.str {x : List Nat} : Tv T (.str x) (!x.isEmpty) := by
  intro A U s v O S' a; unfold Rep at a; obtain ⟨t, rfl, h⟩ := a
  refine P.truthy_str (by rw [S_len]; omega) ⟨?_, Ext.toksn s _ (by omega)⟩
  rw [S_len]
  cases x with
  | nil => rfl
  | cons a l => simp only [bne, List.length_cons, List.isEmpty_cons]; simp; omega
end
section
open PySem PySem.W PyProof.Rows
set_option Elab.async false
variable {T : TC} {c : Cx} {σ : List Slot}

-- several values, in order
noncomputable def EvL (T : TC) (c : Cx) (σ : List Slot) (es : List Expr) (ps : List V) : Prop :=
  ∀ A env U s, Ok c.d A → Rd T c σ U env s → wpAny (model T.prog T.w) A (spliced (es.map fun e => (false, eval e env))) (fun vs s' => Reps T s' U vs ps ∧ Ext s s') (fun _ _ => False) s
theorem EvL.nil : EvL T c σ [] [] := fun _ _ _ s _ _ => Calls.spliced_nil ⟨Reps.nil, Ext.refl s⟩
theorem EvL.cons {e es p ps} (h1 : Ev T c σ e p) (h2 : EvL T c σ es ps) : EvL T c σ (e :: es) (p :: ps) := fun A env U s O R =>
  Calls.spliced_cons (wpB (h1 A env U s O R) fun v s1 ⟨a1, e1⟩ => wpB (h2 A env U s1 O (R.ext e1)) fun vs s2 ⟨a2, e2⟩ => ⟨Reps.cons (a1.ext e2) a2, e1.trans e2⟩)

theorem top_func {T : TC} {f : Str} {a : Addr} (hf : ∃ d, d ∈ recsOf T.view ∧ d.name = f) (h : T.mg f = some (.ref a)) : ∃ o fd, T.h₀.get? a = some o ∧ o.data = .func fd := by
  obtain ⟨d, hd, rfl⟩ := hf
  obtain ⟨a', o, pm, code, doc, h1, h2, h3, _⟩ := T.top.fn d hd
  rw [h] at h1; cases h1
  exact ⟨o, _, h2, h3⟩

theorem evalArgs_some {M : Model} {A : Around} {E : Value → Shared → Prop} {s : Shared} {f : Value} {l : List (Bool × Sem Value)} {Q : Args → Shared → Prop} (hl : ∀ x ∈ l, x.1 = false) (hne : l ≠ [])
    (h : wpAny M A (spliced l) (fun vs s' => Q ⟨vs, []⟩ s') E s) : wpAny M A (evalArgs f true l []) Q E s := by
  cases l with
  | nil => exact absurd rfl hne
  | cons x r =>
    obtain ⟨b, t⟩ := x
    have : b = false := hl (b, t) (.head _)
    subst this
    exact Calls.evalArgs_plain h

theorem any_false {es : List Expr} {env : Env} : (es.map fun e => (false, eval e env)).any (·.1) = false := by
  induction es with
  | nil => rfl
  | cons e es ih => simp

theorem map_ne {es : List Expr} {env : Env} (h : es ≠ []) : (es.map fun e => (false, eval e env)) ≠ [] := by
  cases es with
  | nil => exact absurd rfl h
  | cons e es => simp

theorem Ev.call {f p args pos g ps q} (hf : Ev T c σ (.Name f p) (.fn g)) (hg : ∃ d, d ∈ recsOf T.view ∧ d.name = g) (ha : EvL T c σ args ps) (hc : Cal T c.d g ps q)
    (hs : ∀ env, backTo pos (starEach args env) = args.map fun e => (false, eval e env) := by walk_at "r1") (hne : args ≠ [] := by walk_at "r1") : Ev T c σ (.Call (.Name f p) args [] pos) q := fun A env U s O R => by
  show wpAny _ A (do callWith pos (← eval (.Name f p) env) [] (backTo pos (starEach args env)) (backToKw pos (keywordEach [] env))) _ _ s
  refine wpAny_bind (wpB (hf A env U s O R) fun v s1 ⟨a1, e1⟩ => ?_)
  unfold Rep at a1
  obtain ⟨a, rfl, hm⟩ := a1
  obtain ⟨o, fd, ho, hd⟩ := top_func hg hm
  have R1 := R.ext e1
  rw [hs]
  refine Calls.callWith_function (o := o) (fd := fd) (evalArgs_some (by intro x hx; obtain ⟨_, _, rfl⟩ := List.mem_map.mp hx; rfl) (map_ne hne) (wpB (ha A env U s1 O R1) fun vs s2 ⟨a2, e2⟩ => ?_))
  exact ⟨⟨(R1.ext e2).top _ _ ho, hd⟩, wpB (hc A U s2 a vs O (R1.ext e2).su hm a2) fun v s3 ⟨a3, e3⟩ => ⟨a3, (e1.trans e2).trans e3⟩⟩

theorem Ev.callb {f p args pos id ps q} (hf : Ev T c σ (.Name f p) (.raw (.builtin id))) (ha : EvL T c σ args ps) (hc : Bcl T id ps q)
    (hs : ∀ env, backTo pos (starEach args env) = args.map fun e => (false, eval e env) := by walk_at "r1") (hne : args ≠ [] := by walk_at "r1") : Ev T c σ (.Call (.Name f p) args [] pos) q := fun A env U s O R => by
  show wpAny _ A (do callWith pos (← eval (.Name f p) env) [] (backTo pos (starEach args env)) (backToKw pos (keywordEach [] env))) _ _ s
  refine wpAny_bind (wpB (hf A env U s O R) fun v s1 ⟨a1, e1⟩ => ?_)
  unfold Rep at a1
  subst a1
  rw [hs]
  exact Calls.callWith_builtin any_false (evalArgs_some (by intro x hx; obtain ⟨_, _, rfl⟩ := List.mem_map.mp hx; rfl) (map_ne hne) (wpB (ha A env U s1 O (R.ext e1)) fun vs s2 ⟨a2, e2⟩ =>
    wpB (hc A U s2 vs O.zero ((R.ext e1).ext e2).su a2) fun v s3 ⟨a3, e3⟩ => ⟨a3, (e1.trans e2).trans e3⟩))

-- the same upon a list that is only looked at (one argument)
noncomputable def Bco (T : TC) (id : String) (ps : List V) (p : V) : Prop :=
  ∀ A U s v, Ok 0 A → Su T U s → Pk T s U v ps → wpAny (model T.prog T.w) A (call (.builtin id) [v]) (fun v s' => Rep T s' U v p ∧ Ext s s') (fun _ _ => False) s
theorem Ev.callo {f p arg pos id ps q} (hf : Ev T c σ (.Name f p) (.raw (.builtin id))) (ha : EvO T c σ arg ps) (hc : Bco T id ps q)
    (hs : ∀ env, backTo pos (starEach [arg] env) = [(false, eval arg env)] := by walk_at "r1") : Ev T c σ (.Call (.Name f p) [arg] [] pos) q := fun A env U s O R => by
  show wpAny _ A (do callWith pos (← eval (.Name f p) env) [] (backTo pos (starEach [arg] env)) (backToKw pos (keywordEach [] env))) _ _ s
  refine wpAny_bind (wpB (hf A env U s O R) fun v s1 ⟨a1, e1⟩ => ?_)
  unfold Rep at a1
  subst a1
  rw [hs]
  exact Calls.callWith_builtin rfl (Calls.evalArgs_plain (Calls.spliced_cons (wpB (ha A env U s1 O (R.ext e1)) fun vs s2 ⟨a2, e2⟩ => Calls.spliced_nil (
    wpB (hc A U s2 vs O.zero ((R.ext e1).ext e2).su a2) fun v s3 ⟨a3, e3⟩ => ⟨a3, (e1.trans e2).trans e3⟩))))

theorem Pk.ext {s s' : Shared} {U v ps} (h : Pk T s U v ps) (e : Ext s s') : Pk T s' U v ps := let ⟨a, it, n, h1, h2, h4, h3⟩ := h; ⟨a, it, n, h1, e.keep _ _ h2, h4, h3.ext e⟩
theorem Rep.pk {s U v ps} (h : Rep T s U v (.list ps)) : Pk T s U v ps := by
  unfold Rep at h; obtain ⟨a, it, n, h1, _, h2, h4, h3⟩ := h; exact ⟨a, it, n, h1, h2, h4, h3⟩
theorem EvO.of {e ps} (h : Ev T c σ e (.list ps)) : EvO T c σ e ps := fun A env U s O R => wpB (h A env U s O R) fun _ _ ⟨a, e⟩ => ⟨a.pk, e⟩
theorem EvO.name {x pos ps} (h : At c.N σ x (.own ps)) : EvO T c σ (.Name x pos) ps := fun _ _ _ s _ R =>
  let ⟨d, a, it, n, h1, h2, h4, h3⟩ := R.own x ps h
  wpAny_Name (load_var R.kind h1 ⟨⟨a, it, n, rfl, h2, h4, h3⟩, Ext.refl s⟩) d
-- list displays
theorem spl {es : List Expr} {env : Env} {pos : Pos} (hs : backTo pos (starEach es env) = es.map fun e => (false, eval e env)) {M : Model} {A : Around} {E : Value → Shared → Prop} {s : Shared} {Q : List Value → Shared → Prop}
    (h : wpAny M A (spliced (es.map fun e => (false, eval e env))) Q E s) : wpAny M A (spliced (backTo pos (starEach es env))) Q E s := by rw [hs]; exact h
theorem Ev.list {es pos ps} (ha : EvL T c σ es ps) (hl : ps.length ≤ 1048576 := by walk_at "sz") (hs : ∀ env, backTo pos (starEach es env) = es.map fun e => (false, eval e env) := by walk_at "r1") : Ev T c σ (.List es pos) (.list ps) := fun A env U s O R =>
  wpAny_List (spl (hs env) (wpB (ha A env U s O R) fun vs s1 ⟨a1, e1⟩ => by
    have hL := a1.length
    refine ⟨by have : (2:Nat)^24 = sizeLine := rfl; omega, ?_, e1.trans (Ext.push' _ _)⟩
    unfold Rep
    exact ⟨_, _, 0, rfl, new_not (R.ext e1).used (get_size _), Heap.get?_push_size _ rfl, hl, a1.ext (Ext.push' _ _)⟩))
theorem EvN.list {es pos ps} (ha : EvL T c σ es ps) (hp : ps.all V.flat = true := by rfl) (hl : ps.length ≤ 1048576 := by walk_at "sz") (hs : ∀ env, backTo pos (starEach es env) = es.map fun e => (false, eval e env) := by walk_at "r1") : EvN T c σ (.List es pos) ps := fun A env U s O R =>
  wpAny_List (spl (hs env) (wpB (ha A env U s O R) fun vs s1 ⟨a1, e1⟩ => by
    have hL := a1.length
    refine ⟨by have : (2:Nat)^24 = sizeLine := rfl; omega, ⟨_, _, 0, rfl, ?_, Heap.get?_push_size _ rfl, hl, hp, a1.ext (Ext.push' _ _)⟩, e1.trans (Ext.push' _ _)⟩
    cases e : s.heap.get? s1.heap.objs.size with
    | none => rfl
    | some o => have := e1.keep _ _ e; rw [get_size] at this; cases this))

-- an item
noncomputable def Sb (T : TC) (po pi p : V) : Prop :=
  ∀ A U s vo vi, Ok 0 A → Su T U s → Rep T s U vo po → Rep T s U vi pi → ItemOn (model T.prog T.w) A (fun _ _ => False) vo vi (fun v s' => Rep T s' U v p ∧ Ext s s') s
noncomputable def Sbo (T : TC) (ps : List V) (pi p : V) : Prop :=
  ∀ A U s vo vi, Ok 0 A → Su T U s → Pk T s U vo ps → Rep T s U vi pi → ItemOn (model T.prog T.w) A (fun _ _ => False) vo vi (fun v s' => Rep T s' U v p ∧ Ext s s') s
theorem sub_item {A : Around} {E : Value → Shared → Prop} {s : Shared} {value slice : Expr} {o i : Value} {Q : Value → Shared → Prop}
    (hs : subscripted slice false o i = operate [o, i] (getItem o i)) (h : ItemOn (model T.prog T.w) A E o i Q s) : wpAny (model T.prog T.w) A (subscriptTail value slice o i) Q E s := by
  obtain ⟨Ty, id, hl, hT, h⟩ := h
  unfold subscriptTail
  refine wpAny_bind ?_
  rw [getitemInPython_of_ne hT.not_modules]
  refine wpAny_bind (wpAny_specialOf hT hl ?_)
  have fin : wpAny (model T.prog T.w) A (subscripted slice false o i) (fun r s₃ => wpAny (model T.prog T.w) A (letTemporaryGo value o r >>= fun _ => pure r) Q E s₃) E s := by
    rw [hs]
    exact wpAny_operating (wpAny_mono h (fun r s₃ h₃ => wpAny_bind (wpAny_letTemporaryGo (wpAny_pure h₃))) fun _ _ x => x)
  first
    | exact wpAny_pure (wpAny_bind fin)
    | exact wpAny_bind (wpAny_pure (wpAny_bind fin))
    | exact wpAny_bind fin
theorem Ev.sub {value slice pos po pi p} (h1 : Ev T c σ value po) (h2 : Ev T c σ slice pi) (h3 : Sb T po pi p)
    (hs : ∀ o i, subscripted slice false o i = operate [o, i] (getItem o i) := by walk_at "r1") : Ev T c σ (.Subscript value slice pos) p := fun A env U s O R =>
  Subscript_ (wpB (h1 A env U s O R) fun va s1 ⟨a1, e1⟩ => wpB (h2 A env U s1 O (R.ext e1)) fun vb s2 ⟨a2, e2⟩ => sub_item (hs va vb) (by
    obtain ⟨Ty, id, x1, x2, x3⟩ := h3 A U s2 va vb O.zero ((R.ext e1).ext e2).su (a1.ext e2) a2
    exact ⟨Ty, id, x1, x2, wpB x3 fun _ _ ⟨a3, e3⟩ => ⟨a3, (e1.trans e2).trans e3⟩⟩))
theorem Ev.subo {value slice pos ps pi p} (h1 : EvO T c σ value ps) (h2 : Ev T c σ slice pi) (h3 : Sbo T ps pi p)
    (hs : ∀ o i, subscripted slice false o i = operate [o, i] (getItem o i) := by walk_at "r1") : Ev T c σ (.Subscript value slice pos) p := fun A env U s O R =>
  Subscript_ (wpB (h1 A env U s O R) fun va s1 ⟨a1, e1⟩ => wpB (h2 A env U s1 O (R.ext e1)) fun vb s2 ⟨a2, e2⟩ => sub_item (hs va vb) (by
    obtain ⟨Ty, id, x1, x2, x3⟩ := h3 A U s2 va vb O.zero ((R.ext e1).ext e2).su (a1.ext e2) a2
    exact ⟨Ty, id, x1, x2, wpB x3 fun _ _ ⟨a3, e3⟩ => ⟨a3, (e1.trans e2).trans e3⟩⟩))
theorem Sbo.of {ps pi p} (h : Sbo T ps pi p) : Sb T (.list ps) pi p := fun A U s vo vi O S x y => h A U s vo vi O S x.pk y
theorem Sbo.at {ps : List V} {k : Int} {p : V} (h0 : 0 ≤ k) (hx : ps[k.toNat]? = some p) : Sbo T ps (.int k) p := by
  intro A U s vo vi O S x y
  unfold Rep at y; obtain ⟨t, rfl⟩ := y
  obtain ⟨a, it, n, rfl, hl, hL, hr⟩ := x
  have hlen : k.toNat < ps.length := by
    rcases Nat.lt_or_ge k.toNat ps.length with h | h
    · exact h
    · rw [List.getElem?_eq_none h] at hx; cases hx
  obtain ⟨v, h1, h2⟩ := hr.get hx
  exact ⟨"list", _, slot_list_getitem.lookup, hl.isList.typeIs, wpAny_getItem_list hl.isList h0 (by omega) (by simpa using h1) ⟨h2, Ext.refl s⟩⟩
theorem Sbo.neg {ps : List V} {k : Int} {p : V} (h0 : k < 0) (hk : -(ps.length : Int) ≤ k) (hx : ps[(k + ps.length).toNat]? = some p) : Sbo T ps (.int k) p := by
  intro A U s vo vi O S x y
  unfold Rep at y; obtain ⟨t, rfl⟩ := y
  obtain ⟨a, it, n, rfl, hl, hL, hr⟩ := x
  obtain ⟨v, h1, h2⟩ := hr.get hx
  have hsz : it.size = ps.length := by rw [← hr.length]; simp
  exact ⟨"list", _, slot_list_getitem.lookup, hl.isList.typeIs, wpAny_getItem_list_neg hl.isList h0 (by rw [hsz]; exact hk) (by omega) (by rw [hsz]; simpa using h1) ⟨h2, Ext.refl s⟩⟩
theorem Sb.str {x : List Nat} {k : Int} {ch : Nat} (h0 : 0 ≤ k) (hL : x.length ≤ 1048576) (hx : x[k.toNat]? = some ch) : Sb T (.str x) (.int k) (.strt [ch]) := by
  intro A U s vo vi O S' a y
  unfold Rep at y; obtain ⟨t, rfl⟩ := y
  unfold Rep at a; obtain ⟨u, rfl, h⟩ := a
  have hlen : k.toNat < x.length := by
    rcases Nat.lt_or_ge k.toNat x.length with h | h
    · exact h
    · rw [List.getElem?_eq_none h] at hx; cases hx
  have hch : Txt.charAt (S x) k = some ch := by
    unfold Txt.charAt
    have hc : seqIndex? k (S x).length = some k.toNat := by
      rw [S_len]; unfold seqIndex?
      simp only [show ¬ k < 0 by omega, if_false]
      first | (rw [if_neg (by omega)]; done) | (simp; omega)
    rw [hc]
    simp [S, hx]
  have hit : Txt.item (S x) k = S [ch] := by unfold Txt.item; rw [hch]; rfl
  refine SB.item (fitsSsize_of (N := 9223372036854775808) (by omega) (by omega) (Int.le_refl _)) (by rw [hch]; rfl) ?_
  rw [hit]
  refine ⟨?_, Ext.toks' s⟩
  unfold Rep
  exact ⟨_, rfl, by simp, Nat.pos_iff_ne_zero.mp S'.tok, Nat.lt_succ_self _⟩
theorem Sb.strneg {x : List Nat} {k : Int} {ch : Nat} (h0 : k < 0) (hk : -(x.length : Int) ≤ k) (hL : x.length ≤ 1048576) (hx : x[(k + x.length).toNat]? = some ch) : Sb T (.str x) (.int k) (.strt [ch]) := by
  intro A U s vo vi O S' a y
  unfold Rep at y; obtain ⟨t, rfl⟩ := y
  unfold Rep at a; obtain ⟨u, rfl, h⟩ := a
  have hch : Txt.charAt (S x) k = some ch := by
    unfold Txt.charAt
    have hc : seqIndex? k (S x).length = some (k + x.length).toNat := by
      rw [S_len]; unfold seqIndex?
      simp only [h0, if_true]
      first | (rw [if_neg (by omega)]; done) | (simp; omega)
    rw [hc]
    simp [S, hx]
  have hit : Txt.item (S x) k = S [ch] := by unfold Txt.item; rw [hch]; rfl
  refine SB.item (fitsSsize_of (N := 9223372036854775808) (by omega) (by omega) (Int.le_refl _)) (by rw [hch]; rfl) ?_
  rw [hit]
  refine ⟨?_, Ext.toks' s⟩
  unfold Rep
  exact ⟨_, rfl, by simp, Nat.pos_iff_ne_zero.mp S'.tok, Nat.lt_succ_self _⟩

-- strt is a str
theorem Ev.weak {e x} (h : Ev T c σ e (.strt x)) : Ev T c σ e (.str x) := fun A env U s O R => wpB (h A env U s O R) fun _ _ ⟨a, e⟩ => ⟨a.weak, e⟩

-- len
theorem Bco.len {ps : List V} : Bco T "len" ps (.int ps.length) := by
  intro A U s v O S x
  obtain ⟨a, it, n, rfl, hl, hL, hr⟩ := x
  have hsz : it.size = ps.length := by rw [← hr.length]; simp
  refine PyProof.Rows.len_list hl.isList (by omega) ⟨by rw [hsz]; exact Rep.int_, Ext.toksn s _ (by omega)⟩
theorem Bcl.lens {x : List Nat} : Bcl T "len" [.str x] (.int x.length) := by
  intro A U s vs O S' a
  unfold Reps at a; obtain ⟨v, r, rfl, h1, h2⟩ := a
  unfold Reps at h2; subst h2
  unfold Rep at h1; obtain ⟨t, rfl, hL⟩ := h1
  refine SBL.len (by rw [S_len]; omega) ⟨by rw [S_len]; exact Rep.int_, Ext.toksn s _ (by omega)⟩
theorem Bcl.min {a b : Int} : Bcl T "min" [.int a, .int b] (.int (if b < a then b else a)) := by
  intro A U s vs O S' x
  unfold Reps at x; obtain ⟨v, r, rfl, h1, h2⟩ := x
  unfold Reps at h2; obtain ⟨v2, r2, rfl, h2, h3⟩ := h2
  unfold Reps at h3; subst h3
  unfold Rep at h1 h2; obtain ⟨t, rfl⟩ := h1; obtain ⟨u, rfl⟩ := h2
  refine ext_of (min_two_ints O.handled fun h' tk hk _ => ⟨?_, Ext0.of hk⟩)
  split <;> exact Rep.int_
end
section
open PySem PySem.W PyProof.Rows
set_option Elab.async false
set_option linter.unusedVariables false
variable {T : TC} {c : Cx} {σ : List Slot}

mutual
noncomputable def toD : V → PyData
  | .none => .none
  | .bool b => .bool b
  | .int i => .int i
  | .str x => .str (S x)
  | .strt x => .str (S x)
  | .list ps => .list (toDs ps)
  | .dict _ => .none
  | .fn _ => .none
  | .raw _ => .none
noncomputable def toDs : List V → List PyData
  | [] => []
  | p :: ps => toD p :: toDs ps
end
mutual
-- data with small signs, at most n deep
noncomputable def dOk : Nat → V → Bool
  | _, .none => true
  | _, .bool _ => true
  | _, .int _ => true
  | _, .str x => x.all (· < 0x110000)
  | _, .strt x => x.all (· < 0x110000)
  | 0, .list ps => false
  | n + 1, .list ps => dOks n ps
  | _, .dict _ => false
  | _, .fn _ => false
  | _, .raw _ => false
noncomputable def dOks : Nat → List V → Bool
  | _, [] => true
  | n, p :: ps => dOk n p && dOks n ps
end
theorem dOks_all : ∀ {ps : List V} {n : Nat}, dOks n ps = ps.all (dOk n)
  | [], n => by unfold dOks; rfl
  | p :: ps, n => by unfold dOks; rw [dOks_all, List.all_cons]

mutual
theorem lay_of : ∀ {p : V} {n : Nat}, dOk n p = true → (toD p).canLay0 = true ∧ (toD p).depth ≤ n
  | .none, n, _ => ⟨rfl, Nat.zero_le _⟩
  | .bool _, n, _ => ⟨rfl, Nat.zero_le _⟩
  | .int _, n, _ => ⟨rfl, Nat.zero_le _⟩
  | .str x, n, h => ⟨by unfold dOk at h; unfold toD PyData.canLay0 PyData.strOk S; simpa using h, Nat.zero_le _⟩
  | .strt x, n, h => ⟨by unfold dOk at h; unfold toD PyData.canLay0 PyData.strOk S; simpa using h, Nat.zero_le _⟩
  | .list ps, 0, h => by unfold dOk at h; cases h
  | .list ps, n + 1, h => by
    unfold dOk at h
    obtain ⟨a, b⟩ := lays_of h
    unfold toD
    exact ⟨a, by unfold PyData.depth; omega⟩
  | .dict _, n, h => by unfold dOk at h; cases h
  | .fn _, n, h => by unfold dOk at h; cases h
  | .raw _, n, h => by unfold dOk at h; cases h
theorem lays_of : ∀ {ps : List V} {n : Nat}, dOks n ps = true → PyData.canLayAll0 (toDs ps) = true ∧ PyData.depthAll (toDs ps) ≤ n
  | [], n, _ => ⟨rfl, Nat.zero_le _⟩
  | p :: ps, n, h => by
    unfold dOks at h
    rw [Bool.and_eq_true] at h
    obtain ⟨a, b⟩ := lay_of h.1
    obtain ⟨a', b'⟩ := lays_of h.2
    unfold toDs PyData.canLayAll0 PyData.depthAll
    exact ⟨by rw [a, a']; rfl, by omega⟩
end
mutual
theorem reads_of {s : Shared} {U : List Addr} : ∀ {p : V} {v : Value} {n : Nat}, dOk n p = true → Rep T s U v p → ∃ as, Reads s.heap v (toD p) as
  | .none, v, n, _, h => by unfold Rep at h; subst h; exact ⟨_, .none⟩
  | .bool _, v, n, _, h => by unfold Rep at h; subst h; exact ⟨_, .bool _⟩
  | .int _, v, n, _, h => by unfold Rep at h; obtain ⟨t, rfl⟩ := h; exact ⟨_, .int _ _⟩
  | .str x, v, n, _, h => by unfold Rep at h; obtain ⟨t, rfl, _⟩ := h; exact ⟨_, .str _ _⟩
  | .strt x, v, n, _, h => by unfold Rep at h; obtain ⟨t, rfl, _⟩ := h; exact ⟨_, .str _ _⟩
  | .list ps, v, 0, h, _ => by unfold dOk at h; cases h
  | .list ps, v, n + 1, h, r => by
    unfold dOk at h
    unfold Rep at r
    obtain ⟨a, it, m, rfl, _, hl, _, hr⟩ := r
    obtain ⟨as, x⟩ := readsAll_of h hr
    unfold toD
    exact ⟨_, .list hl rfl rfl x⟩
  | .dict _, v, n, h, _ => by unfold dOk at h; cases h
  | .fn _, v, n, h, _ => by unfold dOk at h; cases h
  | .raw _, v, n, h, _ => by unfold dOk at h; cases h
theorem readsAll_of {s : Shared} {U : List Addr} : ∀ {ps : List V} {vs : List Value} {n : Nat}, dOks n ps = true → Reps T s U vs ps → ∃ as, ReadsAll s.heap vs (toDs ps) as
  | [], vs, n, _, h => by unfold Reps at h; subst h; exact ⟨_, .nil⟩
  | p :: ps, vs, n, h, r => by
    unfold dOks at h
    rw [Bool.and_eq_true] at h
    unfold Reps at r
    obtain ⟨v, r', rfl, h2, h3⟩ := r
    obtain ⟨as, x⟩ := reads_of h.1 h2
    obtain ⟨bs, y⟩ := readsAll_of h.2 h3
    unfold toDs
    exact ⟨_, .cons x y⟩
end
theorem pk_reads {s : Shared} {U : List Addr} {v ps n} (h : dOks n ps = true) (x : Pk T s U v ps) : ∃ as, Reads s.heap v (.list (toDs ps)) as := by
  obtain ⟨a, it, m, rfl, hl, _, hr⟩ := x
  obtain ⟨as, x⟩ := readsAll_of h hr
  exact ⟨_, .list hl rfl rfl x⟩

-- equal data
noncomputable def eqV (p q : V) : Bool := PyData.eqv (toD p) (toD q)
noncomputable def inV (p : V) (ps : List V) : Bool := ps.any fun q => eqV q p
theorem toDs_map : ∀ ps : List V, toDs ps = ps.map toD
  | [] => by unfold toDs; rfl
  | p :: ps => by unfold toDs; rw [toDs_map, List.map_cons]
theorem inV_eq (p : V) (ps : List V) : (toDs ps).any (fun y => PyData.eqv y (toD p)) = inV p ps := by
  rw [toDs_map, List.any_map]; rfl

theorem units_ok {A : Around} (O : Ok 0 A) {m n : Nat} (h : m ≤ 20) : A.units + 1 + min m n < cLine := by
  have := O.units; have := cLine_is; omega
noncomputable def Cmo (T : TC) (op : CmpOp) (pa : V) (ps : List V) (b : Bool) : Prop :=
  ∀ A U s va vb, Ok 0 A → Su T U s → Rep T s U va pa → Pk T s U vb ps → wpAny (model T.prog T.w) A (compareOp op va vb) (fun v s' => v = .bool b ∧ Ext s s') (fun _ _ => False) s
theorem Tr.cmpo {l op r pos pa ps b} (h1 : Ev T c σ l pa) (h2 : EvO T c σ r ps) (h3 : Cmo T op pa ps b) (hm : behindInMarks op r = false := by walk_at "r1") : Tr T c σ (.Compare l [op] [r] pos) b := fun A env U s O R =>
  wpAny_isTrue_Compare1 (wpB (h1 A env U s O R) fun va s1 ⟨a1, e1⟩ => wpB (h2 A env U s1 O (R.ext e1)) fun vb s2 ⟨a2, e2⟩ =>
    wpB (h3 A U s2 va vb O.zero ((R.ext e1).ext e2).su (a1.ext e2) a2) fun _ _ ⟨a3, e3⟩ => by subst a3; exact wpAny_truthy_bool ⟨rfl, (e1.trans e2).trans e3⟩) hm
theorem Cmo.in_ {p ps} (hp : dOk 9 p = true) (hps : dOks 9 ps = true) : Cmo T .In p ps (inV p ps) := by
  intro A U s va vb O S x y
  obtain ⟨as, rx⟩ := reads_of hp x
  obtain ⟨bs, ry⟩ := pk_reads hps y
  exact SeqAt.in_list_reads ry rx (lays_of hps).1 (lay_of hp).1 (units_ok O (by have := (lays_of hps).2; omega)) ⟨by rw [inV_eq], Ext.refl s⟩
theorem Cmo.notin {p ps} (hp : dOk 9 p = true) (hps : dOks 9 ps = true) : Cmo T .NotIn p ps (!inV p ps) := by
  intro A U s va vb O S x y
  obtain ⟨as, rx⟩ := reads_of hp x
  obtain ⟨bs, ry⟩ := pk_reads hps y
  exact SeqAt.notIn_list_reads ry rx (lays_of hps).1 (lay_of hp).1 (units_ok O (by have := (lays_of hps).2; omega)) ⟨by rw [inV_eq], Ext.refl s⟩
theorem Cm2.eqd {p q} (hp : dOk 9 p = true) (hq : dOk 9 q = true) : Cm2 T .Eq p q (eqV p q) := by
  intro A U s va vb O S x y
  obtain ⟨as, rx⟩ := reads_of hp x
  obtain ⟨bs, ry⟩ := reads_of hq y
  exact SeqAt.compareEq_reads rx ry (lay_of hp).1 (lay_of hq).1 (by have := units_ok O (n := (toD q).depth) (m := (toD p).depth) (by have := (lay_of hp).2; omega); omega) ⟨rfl, Ext.refl s⟩
theorem Cm2.ned {p q} (hp : dOk 9 p = true) (hq : dOk 9 q = true) : Cm2 T .NotEq p q (!eqV p q) := by
  intro A U s va vb O S x y
  obtain ⟨as, rx⟩ := reads_of hp x
  obtain ⟨bs, ry⟩ := reads_of hq y
  exact SeqAt.compareNe_reads rx ry (lay_of hp).1 (lay_of hq).1 (by have := units_ok O (n := (toD q).depth) (m := (toD p).depth) (by have := (lay_of hp).2; omega); omega) ⟨rfl, Ext.refl s⟩
-- plain forms
theorem eqV_int (a b : Int) : eqV (.int a) (.int b) = (a == b) := by unfold eqV toD PyData.eqv; rfl
theorem eqV_bool (a b : Bool) : eqV (.bool a) (.bool b) = (a == b) := by unfold eqV toD PyData.eqv; rfl
theorem eqvAll_map {α : Type} [BEq α] {f : α → V} (h : ∀ a b, eqV (f a) (f b) = (a == b)) : ∀ xs ys : List α, PyData.eqvAll (toDs (xs.map f)) (toDs (ys.map f)) = (xs == ys)
  | [], [] => by unfold toDs PyData.eqvAll; rfl
  | [], y :: ys => by unfold toDs; simp only [List.map_cons, List.map_nil]; unfold PyData.eqvAll; rfl
  | x :: xs, [] => by unfold toDs; simp only [List.map_cons, List.map_nil]; unfold PyData.eqvAll; rfl
  | x :: xs, y :: ys => by
    simp only [List.map_cons]
    unfold toDs PyData.eqvAll
    have := h x y
    unfold eqV at this
    rw [this, eqvAll_map h xs ys]
    rfl
theorem eqV_list {α : Type} [BEq α] {f : α → V} (h : ∀ a b, eqV (f a) (f b) = (a == b)) (xs ys : List α) : eqV (.list (xs.map f)) (.list (ys.map f)) = (xs == ys) := by
  unfold eqV toD PyData.eqv; exact eqvAll_map h xs ys
theorem inV_map {α : Type} [BEq α] [LawfulBEq α] {f : α → V} (h : ∀ a b, eqV (f a) (f b) = (a == b)) (x : α) (xs : List α) : inV (f x) (xs.map f) = xs.contains x := by
  unfold inV
  rw [List.any_map, ← List.any_beq']
  congr 1
  funext y
  exact h y x
theorem dOks_map {α : Type} {f : α → V} {n : Nat} {xs : List α} (h : ∀ x ∈ xs, dOk n (f x) = true) : dOks n (xs.map f) = true := by
  rw [dOks_all, List.all_eq_true]
  intro p hp
  obtain ⟨x, hx, rfl⟩ := List.mem_map.mp hp
  exact h x hx
end
section
open PySem PySem.W PyProof.Rows
open PySem.Builtin PySem.Builtin.Str
set_option Elab.async false
set_option linter.unusedVariables false
variable {T : TC} {c : Cx} {σ : List Slot}

-- plain texts
noncomputable def atP (x y : List Nat) (i : Nat) : Bool := (x.drop i).take y.length == y
noncomputable def findP (x y : List Nat) (lo hi : Nat) : Option Nat := (List.range' lo (hi + 1 - lo)).find? fun i => decide (i + y.length ≤ hi) && atP x y i
noncomputable def hasP (x y : List Nat) : Bool := (List.range (x.length + 1)).any fun i => decide (i + y.length ≤ x.length) && atP x y i
noncomputable def joinP (sep : List Nat) : List (List Nat) → List Nat
  | [] => []
  | [x] => x
  | x :: y :: r => x ++ sep ++ joinP sep (y :: r)

theorem subAt_S (x y : List Nat) (i : Nat) : subAt (S x) (S y) i = atP x y i := by
  rw [StrLaws.subAt_eq, S_cps, S_cps, S_len]; rfl
theorem At_S (x y : List Nat) (hi i : Nat) : StrLaws.At (S x) (S y) hi i ↔ (decide (i + y.length ≤ hi) && atP x y i) = true := by
  unfold StrLaws.At
  rw [subAt_S, S_len, Bool.and_eq_true, decide_eq_true_iff]

theorem find_of {p : Nat → Bool} : ∀ {l pre post : List Nat} {a : Nat}, l = pre ++ a :: post → p a = true → (∀ k ∈ pre, p k = false) → l.find? p = some a
  | _, [], post, a, rfl, h, _ => by simp [h]
  | _, b :: pre, post, a, rfl, h, hn => by
    have hb := hn b (.head _)
    show List.find? p (b :: (pre ++ a :: post)) = some a
    rw [List.find?_cons, hb]
    exact find_of rfl h fun k hk => hn k (.tail _ hk)

theorem occ_find (x y : List Nat) (lo hi : Nat) :
    (match occurrences (S x) (S y) lo hi 1 with | k :: _ => (k : Int) | [] => -1) = (match findP x y lo hi with | some k => (k : Int) | none => -1) := by
  rw [StrLaws.occ_eq]
  rcases StrLaws.occ_first (S x) (S y) hi 1 (Nat.le_refl 1) (List.range' lo (hi + 1 - lo)) lo (fun i hi' => by have := List.mem_range'_1.mp hi'; omega) with ⟨h0, hn⟩ | ⟨pre, a, post, e, h0, ha, hn⟩
  · rw [h0]
    have : findP x y lo hi = none := by
      unfold findP
      rw [List.find?_eq_none]
      intro i hi'
      rw [← At_S]; exact hn i hi'
    rw [this]
  · generalize (forIn (List.range' lo (hi + 1 - lo)) ((#[] : Array Nat), lo) (StrLaws.occBody (S x) (S y) hi 1)).run.fst = arr at h0
    have h1 : arr.toList[0]? = some a := by simpa using h0
    have : findP x y lo hi = some a := find_of e ((At_S _ _ _ _).mp ha) fun k hk => by
      have := hn k hk; rw [At_S] at this; simpa using this
    rw [this]
    cases hL : arr.toList with
    | nil => rw [hL] at h1; cases h1
    | cons b t => rw [hL] at h1; simp at h1; rw [h1]

theorem has_S (x y : List Nat) : (!(occurrences (S x) (S y) 0 (S x).length 1).isEmpty) = hasP x y := by
  rw [Bool.eq_iff_iff, StrLaws.found_iff]
  unfold hasP
  rw [List.any_eq_true]
  constructor
  · rintro ⟨i, h1, h2⟩
    rw [S_len, S_len] at h1
    exact ⟨i, List.mem_range.mpr (by omega), by rw [Bool.and_eq_true, decide_eq_true_iff]; exact ⟨h1, by rw [← subAt_S]; exact h2⟩⟩
  · rintro ⟨i, _, h⟩
    rw [Bool.and_eq_true, decide_eq_true_iff] at h
    exact ⟨i, by rw [S_len, S_len]; exact h.1, by rw [subAt_S]; exact h.2⟩
theorem hasP_one (x : List Nat) (ch : Nat) : hasP x [ch] = x.contains ch := by
  rw [← has_S]
  have := StrLaws.found_one (S x) ch
  rw [S_cps] at this
  rw [show S [ch] = ⟨#[ch]⟩ from rfl, this]
  simp

theorem Cm2.ins {x y : List Nat} : Cm2 T .In (.str y) (.str x) (hasP x y) := by
  intro A U s va vb O S' a b
  unfold Rep at a b; obtain ⟨t, rfl, _⟩ := a; obtain ⟨u, rfl, _⟩ := b
  exact PyProof.Rows.in_str ⟨by rw [has_S], Ext.refl s⟩
theorem Cm2.notins {x y : List Nat} : Cm2 T .NotIn (.str y) (.str x) (!hasP x y) := by
  intro A U s va vb O S' a b
  unfold Rep at a b; obtain ⟨t, rfl, _⟩ := a; obtain ⟨u, rfl, _⟩ := b
  exact PyProof.Rows.notIn_str ⟨by rw [has_S], Ext.refl s⟩

-- a method called
structure Mty (T : TC) (po : V) (ty : String) : Prop where
  is : ∀ s U v, Rep T s U v po → s.TypeIs v ty ∧ (∀ a, v = .ref a → ∃ ob, s.heap.get? a = some ob ∧ ob.dict = none)
theorem Mty.str {x} : Mty T (.str x) "str" := ⟨fun s U v h => by unfold Rep at h; obtain ⟨t, rfl, _⟩ := h; exact ⟨typeIs_str _ _ _, fun _ e => nomatch e⟩⟩
noncomputable def Mth (T : TC) (name : Str) (po : V) (ps : List V) (p : V) : Prop :=
  ∃ ty id, PlainAttrs ty ∧ PySem.Slot ty name id ∧ typeOf (.builtin id) = pure (.type "method_descriptor") ∧ Mty T po ty ∧ Bcl T id (po :: ps) p

theorem Ev.meth {o name apos args pos po ps p} (h1 : Ev T c σ o po) (ha : EvL T c σ args ps) (hm : Mth T name po ps p)
    (hbase : ∀ env, attributeBase o name env (eval o env) = eval o env := by walk_at "r1") (hs : ∀ env, backTo pos (starEach args env) = args.map fun e => (false, eval e env) := by walk_at "r1")
    (hfew : ∀ env, ((backTo pos (starEach args env)).all (fun x => !x.1) && (backToKw pos (keywordEach [] env)).all (fun x => x.1.isSome)
      && decide (args.length + ([] : List Keyword).length + (if ([] : List Keyword).isEmpty then 0 else 1) < 30)) = true := by walk_at "r1")
    (hline : (apos.endLine == pos.line) = true := by rfl) (hne : args ≠ [] := by walk_at "r1") : Ev T c σ (.Call (.Attribute o name apos) args [] pos) p := fun A env U s O R => by
  obtain ⟨ty, id, pa, slot, hty, hT, hb⟩ := hm
  refine wpAny_Call_method_lateS (hbase env) (hfew env) hline (wpB (h1 A env U s O R) fun v s1 ⟨a1, e1⟩ => ?_)
  obtain ⟨t1, t2⟩ := hT.is s1 U v a1
  refine ⟨ty, id, pa, slot, hty, t1, t2, ?_⟩
  rw [hs]
  exact Calls.callWith_builtin any_false (evalArgs_some (by intro x hx; obtain ⟨_, _, rfl⟩ := List.mem_map.mp hx; rfl) (map_ne hne) (wpB (ha A env U s1 O (R.ext e1)) fun vs s2 ⟨a2, e2⟩ =>
    wpB (hb A U s2 (v :: vs) O.zero ((R.ext e1).ext e2).su (Reps.cons (a1.ext e2) a2)) fun v s3 ⟨a3, e3⟩ => ⟨a3, (e1.trans e2).trans e3⟩))
theorem Ev.meth0 {o name apos pos po p} (h1 : Ev T c σ o po) (hm : Mth T name po [] p)
    (hbase : ∀ env, attributeBase o name env (eval o env) = eval o env := by walk_at "r1")
    (hline : (apos.endLine == pos.line) = true := by rfl) : Ev T c σ (.Call (.Attribute o name apos) [] [] pos) p := fun A env U s O R => by
  obtain ⟨ty, id, pa, slot, hty, hT, hb⟩ := hm
  refine wpAny_Call_method_lateS (hbase env) rfl hline (wpB (h1 A env U s O R) fun v s1 ⟨a1, e1⟩ => ?_)
  obtain ⟨t1, t2⟩ := hT.is s1 U v a1
  refine ⟨ty, id, pa, slot, hty, t1, t2, ?_⟩
  exact Calls.callWith_builtin rfl (PySem.evalArgs_none (
    wpB (hb A U s1 [v] O.zero (R.ext e1).su (Reps.cons a1 Reps.nil)) fun v s3 ⟨a3, e3⟩ => ⟨a3, e1.trans e3⟩))

-- arguments taken apart
theorem reps1 {s : Shared} {U vs p} (h : Reps T s U vs [p]) : ∃ v, vs = [v] ∧ Rep T s U v p := by
  unfold Reps at h; obtain ⟨v, r, rfl, a, b⟩ := h; unfold Reps at b; subst b; exact ⟨v, rfl, a⟩
theorem reps2 {s : Shared} {U vs p q} (h : Reps T s U vs [p, q]) : ∃ v w, vs = [v, w] ∧ Rep T s U v p ∧ Rep T s U w q := by
  unfold Reps at h; obtain ⟨v, r, rfl, a, b⟩ := h; obtain ⟨w, rfl, d⟩ := reps1 b; exact ⟨v, w, rfl, a, d⟩
theorem reps3 {s : Shared} {U vs p q r} (h : Reps T s U vs [p, q, r]) : ∃ v w x, vs = [v, w, x] ∧ Rep T s U v p ∧ Rep T s U w q ∧ Rep T s U x r := by
  unfold Reps at h; obtain ⟨v, r, rfl, a, b⟩ := h; obtain ⟨w, x, rfl, d, e⟩ := reps2 b; exact ⟨v, w, x, rfl, a, d, e⟩
theorem reps4 {s : Shared} {U vs p q r t} (h : Reps T s U vs [p, q, r, t]) : ∃ v w x y, vs = [v, w, x, y] ∧ Rep T s U v p ∧ Rep T s U w q ∧ Rep T s U x r ∧ Rep T s U y t := by
  unfold Reps at h; obtain ⟨v, r, rfl, a, b⟩ := h; obtain ⟨w, x, y, rfl, d, e, f⟩ := reps3 b; exact ⟨v, w, x, y, rfl, a, d, e, f⟩
theorem rep_str {s : Shared} {U v x} (h : Rep T s U v (.str x)) : ∃ t, v = .str (S x) t ∧ x.length ≤ 1048576 := by unfold Rep at h; exact h
theorem rep_strt {s : Shared} {U v x} (h : Rep T s U v (.strt x)) : ∃ t, v = .str (S x) t ∧ x.length ≤ 1048576 ∧ t ≠ 0 ∧ t < s.toks := by unfold Rep at h; exact h
theorem rep_int {s : Shared} {U v i} (h : Rep T s U v (.int i)) : ∃ t, v = .int i t := by unfold Rep at h; exact h
theorem rep_bool {s : Shared} {U v b} (h : Rep T s U v (.bool b)) : v = .bool b := by unfold Rep at h; exact h

-- startswith, endswith
theorem starts_S (x y : List Nat) : Txt.startswith (S x) (S y) = y.isPrefixOf x := by
  unfold Txt.startswith
  rw [subAt_S, S_len, S_len]
  unfold atP
  rw [Bool.eq_iff_iff, Bool.and_eq_true, decide_eq_true_iff, beq_iff_eq, List.isPrefixOf_iff_prefix, List.drop_zero, List.prefix_iff_eq_take]
  constructor
  · rintro ⟨_, h⟩; exact h.symm
  · intro h; exact ⟨by rw [Nat.zero_add]; rw [h]; simp; omega, h.symm⟩
theorem ends_S (x y : List Nat) : Txt.endswith (S x) (S y) = y.isSuffixOf x := by
  unfold Txt.endswith
  rw [subAt_S, S_len, S_len]
  unfold atP
  rw [Bool.eq_iff_iff, Bool.and_eq_true, decide_eq_true_iff, beq_iff_eq, List.isSuffixOf_iff_suffix, List.suffix_iff_eq_drop]
  constructor
  · rintro ⟨h0, h⟩; rw [List.take_of_length_le (by simp; omega)] at h; exact h.symm
  · intro h
    have hl : y.length ≤ x.length := by
      have := congrArg List.length h
      simp at this; omega
    exact ⟨by omega, by rw [List.take_of_length_le (by simp; omega)]; exact h.symm⟩
theorem Mth.startswith {x y} : Mth T "startswith" (.str x) [.str y] (.bool (y.isPrefixOf x)) := by
  refine ⟨"str", _, F.plainAttrs_str, F.slot_str_startswith, F.type_str_startswith, Mty.str, ?_⟩
  intro A U s vs O S' h
  obtain ⟨v, w, rfl, h1, h2⟩ := reps2 h
  obtain ⟨t, rfl, _⟩ := rep_str h1; obtain ⟨u, rfl, _⟩ := rep_str h2
  exact SC.startswith ⟨by rw [starts_S]; exact Rep.bool_, Ext.refl s⟩
theorem Mth.endswith {x y} : Mth T "endswith" (.str x) [.str y] (.bool (y.isSuffixOf x)) := by
  refine ⟨"str", _, F.plainAttrs_str, F.slot_str_endswith, F.type_str_endswith, Mty.str, ?_⟩
  intro A U s vs O S' h
  obtain ⟨v, w, rfl, h1, h2⟩ := reps2 h
  obtain ⟨t, rfl, _⟩ := rep_str h1; obtain ⟨u, rfl, _⟩ := rep_str h2
  exact SC.endswith ⟨by rw [ends_S]; exact Rep.bool_, Ext.refl s⟩

-- find with both bounds
theorem gives_find4 (x y : Str) (i j : Int) (t u v w : Tok) (hi : 0 ≤ i) (hj : 0 ≤ j) : Gives (Builtin.«str.find» ⟨[.str x t, .str y u, .int i v, .int j w], []⟩)
    (.int (match occurrences x y i.toNat (min j.toNat x.length) 1 with | k :: _ => (k : Int) | [] => -1)) := by
  have e1 : max 0 (if i < 0 then i + (x.length : Int) else i) = i := by rw [if_neg (by omega)]; omega
  have e2 : max 0 (if j < 0 then j + (x.length : Int) else j) = j := by rw [if_neg (by omega)]; omega
  show Gives (match occurrences x y (max 0 (if i < 0 then i + (x.length : Int) else i)).toNat (min (max 0 (if j < 0 then j + (x.length : Int) else j)).toNat x.length) 1 with | k :: _ => retInt k | [] => (do rule "str.find.not-found"; retInt (-1))) _
  rw [e1, e2]
  cases occurrences x y i.toNat (min j.toNat x.length) 1 with
  | nil => exact .rule (.of_eq rfl)
  | cons k _ => exact .of_eq rfl
noncomputable def findI (x y : List Nat) (lo hi : Int) : Int := match findP x y lo.toNat (min hi.toNat x.length) with | some k => (k : Int) | none => -1
theorem Mth.find {x y : List Nat} {i j : Int} (hi : 0 ≤ i) (hj : 0 ≤ j) : Mth T "find" (.str x) [.str y, .int i, .int j] (.int (findI x y i j)) := by
  refine ⟨"str", _, F.plainAttrs_str, F.slot_str_find, F.type_str_find, Mty.str, ?_⟩
  intro A U s vs O S' h
  obtain ⟨v, w, a, b, rfl, h1, h2, h3, h4⟩ := reps4 h
  obtain ⟨t, rfl, _⟩ := rep_str h1; obtain ⟨u, rfl, _⟩ := rep_str h2
  obtain ⟨t3, rfl⟩ := rep_int h3; obtain ⟨t4, rfl⟩ := rep_int h4
  refine call_gives F.slot_str_find (typeIs_str _ _ _) F.entry_str_find (F.args_str_find_4 _ _ _ _) (gives_find4 (S x) (S y) i j t u t3 t4 hi hj) ?_
  rw [S_len, occ_find]
  exact ⟨Rep.int_, Ext.toks' s⟩

-- lower, upon ASCII
noncomputable def lowP (ch : Nat) : Nat := if 65 ≤ ch ∧ ch ≤ 90 then ch + 32 else ch
theorem lower_one : ∀ ch < 128, (PySem.Unicode.lowerAt #[ch] 0) = [lowP ch] := by decide +kernel
theorem Mth.lower {ch : Nat} (h : ch < 128) : Mth T "lower" (.str [ch]) [] (.str [lowP ch]) := by
  refine ⟨"str", _, F.plainAttrs_str, F.slot_str_lower, F.type_str_lower, Mty.str, ?_⟩
  intro A U s vs O S' hr
  obtain ⟨v, rfl, h1⟩ := reps1 hr
  obtain ⟨t, rfl, _⟩ := rep_str h1
  refine SCL.lower (by rw [S_len]; simp) fun _ => ?_
  have : Txt.lower (S [ch]) = S [lowP ch] := by
    have := lower_one ch h
    unfold Txt.lower PySem.placed S
    simp [this]
  rw [this]
  exact ⟨Rep.str_ (by simp), Ext.toks' s⟩
end
section
open PySem PySem.W PyProof.Rows
open PySem.Builtin PySem.Builtin.Str
set_option Elab.async false
set_option linter.unusedVariables false

theorem join_S (sep : List Nat) : ∀ ps : List (List Nat), Str.join (S sep) (ps.map S) = S (joinP sep ps)
  | [] => rfl
  | [x] => rfl
  | x :: y :: r => by
    have ih := join_S sep (y :: r)
    show S x ++ S sep ++ Str.join (S sep) ((y :: r).map S) = _
    rw [ih, S_append, S_append]; rfl

theorem at_head {X y : List Nat} {a : Nat} {ys : List Nat} (hy : y = a :: ys) {k : Nat} (h : atP X y k = true) : X[k]? = some a := by
  unfold atP at h
  rw [beq_iff_eq] at h
  have : ((X.drop k).take y.length)[0]? = y[0]? := by rw [h]
  subst hy
  simpa [List.getElem?_take, List.getElem?_drop] using this

theorem strSub_S (x : List Nat) (i j : Nat) : strSub (S x) i j = S ((x.drop i).take (j - i)) := by
  apply Str.ext'
  apply Array.toList_inj.mp
  rw [StrLaws.strSub_toList]; simp [S]

theorem parts_join {a : Nat} {ys : List Nat} : ∀ (ps : List (List Nat)) (pre X : List Nat) (cuts : List Nat) (f : Nat), ps ≠ [] → (∀ p ∈ ps, a ∉ p) → X = pre ++ joinP (a :: ys) ps →
    StrLaws.ChainG (S X) (S (a :: ys)) (S X).length pre.length cuts f → (∀ k, f ≤ k → ¬ StrLaws.At (S X) (S (a :: ys)) (S X).length k) →
    StrLaws.partsFrom (S X) (S (a :: ys)).length pre.length cuts = ps.map S
  | [], _, _, _, _, h, _, _, _, _ => absurd rfl h
  | [p], pre, X, cuts, f, _, hp, hX, hc, hn => by
    have hp' := hp p (.head _)
    have none_at : ∀ k, pre.length ≤ k → ¬ StrLaws.At (S X) (S (a :: ys)) (S X).length k := by
      intro k hk hA
      rw [At_S, Bool.and_eq_true] at hA
      have := at_head rfl hA.2
      rw [hX] at this
      change (pre ++ p)[k]? = some a at this
      rw [List.getElem?_append_right hk] at this
      exact hp' (List.mem_of_getElem? this)
    cases cuts with
    | cons c cs => exact absurd hc.2.1 (none_at c hc.1)
    | nil =>
      show [strSub (S X) pre.length (S X).length] = [S p]
      rw [strSub_S, S_len, hX]
      simp [joinP]
  | p :: q :: r, pre, X, cuts, f, _, hp, hX, hc, hn => by
    have hp' := hp p (.head _)
    have hX2 : X = (pre ++ p ++ (a :: ys)) ++ joinP (a :: ys) (q :: r) := by rw [hX]; simp [joinP]
    have hlen : (pre ++ p).length + (a :: ys).length ≤ X.length := by rw [hX2]; simp; omega
    have here : StrLaws.At (S X) (S (a :: ys)) (S X).length (pre ++ p).length := by
      rw [At_S, Bool.and_eq_true, decide_eq_true_iff, S_len]
      refine ⟨hlen, ?_⟩
      unfold atP
      rw [beq_iff_eq, hX2, List.append_assoc (pre ++ p), List.drop_left, List.take_left]
    have before : ∀ k, pre.length ≤ k → k < (pre ++ p).length → ¬ StrLaws.At (S X) (S (a :: ys)) (S X).length k := by
      intro k hk hk2 hA
      rw [At_S, Bool.and_eq_true] at hA
      have := at_head rfl hA.2
      rw [hX2, List.append_assoc, List.append_assoc, List.getElem?_append_right hk, List.getElem?_append_left (by rw [List.length_append] at hk2; omega)] at this
      exact hp' (List.mem_of_getElem? this)
    cases cuts with
    | nil =>
      have hf : f = pre.length := hc
      exact absurd here (hn _ (by rw [hf]; simp))
    | cons c cs =>
      obtain ⟨h1, h2, h3, h4⟩ := hc
      have hce : c = (pre ++ p).length := by
        rcases Nat.lt_trichotomy c (pre ++ p).length with h | h | h
        · exact absurd h2 (before c h1 h)
        · exact h
        · exact absurd here (h3 _ (by simp) h)
      subst hce
      show strSub (S X) pre.length (pre ++ p).length :: StrLaws.partsFrom (S X) (S (a :: ys)).length ((pre ++ p).length + (S (a :: ys)).length) cs = _
      have e : (pre ++ p).length + (S (a :: ys)).length = (pre ++ p ++ (a :: ys)).length := by rw [S_len]; simp; omega
      rw [e] at h4 ⊢
      rw [parts_join (q :: r) (pre ++ p ++ (a :: ys)) X cs f (by simp) (fun x hx => hp x (.tail _ hx)) hX2 h4 hn]
      rw [strSub_S, hX]
      simp [joinP]

theorem strKind_ge (x : Str) : 1 ≤ Str.strKind x := by unfold Str.strKind; split <;> (try split) <;> omega
theorem kind_ascii {y : List Nat} (h : y.all (· < 256) = true) : Str.strKind (S y) = 1 := by
  unfold Str.strKind S; rw [if_pos]; simpa using h

theorem split_join {a : Nat} {ys : List Nat} {ps : List (List Nat)} (hne : ps ≠ []) (hp : ∀ p ∈ ps, a ∉ p) (hk : (a :: ys).all (· < 256) = true) :
    Txt.split (S (joinP (a :: ys) ps)) (S (a :: ys)) = ps.map S := by
  obtain ⟨f, hG, hn⟩ := StrLaws.occ_tight (S (joinP (a :: ys) ps)) (S (a :: ys)) (by rw [S_len]; simp)
  have key := parts_join ps [] (joinP (a :: ys) ps) _ f hne hp rfl hG hn
  have hB : partsBetween (S (joinP (a :: ys) ps)) (occurrences (S (joinP (a :: ys) ps)) (S (a :: ys)) 0 (S (joinP (a :: ys) ps)).length ((S (joinP (a :: ys) ps)).length + 1)) (S (a :: ys)).length = ps.map S := by
    rw [StrLaws.partsBetween_eq]; exact key
  unfold Txt.split
  split
  · rename_i h
    rw [Bool.or_eq_true] at h
    rcases h with h | h
    · rw [decide_eq_true_iff, S_len, S_len] at h
      match ps, hne with
      | [p], _ => rfl
      | p :: q :: r, _ => exfalso; simp [joinP] at h; omega
    · rw [decide_eq_true_iff, kind_ascii hk] at h
      have := strKind_ge (S (joinP (a :: ys) ps)); omega
  · split
    · rename_i h
      rw [List.isEmpty_iff] at h
      rw [h] at hB
      rw [← hB]
      show _ = [strSub _ _ _]
      rw [StrLaws.sub_whole]
    · exact hB

-- one sign put for a text
noncomputable def repP (a : Nat) (z x : List Nat) : List Nat := x.flatMap fun k => if k = a then z else [k]
theorem repP_free {a : Nat} {z : List Nat} : ∀ {x : List Nat}, a ∉ x → repP a z x = x
  | [], _ => rfl
  | k :: r, h => by
    have h1 : ¬ k = a := fun e => h (e ▸ .head _)
    have h2 : a ∉ r := fun m => h (.tail _ m)
    have ih := repP_free (z := z) h2
    unfold repP at ih ⊢
    rw [List.flatMap_cons, ih, if_neg h1]; rfl
theorem repP_append {a : Nat} {z x y : List Nat} : repP a z (x ++ y) = repP a z x ++ repP a z y := by unfold repP; rw [List.flatMap_append]
theorem repP_join {a : Nat} {z : List Nat} : ∀ {ps : List (List Nat)}, (∀ p ∈ ps, a ∉ p) → repP a z (joinP [a] ps) = joinP z ps
  | [], _ => rfl
  | [p], h => repP_free (h p (.head _))
  | p :: q :: r, h => by
    have ih := repP_join (z := z) (ps := q :: r) fun x hx => h x (.tail _ hx)
    show repP a z (p ++ [a] ++ joinP [a] (q :: r)) = p ++ z ++ joinP z (q :: r)
    rw [repP_append, repP_append, ih, repP_free (h p (.head _))]
    simp [repP]
theorem map_S_of : ∀ l : List Str, (l.map fun p => p.cps.toList).map S = l
  | [] => rfl
  | p :: r => by rw [List.map_cons, List.map_cons, map_S_of r, S_of]
theorem replace_S (x z : List Nat) (a : Nat) : Txt.replace (S x) (S [a]) (S z) = S (repP a z x) := by
  have e1 : Txt.replace (S x) (S [a]) (S z) = Str.join (S z) (Txt.split (S x) (S [a])) := StrLaws.replace_one (S x) (S z) a
  have e2 : Str.join (S [a]) (Txt.split (S x) (S [a])) = S x := StrLaws.join_split (S x) (S [a])
  have e3 : ∀ p ∈ Txt.split (S x) (S [a]), a ∉ p.cps.toList := StrLaws.split_free (S x) a
  generalize Txt.split (S x) (S [a]) = l at e1 e2 e3
  rw [e1]
  rw [← map_S_of l, join_S] at e2
  rw [← map_S_of l, join_S, ← S_inj e2, repP_join]
  intro p hp
  obtain ⟨q, hq, rfl⟩ := List.mem_map.mp hp
  exact e3 q hq
end
section
open PySem PySem.W PyProof.Rows
open PySem.Builtin PySem.Builtin.Str
set_option Elab.async false
set_option linter.unusedVariables false
variable {T : TC} {c : Cx} {σ : List Slot}

-- join
-- split
theorem reps_strs {s : Shared} {U : List Addr} : ∀ (xs : List (List Nat)) (l : List (Str × Tok)), l.map (·.1) = xs.map S → (∀ x ∈ xs, x.length ≤ 1048576) → Reps T s U (strValues l) (xs.map .str)
  | [], l, h, _ => by
    have : l = [] := by simpa using h
    subst this; exact Reps.nil
  | x :: xs, [], h, _ => by simp at h
  | x :: xs, (y, u) :: l, h, hx => by
    simp only [List.map_cons, List.cons.injEq] at h
    have hy : y = S x := h.1
    subst hy
    exact Reps.cons (Rep.str_ (hx x (.head _))) (reps_strs xs l h.2 fun z hz => hx z (.tail _ hz))
theorem joinP_mem (sep : List Nat) : ∀ {ps : List (List Nat)} {p}, p ∈ ps → p.length ≤ (joinP sep ps).length
  | [q], p, h => by rw [List.mem_singleton.mp h]; exact Nat.le_refl _
  | q :: q2 :: r, p, h => by
    show _ ≤ (q ++ sep ++ joinP sep (q2 :: r)).length
    rcases List.mem_cons.mp h with rfl | h'
    · simp; try omega
    · have := joinP_mem sep h'
      simp; omega
theorem fresh_size {s s2 : Shared} (e : Ext s s2) : s.heap.get? s2.heap.objs.size = none := by
  cases x : s.heap.get? s2.heap.objs.size with
  | none => rfl
  | some o => have := e.keep _ _ x; rw [get_size] at this; cases this
noncomputable def NewL (T : TC) (s : Shared) (U : List Addr) (ps : List V) (v : Value) (s' : Shared) : Prop :=
  (∃ a items n, v = .ref a ∧ s.heap.get? a = none ∧ IsL s'.heap a items n ∧ ps.length ≤ 1048576 ∧ ps.all V.flat = true ∧ Reps T s' U items.toList ps)
theorem split_end {s s2 : Shared} {U : List Addr} {k : Nat} {l : List (Str × Tok)} {ps : List (List Nat)} (e2 : Ext s s2) (hl : l.map (·.1) = ps.map S) (hlen : ∀ x ∈ ps, x.length ≤ 1048576) (hps : ps.length ≤ 1048576) :
    NewL T s U (ps.map .str) (.ref s2.heap.objs.size) { s2 with heap := s2.heap.push { cls := .type "list", data := .seq (strValues l).toArray }, toks := k } ∧
      Ext0 s { s2 with heap := s2.heap.push { cls := .type "list", data := .seq (strValues l).toArray }, toks := k } :=
  ⟨⟨_, _, 0, rfl, fresh_size e2, Heap.get?_push_size _ rfl, by simpa using hps, by simp [V.flat], reps_strs ps l hl hlen⟩, e2.zero.trans (Ext0.push _ _ _)⟩
theorem EvN.split {o e apos pos a ys ps} (h1 : Ev T c σ o (.str (joinP (a :: ys) ps))) (h2 : Ev T c σ e (.str (a :: ys))) (hne : ps ≠ []) (hp : ∀ p ∈ ps, a ∉ p) (hk : (a :: ys).all (· < 256) = true) (hsz : (joinP (a :: ys) ps).length ≤ 1048576) (hps : ps.length ≤ 1048576)
    (hbase : ∀ env, attributeBase o "split" env (eval o env) = eval o env := by walk_at "r1") (hs : ∀ env, starEach [e] env = [(false, eval e env)] := by walk_at "r1")
    (hline : (apos.endLine == pos.line) = true := by rfl) : EvN T c σ (.Call (.Attribute o "split" apos) [e] [] pos) (ps.map .str) := fun A env U s O R => by
  have hlen : ∀ p ∈ ps, p.length ≤ 1048576 := fun p hp => Nat.le_trans (joinP_mem _ hp) hsz
  have hsp := split_join hne hp hk
  refine ext_of (P := fun v s' => NewL T s U (ps.map .str) v s') (Call_method1 (hbase env) (hs env) hline (wpB (h1 A env U s O R) fun v s1 ⟨a1, e1⟩ => ?_))
  obtain ⟨t, rfl, _⟩ := rep_str a1
  refine ⟨"str", _, F.plainAttrs_str, F.slot_str_split, F.type_str_split, typeIs_str _ _ _, (fun _ e => nomatch e),
    method1_meets F.slot_str_split F.entry_str_split (wpAny_mono (h2 A env U s1 O (R.ext e1)) (fun v s₁ ⟨a2, e2⟩ => ?_) fun _ _ e => e.elim)⟩
  obtain ⟨u, rfl, _⟩ := rep_str a2
  refine ⟨typeIs_str _ _ _, F.args_str_split_2 _ _, ?_⟩
  have e12 := e1.trans e2
  have hsz' : (S (joinP (a :: ys) ps)).length ≤ sizeLine := by rw [S_len]; have : (2:Nat)^24 = sizeLine := rfl; omega
  cases h1 : (decide ((S (joinP (a :: ys) ps)).length < (S (a :: ys)).length) || decide (Str.strKind (S (joinP (a :: ys) ps)) < Str.strKind (S (a :: ys))))
  · cases hf : (occurrences (S (joinP (a :: ys) ps)) (S (a :: ys)) 0 (S (joinP (a :: ys) ps)).length ((S (joinP (a :: ys) ps)).length + 1)).isEmpty
    · have hB : partsBetween (S (joinP (a :: ys) ps)) (occurrences (S (joinP (a :: ys) ps)) (S (a :: ys)) 0 (S (joinP (a :: ys) ps)).length ((S (joinP (a :: ys) ps)).length + 1)) (S (a :: ys)).length = ps.map S := by
        unfold Txt.split at hsp
        rw [h1, hf] at hsp
        simpa using hsp
      refine ⟨_, meets_str_split_sep (S (joinP (a :: ys) ps)) (S (a :: ys)) t u h1 (by rw [S_len]; rfl) hf hsz' (by rw [hB]; have : (2:Nat)^24 = sizeLine := rfl; simp; omega), ?_⟩
      show wants _ (fun _ _ => False) _ { s₁ with toks := _, heap := s₁.heap.push { cls := .type "list", data := .seq (strsFrom s₁.toks (partsBetween (S (joinP (a :: ys) ps)) (occurrences (S (joinP (a :: ys) ps)) (S (a :: ys)) 0 (S (joinP (a :: ys) ps)).length ((S (joinP (a :: ys) ps)).length + 1)) (S (a :: ys)).length)).toArray } }
      rw [strsFrom_eq]
      intro _
      exact split_end e12 ((numbered_texts _ _).trans hB) hlen hps
    · have hB : ps.map S = [S (joinP (a :: ys) ps)] := by
        unfold Txt.split at hsp
        rw [h1, hf] at hsp
        simpa using hsp.symm
      exact ⟨_, meets_str_split_not_found (S (joinP (a :: ys) ps)) (S (a :: ys)) t u h1 (by rw [S_len]; rfl) hf, fun _ => split_end (l := [(S (joinP (a :: ys) ps), t)]) e12 hB.symm hlen hps⟩
  · have hB : ps.map S = [S (joinP (a :: ys) ps)] := by
      unfold Txt.split at hsp
      rw [h1] at hsp
      simpa using hsp.symm
    exact ⟨_, meets_str_split_cannot_occur (S (joinP (a :: ys) ps)) (S (a :: ys)) t u h1, fun _ => split_end (l := [(S (joinP (a :: ys) ps), t)]) e12 hB.symm hlen hps⟩
end
section
open PySem PySem.W PyProof.Rows
open PySem.Builtin PySem.Builtin.Str
set_option Elab.async false
set_option linter.unusedVariables false
variable {T : TC} {c : Cx} {σ : List Slot}

theorem Ev.strt {x : Str} {l : List Nat} {k pos} (e : x = S l) (h : l.length ≤ 1048576) : Ev T c σ (.Constant (.str x) k pos) (.strt l) :=
  fun _ _ _ s _ R => wpAny_Constant_str ⟨by subst e; unfold Rep; exact ⟨_, rfl, h, Nat.pos_iff_ne_zero.mp R.tok, Nat.lt_succ_self _⟩, Ext.toks' s⟩

theorem Ev.replace {o e1 apos pos x a z zs k zp} (h1 : Ev T c σ o (.str x)) (h2 : Ev T c σ e1 (.strt [a])) (hz : zs = S z) (hzl : z.length ≤ 14) (hne : [a] ≠ z) (hL : (repP a z x).length ≤ 1048576)
    (hbase : ∀ env, attributeBase o "replace" env (eval o env) = eval o env := by walk_at "r1") (hs : ∀ env, starEach [e1, .Constant (.str zs) k zp] env = [(false, eval e1 env), (false, eval (.Constant (.str zs) k zp) env)] := by walk_at "r1")
    (hline : (apos.endLine == pos.line) = true := by rfl) : Ev T c σ (.Call (.Attribute o "replace" apos) [e1, .Constant (.str zs) k zp] [] pos) (.str (repP a z x)) := fun A env U s O R => by
  subst hz
  refine wpAny_Call_method_lateS (hbase env) (by rw [hs]; rfl) hline (wpB (h1 A env U s O R) fun v s1 ⟨a1, e1⟩ => ?_)
  obtain ⟨t, rfl, hx⟩ := rep_str a1
  refine ⟨"str", _, F.plainAttrs_str, F.slot_str_replace, F.type_str_replace, typeIs_str _ _ _, (fun _ e => nomatch e), ?_⟩
  rw [hs]
  refine Calls.callWith_builtin rfl (Calls.evalArgs_plain (Calls.spliced_cons (wpB (h2 A env U s1 O (R.ext e1)) fun v2 s2 ⟨a2, e2⟩ => ?_)))
  obtain ⟨u, rfl, _, hu0, hu1⟩ := rep_strt a2
  refine Calls.spliced_cons (rest := []) (x := eval (.Constant (.str (S z)) k zp) env) (wpAny_Constant_str (Calls.spliced_nil ?_))
  have e3 : Ext s2 { s2 with toks := s2.toks + 1 } := Ext.toks' s2
  refine wpB (Q := fun v s' => Rep T s' U v (.str (repP a z x)) ∧ Ext s s') (ext_of (SC.replaceW hu0 (Nat.pos_iff_ne_zero.mp (R.ext (e1.trans e2)).tok) (Nat.ne_of_lt hu1) (by rw [S_beq]; exact beq_false_of_ne hne) (by rw [S_len]; exact hx) (by rw [S_len]; exact hzl) fun t' k' _ => ⟨?_, ?_⟩)) fun v s' ⟨a, b⟩ => ⟨a, ((e1.trans e2).trans e3).trans b⟩
  · rw [replace_S]; exact Rep.str_ hL
  · exact Ext0.toks _ _

-- slices
inductive Part (T : TC) (c : Cx) (σ : List Slot) : Option Expr → Option Int → Prop
  | none : Part T c σ none none
  | int {e i} : Ev T c σ e (.int i) → Part T c σ (some e) (some i)
  | non {e} : Ev T c σ e .none → Part T c σ (some e) none
theorem Part.run {x l} (h : Part T c σ x l) {A env U s} (O : Ok c.d A) (R : Rd T c σ U env s) :
    wpAny (model T.prog T.w) A (evalPart x env) (fun v s' => (∃ l', v = partValue l' ∧ l'.map (·.1) = l) ∧ Ext s s') (fun _ _ => False) s := by
  cases h with
  | none => exact wpAny_pure ⟨⟨Option.none, rfl, rfl⟩, Ext.refl s⟩
  | int h =>
    refine wpB (h A env U s O R) fun v s' ⟨a, e⟩ => ⟨?_, e⟩
    obtain ⟨t, rfl⟩ := rep_int a
    exact ⟨some (_, t), rfl, rfl⟩
  | non h =>
    refine wpB (h A env U s O R) fun v s' ⟨a, e⟩ => ⟨?_, e⟩
    unfold Rep at a; subst a
    exact ⟨Option.none, rfl, rfl⟩
noncomputable def sliceP (x : List Nat) (l u : Option Int) : List Nat := (Txt.slice (S x) l u).cps.toList
theorem sliceP_le (x l u) : (sliceP x l u).length ≤ x.length := by
  have := Txt.slice_le (S x) l u
  rw [S_len] at this
  simpa [sliceP, Str.length] using this
theorem Ev.strslice {value lo hi p pos x l u} (h1 : Ev T c σ value (.str x)) (hl : Part T c σ lo l) (hu : Part T c σ hi u)
    (ht : ∀ o r, letTemporaryGo value o r = pure () := by walk_at "r1") : Ev T c σ (.Subscript value (.Slice lo hi Option.none p) pos) (.str (sliceP x l u)) := fun A env U s O R => by
  refine ext_of (wpAny_Subscript_str_slice (wpB (h1 A env U s O R) fun v s1 ⟨a1, e1⟩ => wpB (hl.run O (R.ext e1)) fun vl s2 ⟨a2, e2⟩ => wpB (hu.run O ((R.ext e1).ext e2)) fun vu s3 ⟨a3, e3⟩ => ?_) ht)
  obtain ⟨t, rfl, hx⟩ := rep_str a1
  obtain ⟨l', rfl, rfl⟩ := a2
  obtain ⟨u', rfl, rfl⟩ := a3
  refine ⟨S x, t, l', u', rfl, rfl, rfl, post_val_or_str ⟨?_, fun t' k hk => ⟨?_, ?_⟩⟩⟩
  · refine Nat.le_trans (Txt.slice_le (S x) _ _) ?_
    rw [S_len]; have : (2:Nat)^24 = sizeLine := rfl; omega
  · have : Txt.slice (S x) (l'.map (·.1)) (u'.map (·.1)) = S (sliceP x (l'.map (·.1)) (u'.map (·.1))) := (S_of _).symm
    have h2 := Rep.str_ (T := T) (s := { s3 with heap := s3.heap.push { cls := .type "slice", data := .fields #[partValue l', partValue u', .none] }, toks := k }) (U := U) (t := t') (Nat.le_trans (sliceP_le x (l'.map (·.1)) (u'.map (·.1))) hx)
    rw [← this] at h2
    exact h2
  · exact ((e1.trans e2).trans e3).zero.trans (Ext0.push _ _ _)
theorem sliceP_from {x : List Nat} {i : Int} (h0 : 0 ≤ i) (h : i ≤ x.length) : sliceP x (some i) none = x.drop i.toNat := by
  have := StrLaws.sliceText_from (x := S x) (i := i) (by rw [S_cps]; exact ⟨h0, h⟩)
  unfold sliceP
  show (StrLaws.sliceText (S x) (some i) none).cps.toList = _
  rw [this, S_cps]
  simp only []
  rw [List.take_of_length_le (by simp; omega)]
theorem sliceP_to {x : List Nat} {j : Int} (h0 : 0 ≤ j) (h : j ≤ x.length) : sliceP x none (some j) = x.take j.toNat := by
  have := StrLaws.sliceText_to (x := S x) (j := j) (by rw [S_cps]; exact ⟨h0, h⟩)
  unfold sliceP
  show (StrLaws.sliceText (S x) none (some j)).cps.toList = _
  rw [this, S_cps]
  simp
theorem sliceP_to_neg {x : List Nat} {j : Int} (h0 : j < 0) (h : -(x.length : Int) ≤ j) : sliceP x none (some j) = x.take (j + x.length).toNat := by
  have := StrLaws.sliceText_to_neg (x := S x) (j := j) h0 (by rw [S_len]; exact h)
  unfold sliceP
  show (StrLaws.sliceText (S x) none (some j)).cps.toList = _
  rw [this, S_cps, S_len]
  simp
theorem sliceP_all {x : List Nat} : sliceP x none none = x := by
  unfold sliceP
  have e : Txt.slice (S x) none none = Txt.slice (S x) none (some ((S x).length : Int)) := by
    unfold Txt.slice; rw [StrLaws.sliceIdx_none_hi]
  rw [e]
  have := sliceP_to (x := x) (j := x.length) (by omega) (by omega)
  unfold sliceP at this
  rw [S_len, this]
  simp

-- list slices
noncomputable def pickV (ps : List V) (lo hi st : Option Int) : List V :=
  (sliceRange (sliceBounds lo hi st ps.length).1 (sliceBounds lo hi st ps.length).2.1 (sliceBounds lo hi st ps.length).2.2).filterMap fun i => ps[i]?
theorem Reps.pick {s : Shared} {U ps vs} (h : Reps T s U vs ps) : ∀ is : List Nat, Reps T s U (is.filterMap fun i => vs[i]?) (is.filterMap fun i => ps[i]?)
  | [] => Reps.nil
  | i :: is => by
    have ih := Reps.pick h is
    rcases Nat.lt_or_ge i ps.length with hi | hi
    · obtain ⟨v, h1, h2⟩ := h.get (List.getElem?_eq_getElem hi)
      rw [List.filterMap_cons, List.filterMap_cons, h1, List.getElem?_eq_getElem hi]
      exact Reps.cons h2 ih
    · rw [List.filterMap_cons, List.filterMap_cons, List.getElem?_eq_none hi, List.getElem?_eq_none (by rw [h.length]; exact hi)]
      exact ih
theorem Part.run' {x l} (h : Part T c σ x l) {A env U s} (O : Ok c.d A) (R : Rd T c σ U env s) :
    wpAny (model T.prog T.w) A (evalPart x env) (fun v s' => IsPart v l ∧ Ext s s') (fun _ _ => False) s :=
  wpB (h.run O R) fun v s' ⟨⟨l', h1, h2⟩, e⟩ => ⟨by subst h1 h2; cases l' with | none => exact .none | some y => exact .int _ _, e⟩
theorem pick_size {s : Shared} {U ps} {it : Array Value} (h : Reps T s U it.toList ps) (lo hi st : Option Int) :
    Reps T s U (slicePick it lo hi st).toList (pickV ps lo hi st) ∧ (pickV ps lo hi st).length ≤ ps.length := by
  have hsz : it.size = ps.length := by rw [← h.length]; simp
  have key : Reps T s U (slicePick it lo hi st).toList (pickV ps lo hi st) := by
    unfold slicePick pickV
    rw [hsz]
    have := Reps.pick h (sliceRange (sliceBounds lo hi st ps.length).1 (sliceBounds lo hi st ps.length).2.1 (sliceBounds lo hi st ps.length).2.2)
    simpa using this
  refine ⟨key, ?_⟩
  rw [← key.length, ← hsz]
  have := slicePick_size_le it lo hi st
  simpa using this
-- type(x), is
theorem Ev.type_ {f p arg pos q} {ty : String} (hf : Ev T c σ (.Name f p) (.raw (.type "type"))) (ha : Ev T c σ arg q) (hq : ∀ s U v, Rep T s U v q → s.TypeIs v ty) (hnb : (Value.type ty == Value.type "builtin_function_or_method") = false)
    (hs : ∀ env, backTo pos (starEach [arg] env) = [(false, eval arg env)] := by walk_at "r1") : Ev T c σ (.Call (.Name f p) [arg] [] pos) (.raw (.type ty)) := fun A env U s O R => by
  show wpAny _ A (do callWith pos (← eval (.Name f p) env) [] (backTo pos (starEach [arg] env)) (backToKw pos (keywordEach [] env))) _ _ s
  refine wpAny_bind (wpB (hf A env U s O R) fun v s1 ⟨a1, e1⟩ => ?_)
  unfold Rep at a1
  subst a1
  rw [hs]
  refine PySem.callWith_type rfl (Calls.evalArgs_plain (Calls.spliced_cons (wpB (ha A env U s1 O (R.ext e1)) fun v2 s2 ⟨a2, e2⟩ => Calls.spliced_nil ?_)))
  exact call_type_of (hq _ _ _ a2) hnb ⟨by unfold Rep; rfl, e1.trans e2⟩
theorem typ_int {i : Int} : ∀ s U v, Rep T s U v (.int i) → s.TypeIs v "int" := fun s U v h => by obtain ⟨t, rfl⟩ := rep_int h; exact typeIs_int _ _ _
theorem typ_bool {b : Bool} : ∀ s U v, Rep T s U v (.bool b) → s.TypeIs v "bool" := fun s U v h => by rw [rep_bool h]; exact PySem.typeIs_bool _ _
theorem Cm2.is_ty {a : String} : Cm2 T .Is (.raw (.type a)) (.raw (.type a)) true := by
  intro A U s va vb O S x y
  unfold Rep at x y; subst x y
  exact wpAny_is_self rfl ⟨rfl, Ext.refl s⟩
theorem Cm2.isnot_ty {a : String} : Cm2 T .IsNot (.raw (.type a)) (.raw (.type a)) false := by
  intro A U s va vb O S x y
  unfold Rep at x y; subst x y
  exact wpAny_isNot_self rfl ⟨rfl, Ext.refl s⟩
theorem Cm2.neb {a b : Bool} : Cm2 T .NotEq (.bool a) (.bool b) (a != b) := by
  have := Cm2.ned (T := T) (p := .bool a) (q := .bool b) (by unfold dOk; rfl) (by unfold dOk; rfl)
  rw [eqV_bool] at this; exact this
-- one sign many times
noncomputable def mulP (x : List Nat) (n : Nat) : List Nat := (List.replicate n x).flatten
theorem foldl_app (l : List (Array Nat)) : ∀ a : Array Nat, (l.foldl (· ++ ·) a).toList = a.toList ++ (l.map (·.toList)).flatten := by
  induction l with
  | nil => intro a; simp
  | cons x l ih => intro a; rw [List.foldl_cons, ih]; simp
theorem mul_S (x : List Nat) (n : Int) (h : 1 ≤ n) : Txt.mul (S x) n = S (mulP x n.toNat) := by
  unfold Txt.mul
  rw [if_neg (by omega)]
  split
  · rename_i hc
    rw [Bool.or_eq_true] at hc
    rcases hc with hc | hc
    · have : n = 1 := by simpa using hc
      subst this
      simp [mulP]
    · have : x = [] := by rw [S_len] at hc; simpa using hc
      subst this
      have : ∀ k : Nat, mulP [] k = [] := fun k => by simp [mulP]
      rw [this]
  · apply Str.ext'
    apply Array.toList_inj.mp
    rw [foldl_app]
    simp [mulP, S]
theorem Op2.mulstr {x : List Nat} {n : Int} (h1 : 1 ≤ n) (h2 : n ≤ 100) (hx : x.length ≤ 100) : Op2 T .Mult (.str x) (.int n) (.str (mulP x n.toNat)) := by
  intro A U s va vb O S' a b
  obtain ⟨t, rfl, _⟩ := rep_str a; obtain ⟨u, rfl⟩ := rep_int b
  refine ext_of (SB.mul (mulOk_of 100 100 (by rw [S_len]; exact hx) (by exact_mod_cast h2) (by omega) (by decide) (by decide)) fun t' k _ => ⟨?_, Ext0.toks s k⟩)
  rw [mul_S x n h1]
  refine Rep.str_ ?_
  have : (mulP x n.toNat).length = n.toNat * x.length := by simp [mulP]
  rw [this]
  have : n.toNat * x.length ≤ 100 * 100 := Nat.mul_le_mul (by omega) hx
  omega
-- -1
theorem Ev.neg {i : Int} {e pos} (h : Ev T c σ e (.int i)) : Ev T c σ (.UnaryOp .USub e pos) (.int (-i)) := fun A env U s O R =>
  PySem.wpAny_UnaryOp (wpB (h A env U s O R) fun v s1 ⟨a1, e1⟩ => by
    obtain ⟨t, rfl⟩ := rep_int a1
    exact P.neg_int ⟨Rep.int_, e1.trans (Ext.toks' _)⟩)
end
section
open PySem PySem.W PyProof.Rows
open PySem.Builtin PySem.Builtin.Str
set_option Elab.async false
set_option linter.unusedVariables false
variable {T : TC} {c : Cx} {σ : List Slot}

-- a walk over data
structure Wk (T : TC) (A : Around) (U : List Addr) (s : Shared) (it : Value) (s2 : Shared) (I : Addr) (fp wr : List Addr) (P : Nat → Value → Prop) (St : Nat → Heap → Prop) (qs : List V) : Prop where
  ref : it = .ref I
  walks : Walks T.prog T.w A I fp wr qs.length P St
  start : St 0 s2.heap
  live : ∀ b ∈ fp, Live s2 b
  apart : ∀ b ∈ fp, b ∉ U
  fresh : ∀ b ∈ wr, s.heap.get? b = Option.none
  lives : ∀ i h, St i h → ∀ b ∈ wr, ∃ o v, h.get? b = some o ∧ o.data = .fields v
  item : ∀ i v, P i v → ∃ q, qs[i]? = some q ∧ Rep T s2 (wr ++ U) v q
noncomputable def It (T : TC) (c : Cx) (σ : List Slot) (e : Expr) (qs : List V) : Prop :=
  ∀ A env U s, Ok c.d A → Rd T c σ U env s → wpAny (model T.prog T.w) A (eval e env) (fun xv s1 => wpAny (model T.prog T.w) A (pyIter xv) (fun it s2 =>
    (∃ I fp wr P St, Wk T A U s it s2 I fp wr P St qs) ∧ Ext s s2) (fun _ _ => False) s1) (fun _ _ => False) s

theorem rep_fresh {s : Shared} {U wr : List Addr} {v p} (h : Rep T s U v p) (hw : ∀ b ∈ wr, s.heap.get? b = Option.none) : Rep T s (wr ++ U) v p :=
  Rep.set (fun a o e hn hm => by
    rcases List.mem_append.mp hm with h | h
    · have := hw a h; rw [e] at this; cases this
    · exact hn h) h
theorem fresh_of {s s2 : Shared} (e : Ext s s2) {b : Addr} (h : s2.heap.get? b = Option.none) : s.heap.get? b = Option.none := by
  cases x : s.heap.get? b with
  | none => rfl
  | some o => have := e.keep _ _ x; rw [h] at this; cases this

theorem It.list {e qs} (h : Ev T c σ e (.list qs)) : It T c σ e qs := fun A env U s O R => wpB (h A env U s O R) fun v s1 ⟨a1, e1⟩ => by
  unfold Rep at a1
  obtain ⟨a, it, n, rfl, hu, hl, hL, hr⟩ := a1
  have hsz : it.size = qs.length := by rw [← hr.length]; simp
  have hne : a ≠ s1.heap.objs.size := fun e => by rw [e] at hl; have := get_size s1.heap; rw [hl] at this; cases this
  refine wpAny_pyIter_list hl.isList ?_
  have e2 : Ext s1 { s1 with heap := s1.heap.push { cls := .type "list_iterator", data := .fields #[.ref a, .int 0 0] } } := Ext.push' s1 _
  have W := Walks.list (prog := T.prog) (w := T.w) O.handled s1.heap.objs.size a hne it
  rw [hsz] at W
  refine ⟨⟨s1.heap.objs.size, [s1.heap.objs.size, a], [s1.heap.objs.size], _, _, rfl, W, ⟨⟨_, Heap.get?_push_size _ rfl, rfl, rfl⟩, IsL.isList (n := n) (e2.keep _ _ hl)⟩, ?_, ?_, ?_, (fun i h st b hb => by simp at hb; subst hb; obtain ⟨⟨o, ho, _, hd⟩, _⟩ := st; exact ⟨o, _, ho, hd⟩), ?_⟩, e1.trans e2⟩
  · intro b hb
    simp at hb
    rcases hb with rfl | rfl
    · exact ⟨_, Heap.get?_push_size _ rfl⟩
    · exact ⟨_, e2.keep _ _ hl⟩
  · intro b hb
    simp at hb
    rcases hb with rfl | rfl
    · exact new_not (R.ext e1).used (get_size _)
    · exact hu
  · intro b hb
    simp at hb; subst hb
    exact fresh_size e1
  · intro i v hv
    have hi : i < qs.length := by
      rcases Nat.lt_or_ge i qs.length with h | h
      · exact h
      · rw [Array.getElem?_eq_none (by omega)] at hv; cases hv
    obtain ⟨v', h1, h2⟩ := hr.get (List.getElem?_eq_getElem hi)
    have : it.toList[i]? = some v := by simpa using hv
    rw [this] at h1; cases h1
    refine ⟨_, List.getElem?_eq_getElem hi, ?_⟩
    refine (rep_fresh h2 ?_).ext e2
    intro b hb; simp at hb; subst hb; exact get_size _

-- ranges
noncomputable def Rn (T : TC) (c : Cx) (σ : List Slot) (e : Expr) (a b d : Int) : Prop :=
  ∀ A env U s, Ok c.d A → Rd T c σ U env s → wpAny (model T.prog T.w) A (eval e env) (fun v s' => (∃ r t u w, v = .ref r ∧ IsRange s'.heap r a b d t u w ∧ s.heap.get? r = Option.none) ∧ Ext s s') (fun _ _ => False) s
theorem Rn.of {f p args pos ps a b d} (hf : Ev T c σ (.Name f p) (.raw (.type "range"))) (ha : EvL T c σ args ps)
    (hc : ∀ A U s vs, Ok 0 A → Reps T s U vs ps → wpAny (model T.prog T.w) A (PySem.call (.type "range") vs) (fun v s' => (∃ r t u w, v = .ref r ∧ IsRange s'.heap r a b d t u w ∧ s.heap.get? r = Option.none) ∧ Ext s s') (fun _ _ => False) s)
    (hs : ∀ env, backTo pos (starEach args env) = args.map fun e => (false, eval e env)) (hne : args ≠ []) : Rn T c σ (.Call (.Name f p) args [] pos) a b d := fun A env U s O R => by
  show wpAny _ A (do callWith pos (← eval (.Name f p) env) [] (backTo pos (starEach args env)) (backToKw pos (keywordEach [] env))) _ _ s
  refine wpAny_bind (wpB (hf A env U s O R) fun v s1 ⟨a1, e1⟩ => ?_)
  unfold Rep at a1
  subst a1
  rw [hs]
  refine PySem.callWith_type any_false (evalArgs_some (by intro x hx; obtain ⟨_, _, rfl⟩ := List.mem_map.mp hx; rfl) (map_ne hne) (wpB (ha A env U s1 O (R.ext e1)) fun vs s2 ⟨a2, e2⟩ => ?_))
  exact wpB (hc A U s2 vs O.zero a2) fun v s3 ⟨⟨r, t, u, w, h1, h2, h3⟩, e3⟩ => ⟨⟨r, t, u, w, h1, h2, fresh_of (e1.trans e2) h3⟩, (e1.trans e2).trans e3⟩
theorem Rn.one {f p e pos n} (hf : Ev T c σ (.Name f p) (.raw (.type "range"))) (ha : Ev T c σ e (.int n))
    (hs : ∀ env, backTo pos (starEach [e] env) = [e].map fun e => (false, eval e env) := by walk_at "r1") : Rn T c σ (.Call (.Name f p) [e] [] pos) 0 n 1 :=
  Rn.of hf (EvL.cons ha EvL.nil) (fun A U s vs O h => by
    obtain ⟨v, rfl, h1⟩ := reps1 h
    obtain ⟨t, rfl⟩ := rep_int h1
    refine PySem.call_range_1 ⟨⟨_, _, _, _, rfl, Heap.get?_push_size _ rfl, get_size _⟩, ?_⟩
    exact (Ext.push' s _).trans (Ext.toksn _ _ (by show s.toks ≤ s.toks + 1 + 1; omega))) hs (by simp)
theorem Rn.three {f p e e2 e3 pos a n d} (hd : d ≠ 0) (hp : divisionGoesByPylong (n - a) d = false) (hf : Ev T c σ (.Name f p) (.raw (.type "range"))) (ha : Ev T c σ e (.int a)) (hb : Ev T c σ e2 (.int n)) (hb3 : Ev T c σ e3 (.int d))
    (hs : ∀ env, backTo pos (starEach [e, e2, e3] env) = [e, e2, e3].map fun e => (false, eval e env) := by walk_at "r1") : Rn T c σ (.Call (.Name f p) [e, e2, e3] [] pos) a n d :=
  Rn.of hf (EvL.cons ha (EvL.cons hb (EvL.cons hb3 EvL.nil))) (fun A U s vs O h => by
    obtain ⟨v, w, x, rfl, h1, h2, h3⟩ := reps3 h
    obtain ⟨t, rfl⟩ := rep_int h1; obtain ⟨u, rfl⟩ := rep_int h2; obtain ⟨u3, rfl⟩ := rep_int h3
    exact call_range_3 hd ⟨⟨_, _, _, _, rfl, Heap.get?_push_size _ rfl, get_size _⟩, Ext.push' s _⟩ (.inl hp)) hs (by simp)
theorem It.range {e a b d} {n : Nat} (h : Rn T c σ e a b d) (hs : Builtin.Range.small a b d = true) (hn : Builtin.Range.rangeSize a b d = n) : It T c σ e ((List.range n).map fun (i : Nat) => .int (a + i * d)) := fun A env U s O R => wpB (h A env U s O R) fun v s1 ⟨a1, e1⟩ => by
  obtain ⟨r, t, u, w, rfl, hr, _⟩ := a1
  refine wpAny_pyIter_range hr hs ?_
  have e2 := Ext.push' s1 { cls := .type "range_iterator", data := .fields #[rawInt a, rawInt (Builtin.Range.rangeSize a b d), rawInt d] }
  refine ⟨⟨s1.heap.objs.size, [s1.heap.objs.size], [s1.heap.objs.size], _, _, rfl, by have := Walks.range (prog := T.prog) (w := T.w) O.handled s1.heap.objs.size a d n; rw [show ((List.range n).map fun (i : Nat) => V.int (a + i * d)).length = n by simp]; exact this.bound, ?_, ?_, ?_, ?_, (fun i h st b hb => by simp at hb; subst hb; exact ⟨_, _, st, rfl⟩), ?_⟩, e1.trans e2⟩
  · show IsRangeIter _ _ _ _ _; rw [hn]; simpa using Heap.get?_push_size _ rfl
  · intro b hb; simp at hb; subst hb; exact ⟨_, Heap.get?_push_size _ rfl⟩
  · intro b hb; simp at hb; subst hb; exact new_not (R.ext e1).used (get_size _)
  · intro b hb; simp at hb; subst hb; exact fresh_size e1
  · rintro i v ⟨hi, t, rfl⟩
    exact ⟨_, by simp [hi], Rep.int_⟩
end
section
open PySem PySem.W PyProof.Rows
open PySem.Builtin PySem.Builtin.Str
set_option Elab.async false
set_option linter.unusedVariables false
variable {T : TC} {c : Cx} {σ : List Slot}

-- what a comprehension's scope holds of the names about it
noncomputable def relabelN (names outer : List (Str × NameKind)) : List (Str × NameKind) :=
  names.map fun (n, k) => if (k == .free && (ScopeKind.function == ScopeKind.function) && outer.lookup n == some .cell) then (n, .cell) else (n, k)
inductive CapL (N : List Str) (σ : List Slot) : List Str → List Slot → Prop
  | nil : CapL N σ [] []
  | val {y p ys ss} : At N σ y (.val p) → CapL N σ ys ss → CapL N σ (y :: ys) (.val p :: ss)
  | own {y p ys ss} : At N σ y (.own p) → CapL N σ ys ss → CapL N σ (y :: ys) (.own p :: ss)
theorem CapL.val_of {N σ ys ss y p} (h : CapL N σ ys ss) (a : At ys ss y (.val p)) : At N σ y (.val p) ∧ y ∈ ys := by
  induction h with
  | nil => cases a
  | val h1 _ ih =>
    cases a with
    | here => exact ⟨h1, .head _⟩
    | there a => exact ⟨(ih a).1, .tail _ (ih a).2⟩
  | own h1 _ ih =>
    cases a with
    | there a => exact ⟨(ih a).1, .tail _ (ih a).2⟩
theorem CapL.own_of {N σ ys ss y p} (h : CapL N σ ys ss) (a : At ys ss y (.own p)) : At N σ y (.own p) ∧ y ∈ ys := by
  induction h with
  | nil => cases a
  | val h1 _ ih =>
    cases a with
    | there a => exact ⟨(ih a).1, .tail _ (ih a).2⟩
  | own h1 _ ih =>
    cases a with
    | here => exact ⟨h1, .head _⟩
    | there a => exact ⟨(ih a).1, .tail _ (ih a).2⟩
theorem CapL.any_of {N σ ys ss y} (h : CapL N σ ys ss) (a : y ∈ ys) : (∃ p, At N σ y (.val p)) ∨ (∃ p, At N σ y (.own p)) := by
  induction h with
  | nil => cases a
  | val h1 _ ih =>
    rcases List.mem_cons.mp a with rfl | a
    · exact .inl ⟨_, h1⟩
    · exact ih a
  | own h1 _ ih =>
    rcases List.mem_cons.mp a with rfl | a
    · exact .inr ⟨_, h1⟩
    · exact ih a
-- what a name of the top stands for
noncomputable def GlobIs (T : TC) (x : Str) (p : V) : Prop := (x == ("__debug__" : Str)) = false ∧ ∃ v, (T.mg x = some v ∨ (T.mg x = none ∧ T.mb x = some v)) ∧ ∀ s U, Rep T s U v p
-- the globals that are seen
inductive CapG (T : TC) (fr : Str → Bool) : List (Str × V) → List (Str × V) → Prop
  | nil : CapG T fr [] []
  | take {y p G G'} : fr y = true → CapG T fr G G' → CapG T fr ((y, p) :: G) ((y, p) :: G')
  | skip {e G G'} : CapG T fr G G' → CapG T fr (e :: G) G'
  | more {y p G G'} : fr y = true → GlobIs T y p → CapG T fr G G' → CapG T fr G ((y, p) :: G')
theorem CapG.of {fr G G' y p} (h : CapG T fr G G') (a : AtG G' y p) : (AtG G y p ∨ GlobIs T y p) ∧ fr y = true := by
  induction h with
  | nil => cases a
  | take h1 _ ih =>
    cases a with
    | here => exact ⟨.inl .here, h1⟩
    | there a => exact ⟨(ih a).1.imp .there id, (ih a).2⟩
  | skip _ ih => exact ⟨(ih a).1.imp .there id, (ih a).2⟩
  | more h1 h2 _ ih =>
    cases a with
    | here => exact ⟨.inr h2, h1⟩
    | there a => exact ih a

-- a scope's own marks, all by computation
structure CompOk (nm : List (Str × NameKind)) (scope : Scope) (x : Str) (caps : List Str) : Prop where
  kind : scope.kind = .function
  cell : ∀ y ∈ scope.names, y.2 ≠ .cell
  names : ∀ y ∈ scope.names, y.2 = .local → scope.names.lookup y.1 = some .local
  loc : scope.names.lookup x = some .local
  dbg : (x == ("__debug__" : Str)) = false
  free : ∀ y ∈ scope.names, y.2 = .free → y.1 ∈ caps
  caps : ∀ y ∈ caps, nm.lookup y = some .cell ∧ scope.names.lookup y = some .free
noncomputable def compOkB (nm : List (Str × NameKind)) (scope : Scope) (x : Str) (caps : List Str) : Bool :=
  (scope.kind == .function) && (scope.names.all fun y => y.2 != .cell) && (scope.names.all fun y => y.2 != .local || scope.names.lookup y.1 == some .local) && (scope.names.lookup x == some .local) &&
  (!(x == ("__debug__" : Str))) && (scope.names.all fun y => y.2 != .free || caps.contains y.1) && (caps.all fun y => nm.lookup y == some .cell && scope.names.lookup y == some .free)
theorem CompOk.of {nm scope x caps} (h : compOkB nm scope x caps = true) : CompOk nm scope x caps := by
  unfold compOkB at h
  simp only [Bool.and_eq_true, List.all_eq_true, Bool.or_eq_true, Bool.not_eq_true', beq_iff_eq, bne_iff_ne, ne_eq, List.contains_iff_mem] at h
  obtain ⟨⟨⟨⟨⟨⟨h1, h2⟩, h3⟩, h4⟩, h5⟩, h6⟩, h7⟩ := h
  exact ⟨h1, h2, fun y hy e => (h3 y hy).resolve_left (fun n => n e), h4, h5, fun y hy e => (h6 y hy).resolve_left (fun n => n e), h7⟩

theorem relabel_names {scope : Scope} {env : Env} {nm} (hk : env.scope.kind = .function) (hn : env.scope.names = nm) : (relabel scope env).names = relabelN scope.names nm := by
  unfold relabel relabelN Env.kindOf
  rw [hk, hn]
theorem lookup_map_eq {f : Str × NameKind → Str × NameKind} (hf : ∀ e, (f e).1 = e.1) : ∀ {names : List (Str × NameKind)} {y : Str} {k : NameKind}, names.lookup y = some k → (names.map f).lookup y = some (f (y, k)).2
  | [], _, _, h => by simp at h
  | (n, k') :: r, y, k, h => by
    rw [List.map_cons]
    have e : f (n, k') = (n, (f (n, k')).2) := Prod.ext (hf _) rfl
    rw [e, List.lookup_cons]
    rw [List.lookup_cons] at h
    cases hx : y == n with
    | true =>
      rw [hx] at h
      have hk : k' = k := by simpa using h
      have hy : y = n := by simpa using hx
      subst hk hy; rfl
    | false =>
      rw [hx] at h
      exact lookup_map_eq hf h

-- the closure: the cells of the names about it
theorem closure_of {scope : Scope} {env : Env} (h : ∀ y ∈ scope.names, y.2 = .free → ∃ a, env.cells.lookup y.1 = some a) :
    ∃ cl, closureFor scope env = pure cl ∧ ∀ y, scope.names.lookup y = some .free → cl.lookup y = env.cells.lookup y := by
  have key : ∀ (names : List (Str × NameKind)) (acc : List (Str × Addr)), (∀ y ∈ names, y.2 = .free → ∃ a, env.cells.lookup y.1 = some a) → (∀ y a, acc.lookup y = some a → env.cells.lookup y = some a) →
      ∃ cl, (forIn names acc fun (x : Str × NameKind) (r : List (Str × Addr)) => if (x.2 == NameKind.free) = true then (do let a ← cellOf env x.1; pure (ForInStep.yield ((x.1, a) :: r)) : Sem _) else pure (ForInStep.yield r)) = (pure cl : Sem _) ∧
        (∀ y a, cl.lookup y = some a → env.cells.lookup y = some a) ∧ (∀ y, (acc.lookup y).isSome = true → (cl.lookup y).isSome = true) ∧ (∀ y, names.lookup y = some .free → (cl.lookup y).isSome = true) := by
    intro names
    induction names with
    | nil => intro acc _ hacc; exact ⟨acc, by rw [List.forIn_nil], hacc, fun _ h => h, fun _ h => by simp at h⟩
    | cons e r ih =>
      intro acc hc hacc
      obtain ⟨n, k⟩ := e
      rw [List.forIn_cons]
      cases hk : (k == NameKind.free) with
      | true =>
        have hk' : k = .free := by simpa using hk
        obtain ⟨a, ha⟩ := hc (n, k) (.head _) hk'
        simp only [if_true]
        have e1 : cellOf env n = pure a := by unfold cellOf; simp only [] at ha; rw [ha]
        rw [e1]
        obtain ⟨cl, h1, h2, h3, h4⟩ := ih ((n, a) :: acc) (fun y hy => hc y (.tail _ hy)) (by
          intro y b hb
          rw [List.lookup_cons] at hb
          cases hx : y == n with
          | true => rw [hx] at hb; have : y = n := by simpa using hx
                    subst this; rw [← hb]; exact ha
          | false => rw [hx] at hb; exact hacc y b hb)
        refine ⟨cl, by simpa using h1, h2, fun y hy => h3 y ?_, fun y hy => ?_⟩
        · rw [List.lookup_cons]; cases y == n <;> simp_all
        · rw [List.lookup_cons] at hy
          cases hx : y == n with
          | true => exact h3 y (by rw [List.lookup_cons, hx]; rfl)
          | false => rw [hx] at hy; exact h4 y hy
      | false =>
        simp only [Bool.false_eq_true, if_false]
        obtain ⟨cl, h1, h2, h3, h4⟩ := ih acc (fun y hy => hc y (.tail _ hy)) hacc
        refine ⟨cl, by simpa using h1, h2, h3, fun y hy => ?_⟩
        rw [List.lookup_cons] at hy
        cases hx : y == n with
        | true => rw [hx] at hy; simp at hy; subst hy; simp at hk
        | false => rw [hx] at hy; exact h4 y hy
  obtain ⟨cl, h1, h2, _, h4⟩ := key scope.names [] h (by simp)
  refine ⟨cl, ?_, fun y hy => ?_⟩
  · rw [← h1]
    unfold closureFor
    simp only [bind_pure]
  · have := h4 y hy
    cases hl : cl.lookup y with
    | none => rw [hl] at this; cases this
    | some a => exact (h2 y a hl).symm
end
section
open PySem PySem.W PyProof.Rows
open PySem.Builtin PySem.Builtin.Str
set_option Elab.async false
set_option linter.unusedVariables false
variable {T : TC} {c : Cx} {σ : List Slot}

noncomputable def TrIf (T : TC) (c : Cx) (σ : List Slot) (ifs : List Expr) (b : Bool) : Prop :=
  ∀ A env U s, Ok c.d A → Rd T c σ U env s → ∀ E', wpAny (model T.prog T.w) A (forIn ifs true fun e r => if r = true then do let ok ← isTrue e env (eval e env); pure (ForInStep.yield ok) else pure (ForInStep.yield r))
    (fun ok s' => ok = b ∧ Ext s s') E' s
theorem TrIf.nil : TrIf T c σ [] true := fun A env U s O R E' => by rw [List.forIn_nil]; exact wpAny_pure ⟨rfl, Ext.refl s⟩
theorem TrIf.one {e b} (h : Tr T c σ e b) : TrIf T c σ [e] b := fun A env U s O R E' => by
  rw [List.forIn_cons]
  simp only [if_true]
  refine wpAny_bind (wpAny_bind (wpAny_mono (h A env U s O R) (fun r s' h' => wpAny_pure ?_) fun _ _ e => e.elim))
  dsimp only
  rw [List.forIn_nil]
  exact wpAny_pure h'

noncomputable def compR {α : Type} (n : Nat) (t : Nat → Bool) (f : Nat → α) : List α := ((List.range n).filter t).map f
theorem compR_succ {α : Type} (n : Nat) (t : Nat → Bool) (f : Nat → α) : compR (n + 1) t f = compR n t f ++ (if t n then [f n] else []) := by
  unfold compR
  rw [List.range_succ, List.filter_append, List.map_append]
  cases h : t n <;> simp [h]
theorem compR_len {α : Type} (n : Nat) (t : Nat → Bool) (f : Nat → α) : (compR n t f).length ≤ n := by
  unfold compR
  rw [List.length_map]
  exact Nat.le_trans (List.length_filter_le _ _) (by simp)

structure CompCx (T : TC) (c : Cx) (σ : List Slot) (scope : Scope) (x : Str) (c' : Cx) (caps : List Str) (cs : List Slot) : Prop where
  ok : CompOk c.nm scope x caps
  cap : CapL c.N σ caps cs
  d : c'.d = c.d
  nm : c'.nm = relabelN scope.names c.nm
  N : c'.N = x :: caps
  G : CapG T (fun y => scope.names.lookup y == some .globalImplicit) c.G c'.G

-- the inner names' state
theorem comp_rd {scope x c' caps cs} (H : CompCx T c σ scope x c' caps cs) {U U' : List Addr} {env : Env} {s s3 : Shared} {cl : List (Str × Addr)} {C : Addr} {m : Str → Option Value} {v : Value} {q : V}
    (R : Rd T c σ U env s) (e : Ext s s3) (hU : ∀ a o, s.heap.get? a = some o → a ∉ U → a ∉ U') (hl : ∀ a ∈ U', Live s3 a)
    (hcl : ∀ y, scope.names.lookup y = some .free → cl.lookup y = env.cells.lookup y) (hn : s3.heap.Ns C m) (hx : m x = some v) (hq : Rep T s3 U' v q) : Rd T c' (.val q :: cs) U' (compEnvC scope cl C env) s3 := by
  have ek : env.scope.kind = .function := R.kind
  have kx : (compEnvC scope cl C env).kindOf x = some .local := lookup_relabel_local H.ok.loc
  have ky : ∀ y ∈ caps, (compEnvC scope cl C env).kindOf y = some .cell ∧ (compEnvC scope cl C env).cells.lookup y = env.cells.lookup y ∧ env.kindOf y = some .cell := by
    intro y hy
    obtain ⟨h1, h2⟩ := H.ok.caps y hy
    have h3 : env.kindOf y = some .cell := by unfold Env.kindOf; rw [R.names]; exact h1
    refine ⟨?_, hcl y h2, h3⟩
    show (relabel scope env).names.lookup y = some .cell
    unfold relabel
    refine (lookup_map_eq (f := fun (n, k) => if (k == .free && env.scope.kind == .function && env.kindOf n == some .cell) then (n, .cell) else (n, k)) (fun e => by dsimp only; split <;> rfl) h2).trans ?_
    simp [ek, h3]
  have hv : ∀ y v, y ∈ caps → HoldsVar s.heap env y v → HoldsVar s3.heap (compEnvC scope cl C env) y v := by
    intro y v hy h
    obtain ⟨h1, h2, h3⟩ := ky y hy
    rcases h with ⟨a, _⟩ | ⟨_, cc, h4, h5⟩
    · rw [h3] at a; cases a
    · exact .inr ⟨h1, cc, by rw [h2]; exact h4, h5.keeps e.keep⟩
  refine ⟨R.top.trans e.keep, by show (relabel scope env).kind = _; exact H.ok.kind, ?_, R.globals, R.builtins, ?_, ?_, ?_, hl, Nat.lt_of_lt_of_le R.tok e.toks⟩
  · rw [H.nm]; exact relabel_names R.kind R.names
  · intro y p a
    rw [H.N] at a
    cases a with
    | here => exact ⟨H.ok.dbg, v, .inl ⟨kx, m, hn, hx⟩, hq⟩
    | there a =>
      obtain ⟨a1, a2⟩ := H.cap.val_of a
      obtain ⟨h1, v', h2, h3⟩ := R.var y p a1
      exact ⟨h1, v', hv y v' a2 h2, (h3.set hU).ext e⟩
  · intro y ps a
    rw [H.N] at a
    cases a with
    | there a =>
      obtain ⟨a1, a2⟩ := H.cap.own_of a
      obtain ⟨h1, b, it, n, h2, h3, h4, h5⟩ := R.own y ps a1
      exact ⟨h1, b, it, n, hv y _ a2 h2, e.keep _ _ h3, h4, (h5.set hU).ext e⟩
  · intro y p a
    obtain ⟨a1, a2⟩ := H.G.of a
    have a3 : GlobIs T y p := by
      rcases a1 with a1 | a1
      · obtain ⟨h1, v', ⟨_, h3⟩, h4⟩ := R.glob y p a1
        exact ⟨h1, v', h3, h4⟩
      · exact a1
    obtain ⟨h1, v', h3, h4⟩ := a3
    refine ⟨h1, v', ⟨?_, h3⟩, h4⟩
    show (relabel scope env).names.lookup y = some .globalImplicit
    unfold relabel
    exact (lookup_map_eq (f := fun (n, k) => if (k == .free && env.scope.kind == .function && env.kindOf n == some .cell) then (n, .cell) else (n, k)) (fun e => by dsimp only; split <;> rfl) (by simpa using a2)).trans (by rfl)

theorem comp_loop {elt iter : Expr} {x : Str} {px : Pos} {ifs : List Expr} {scope : Scope} {pos : Pos} {A : Around} {U : List Addr} {env : Env} {s s2 s3 : Shared} {c' caps cs} (H : CompCx T c σ scope x c' caps cs)
    {qs : List V} {t : Nat → Bool} {f : Nat → V} {it : Value} {I D C : Addr} {fp wr : List Addr} {P : Nat → Value → Prop} {St : Nat → Heap → Prop} {cl : List (Str × Addr)} {RR : Result → Shared → Prop}
    (htest : ∀ i q, qs[i]? = some q → TrIf T c' (.val q :: cs) ifs (t i)) (helt : ∀ i q, qs[i]? = some q → t i = true → Ev T c' (.val q :: cs) elt (f i))
    (O : Ok c.d A) (R : Rd T c σ U env s) (e2 : Ext s s2) (e3 : Ext s2 s3) (W : Wk T A U s it s2 I fp wr P St qs) (hsz : qs.length ≤ 1048576)
    (hcl : ∀ y, scope.names.lookup y = some .free → cl.lookup y = env.cells.lookup y)
    (hD : s2.heap.get? D = Option.none) (hC : s2.heap.get? C = Option.none) (hDC : D ≠ C) (hacc : s3.heap.PlainList D #[]) (m : Str → Option Value) (hn : s3.heap.Ns C m)
    (hRR : ∀ s' m' ys, s'.heap.PlainList D ys → s'.heap.Ns C m' → Reps T s' (D :: C :: (wr ++ U)) ys.toList (compR qs.length t f) → Ext s s' → RR (.ok .next) s') :
    codeAny (model T.prog T.w) A (.compLoop (.ListComp elt [⟨.Name x px, iter, ifs, 0⟩] scope pos) 0 (.ref I) (.ref D) (compEnvC scope cl C env)) RR s3 := by
  have Wk := W.walks
  have hDf : D ∉ fp := fun h => by obtain ⟨o, ho⟩ := W.live D h; rw [hD] at ho; cases ho
  have hCf : C ∉ fp := fun h => by obtain ⟨o, ho⟩ := W.live C h; rw [hC] at ho; cases ho
  have hDw : D ∉ wr := fun h => hDf (Wk.sub _ h)
  have hCw : C ∉ wr := fun h => hCf (Wk.sub _ h)
  have hx : (compEnvC scope cl C env).kindOf x = some .local := lookup_relabel_local H.ok.loc
  have hp : ((compEnvC scope cl C env).scope.kind == .class || ((compEnvC scope cl C env).scope.kind == .module && (compEnvC scope cl C env).locals != (compEnvC scope cl C env).globals)) = false := by
    have : (compEnvC scope cl C env).scope.kind = .function := H.ok.kind
    rw [this]; rfl
  have hU : ∀ a o, s.heap.get? a = some o → a ∉ U → a ∉ D :: C :: (wr ++ U) := by
    intro a o ha hu hm
    have h2 := e2.keep _ _ ha
    rcases List.mem_cons.mp hm with rfl | hm
    · rw [hD] at h2; cases h2
    rcases List.mem_cons.mp hm with rfl | hm
    · rw [hC] at h2; cases h2
    rcases List.mem_append.mp hm with hm | hm
    · have := W.fresh a hm; rw [ha] at this; cases this
    · exact hu hm
  -- what the turns keep
  refine codeAny_compLoop_tests
    (fun k s' => ∃ i m' ys, St i s'.heap ∧ s'.heap.PlainList D ys ∧ s'.heap.Ns C m' ∧ Reps T s' (D :: C :: (wr ++ U)) ys.toList (compR i t f) ∧ i ≤ qs.length ∧ k = qs.length + 1 - i ∧
      (∀ b o, b ≠ C → b ∉ wr → b ≠ D → s3.heap.get? b = some o → s'.heap.get? b = some o) ∧ Ext s s' ∧ (∀ b ∈ wr, Live s' b) ∧ s3.toks ≤ s'.toks) ?_ (qs.length + 1)
    ⟨0, m, #[], Wk.frame 0 _ _ W.start (fun b _ o e => e3.keep _ _ e), hacc, hn, by simp [compR]; exact Reps.nil, Nat.zero_le _, rfl, fun _ _ _ _ _ e => e, e2.trans e3, fun b hb => (W.live b (Wk.sub b hb)).ext e3, Nat.le_refl _⟩
  rintro k s' ⟨i, m', ys, hst', hacc', hn', hF, hi, rfl, hk, hE, hwl, htk⟩
  have liveU : ∀ (s'' : Shared) (m'' : Str → Option Value) (zs : Array Value), s''.heap.PlainList D zs → s''.heap.Ns C m'' → Ext s s'' → (∀ b ∈ wr, Live s'' b) → ∀ a ∈ D :: C :: (wr ++ U), Live s'' a := by
    intro s'' m'' zs h1 h2 h3 h4 a ha
    rcases List.mem_cons.mp ha with rfl | ha
    · obtain ⟨n, h⟩ := h1; exact ⟨_, h⟩
    rcases List.mem_cons.mp ha with rfl | ha
    · obtain ⟨o, _, _, h, _⟩ := h2; exact ⟨_, h⟩
    rcases List.mem_append.mp ha with ha | ha
    · exact h4 a ha
    · exact (R.used a ha).ext h3
  by_cases hlt : i < qs.length
  · refine wpAny_with_toks (n := s'.toks) (Nat.le_refl _) (Wk.item i s' _ _ hlt hst' fun v h₁ tk₁ hPv hst₁ hk₁ htk₁ => ?_)
    have htk₁ : s'.toks ≤ tk₁ := htk₁
    obtain ⟨q, hq, hrep⟩ := W.item i v hPv
    refine wpAny_assign_Name (wpAny_storeName_local hx (hn'.at' fun o e => hk₁ _ o hCw e) (fun h₂ hn₂ hs₂ => ?_) hp)
    have old : ∀ b o, s.heap.get? b = some o → s'.heap.get? b = some o := hE.keep
    have sne : ∀ b o, s.heap.get? b = some o → b ≠ C ∧ b ∉ wr ∧ b ≠ D := fun b o e => by
      refine ⟨?_, ?_, ?_⟩
      · rintro rfl; have := e2.keep _ _ e; rw [hC] at this; cases this
      · intro hm; have := W.fresh b hm; rw [e] at this; cases this
      · rintro rfl; have := e2.keep _ _ e; rw [hD] at this; cases this
    have up₂ : ∀ b o, b ≠ C → b ∉ wr → s'.heap.get? b = some o → h₂.get? b = some o := fun b o hbC hbf e => hs₂.extBut b o hbC (hk₁ b o hbf e)
    have hst₂ : St (i + 1) h₂ := Wk.frame _ _ _ hst₁ fun b hb o e => hs₂.extBut b o (fun (h : b = C) => hCf (h ▸ hb)) e
    have hE₂ : Ext s { s' with heap := h₂, toks := tk₁ + 1 } := ⟨fun b o e => up₂ b o (sne b o e).1 (sne b o e).2.1 (old b o e), hE.gens, hE.os, Nat.le_trans hE.toks (Nat.le_succ_of_le htk₁)⟩
    have hwl₂ : ∀ b ∈ wr, Live { s' with heap := h₂, toks := tk₁ + 1 } b := fun b hb => let ⟨o, _, h, _⟩ := W.lives _ _ hst₂ b hb; ⟨o, h⟩
    have hacc₂ : h₂.PlainList D ys := hacc'.at fun o e => up₂ D o hDC hDw e
    have rep₂ : Rep T { s' with heap := h₂, toks := tk₁ + 1 } (D :: C :: (wr ++ U)) v q := by
      have : Rep T s2 (D :: C :: (wr ++ U)) v q := Rep.set (fun a o ha hn hm => by
        rcases List.mem_cons.mp hm with rfl | hm
        · rw [hD] at ha; cases ha
        rcases List.mem_cons.mp hm with rfl | hm
        · rw [hC] at ha; cases ha
        · exact hn hm) hrep
      refine Rep.but (fun a o hn ha => ?_) (Nat.le_succ_of_le (Nat.le_trans e3.toks (Nat.le_trans htk htk₁))) this
      simp only [List.mem_cons, List.mem_append, not_or] at hn
      exact up₂ a o hn.2.1 hn.2.2.1 (hk a o hn.2.1 hn.2.2.1 hn.1 (e3.keep _ _ ha))
    have R₂ := comp_rd H R hE₂ hU (liveU _ _ _ hacc₂ hn₂ hE₂ hwl₂) hcl hn₂ (by simp) rep₂
    have O' : Ok c'.d A := by rw [H.d]; exact O
    refine wpAny_mono (htest i q hq A _ _ _ O' R₂ _) (fun ok s₃ h₃ => ?_) fun _ _ e => e
    obtain ⟨rfl, e₃⟩ := h₃
    have repsU : ∀ (s'' : Shared) {vs : List Value} {l : List V}, (∀ b o, b ≠ C → b ∉ wr → b ≠ D → s'.heap.get? b = some o → s''.heap.get? b = some o) → s'.toks ≤ s''.toks → Reps T s' (D :: C :: (wr ++ U)) vs l → Reps T s'' (D :: C :: (wr ++ U)) vs l := fun s'' vs l h1 h2 h3 =>
      Reps.but (fun a o hn ha => by simp only [List.mem_cons, List.mem_append, not_or] at hn; exact h1 a o hn.2.1 hn.2.2.1 hn.1 ha) h2 h3
    cases hpv : t i with
    | false =>
      simp only [Bool.false_eq_true, if_false]
      refine ⟨qs.length + 1 - (i + 1), by omega, i + 1, _, ys, Wk.frame _ _ _ hst₂ (fun b _ o e => e₃.keep _ _ e), hacc₂.at (fun o e => e₃.keep _ _ e), hn₂.keeps e₃.keep, ?_, hlt, rfl, ?_, hE₂.trans e₃, fun b hb => (hwl₂ b hb).ext e₃, ?_⟩
      · rw [compR_succ, hpv]
        simp only [Bool.false_eq_true, if_false, List.append_nil]
        exact repsU _ (fun b o h1 h2 h3 e => e₃.keep _ _ (up₂ b o h1 h2 e)) (Nat.le_trans (Nat.le_succ_of_le htk₁) e₃.toks) hF
      · exact fun b o h1 h2 h3 e => e₃.keep _ _ (up₂ b o h1 h2 (hk b o h1 h2 h3 e))
      · exact Nat.le_trans htk (Nat.le_trans (Nat.le_succ_of_le htk₁) e₃.toks)
    | true =>
      simp only [if_true]
      have R₃ := R₂.ext e₃
      refine wpAny_mono (helt i q hq hpv A _ _ _ O' R₃) (fun y s₄ h₄ => ?_) fun _ _ e => e.elim
      obtain ⟨hy, e₄⟩ := h₄
      have e34 := e₃.trans e₄
      have hys : ys.size ≤ sizeLine := by
        have e1 := hF.length
        have e2' := compR_len i t f
        have e4 : ys.toList.length = ys.size := by simp
        have : (2:Nat)^24 = sizeLine := rfl
        omega
      refine wpAny_list_append_plain (hsz := hys) (hacc₂.at fun o e => e34.keep _ _ e) fun h₅ hl₅ hs₅ => ?_
      refine ⟨qs.length + 1 - (i + 1), by omega, i + 1, _, ys.push y, ?_, hl₅, (hn₂.keeps e34.keep).sameBut hs₅ (Ne.symm hDC), ?_, hlt, rfl, ?_, ?_, ?_, ?_⟩
      · exact Wk.frame _ _ _ hst₂ fun b hb o e => hs₅.extBut b o (fun h => hDf (h ▸ hb)) (e34.keep _ _ e)
      · rw [compR_succ, hpv]
        simp only [if_true, Array.toList_push]
        refine Reps.append (repsU _ (fun b o h1 h2 h3 e => hs₅.extBut b o h3 (e34.keep _ _ (up₂ b o h1 h2 e))) (Nat.le_trans (Nat.le_succ_of_le htk₁) e34.toks) hF) (Reps.cons ?_ Reps.nil)
        refine Rep.but (s := s₄) (s' := { s₄ with heap := h₅ }) (fun a o hn ha => ?_) (Nat.le_refl _) hy
        simp only [List.mem_cons, not_or] at hn
        exact hs₅.extBut a o hn.1 ha
      · exact fun b o h1 h2 h3 e => hs₅.extBut b o h3 (e34.keep _ _ (up₂ b o h1 h2 (hk b o h1 h2 h3 e)))
      · have hE4 := hE₂.trans e34
        exact ⟨fun b o e => hs₅.extBut b o (sne b o e).2.2 (hE4.keep _ _ e), hE4.gens, hE4.os, hE4.toks⟩
      · intro b hb
        obtain ⟨o, ho⟩ := (hwl₂ b hb).ext e34
        exact ⟨o, hs₅.extBut b o (fun h => hDw (h ▸ hb)) ho⟩
      · exact Nat.le_trans htk (Nat.le_trans (Nat.le_succ_of_le htk₁) e34.toks)
  · have hin : i = qs.length := by omega
    subst hin
    refine wpAny_with_toks (n := s'.toks) (Nat.le_refl _) (Wk.done s' _ _ hst' fun h₁ tk₁ hk₁ htk₁ => ?_)
    refine hRR _ m' ys (hacc'.at fun o e => hk₁ _ o hDw e) (hn'.at' fun o e => hk₁ _ o hCw e) ?_ ?_
    · exact Reps.but (fun a o hn ha => by simp only [List.mem_cons, List.mem_append, not_or] at hn; exact hk₁ a o hn.2.2.1 ha) htk₁ hF
    · exact ⟨fun b o e => hk₁ b o (fun hm => by have := W.fresh b hm; rw [e] at this; cases this) (hE.keep _ _ e), hE.gens, hE.os, Nat.le_trans hE.toks htk₁⟩
end
section
open PySem PySem.W PyProof.Rows
open PySem.Builtin PySem.Builtin.Str
set_option Elab.async false
set_option linter.unusedVariables false
variable {T : TC} {c : Cx} {σ : List Slot}

theorem comp_core {elt iter : Expr} {x : Str} {px : Pos} {ifs : List Expr} {scope : Scope} {pos fpos : Pos} {A : Around} {U : List Addr} {env : Env} {s : Shared} {c' caps cs} (H : CompCx T c σ scope x c' caps cs)
    {qs : List V} {t : Nat → Bool} {f : Nat → V} {use : Option (Value → Sem Unit)} {Q : Value → Shared → Prop}
    (hit : It T c σ iter qs) (htest : ∀ i q, qs[i]? = some q → TrIf T c' (.val q :: cs) ifs (t i)) (helt : ∀ i q, qs[i]? = some q → t i = true → Ev T c' (.val q :: cs) elt (f i))
    (O : Ok c.d A) (R : Rd T c σ U env s) (hsz : qs.length ≤ 1048576) (hs : ∀ x, foldedSetIterable iter env x = pure x)
    (hend : ∀ D C wr s' m' ys n, s.heap.get? D = Option.none → s.heap.get? C = Option.none → D ≠ C → IsL s'.heap D ys n → s'.heap.Ns C m' → Reps T s' (D :: C :: (wr ++ U)) ys.toList (compR qs.length t f) → Ext s s' →
      compPost (model T.prog T.w) A (fun _ _ => False) use Q (.ref D) C (.ok .next) s') :
    wpAny (model T.prog T.w) A (comprehension (.ListComp elt [⟨.Name x px, iter, ifs, 0⟩] scope pos) scope env fpos (newList []) false (eval iter env) use) Q (fun _ _ => False) s := by
  have hcells : ∀ y ∈ scope.names, y.2 = .free → ∃ a, env.cells.lookup y.1 = some a := by
    intro y hy hf
    have hc := H.ok.free y hy hf
    have hk : env.kindOf y.1 = some .cell := by unfold Env.kindOf; rw [R.names]; exact (H.ok.caps y.1 hc).1
    have : ∃ v, HoldsVar s.heap env y.1 v := by
      rcases H.cap.any_of hc with ⟨p, h⟩ | ⟨p, h⟩
      · obtain ⟨_, v, h1, _⟩ := R.var _ _ h; exact ⟨v, h1⟩
      · obtain ⟨_, a, _, _, h1, _⟩ := R.own _ _ h; exact ⟨_, h1⟩
    obtain ⟨v, h | ⟨_, cc, h4, _⟩⟩ := this
    · rw [hk] at h; cases h.1
    · exact ⟨cc, h4⟩
  obtain ⟨cl, hclos, hcl⟩ := closure_of hcells
  refine wpAny_comprehension_free (use := use) rfl hs hclos H.ok.kind H.ok.names (wpB (hit A env U s O R) (fun xv s₁ h₁ => wpB h₁ (fun it s₂ h₂ => ?_)))
  obtain ⟨⟨I, fp, wr, P, St, W⟩, e2⟩ := h₂
  obtain rfl := W.ref
  refine wpAny_newObj_type (wpAny_newFunctionEnv H.ok.cell (by intro y hy; simp at hy) (fun h₁ hns₁ hsb₁ => ?_) H.ok.kind)
  dsimp only at hns₁ hsb₁ ⊢
  generalize hH2 : s₂.heap.push { cls := .type "list", dict := Option.none, data := .seq ([] : List Value).toArray } = H2 at hns₁ hsb₁ ⊢
  have hC : H2.objs.size = s₂.heap.objs.size + 1 := by rw [← hH2, Heap.size_push]
  have hDC : s₂.heap.objs.size ≠ H2.objs.size := by rw [hC]; exact Nat.ne_of_lt (Nat.lt_succ_self _)
  have hDn : s₂.heap.get? s₂.heap.objs.size = Option.none := get_size _
  have hCn : s₂.heap.get? H2.objs.size = Option.none := get_ge (by rw [hC]; exact Nat.le_succ _)
  have below : ∀ b, b < s₂.heap.objs.size → b ≠ H2.objs.size ∧ b ≠ s₂.heap.objs.size := fun b hb => ⟨by rw [hC]; exact Nat.ne_of_lt (Nat.lt_succ_of_lt hb), Nat.ne_of_lt hb⟩
  have old : ∀ b o, s₂.heap.get? b = some o → h₁.get? b = some o := fun b o e => hsb₁.extBut b o (below b (Heap.lt_size e)).1 (Heap.get?_push_of_some _ (hH2 ▸ Heap.get?_push_of_some _ e))
  have hacc : h₁.PlainList s₂.heap.objs.size #[] := ⟨_, hsb₁.extBut _ _ hDC (Heap.get?_push_of_some _ (hH2 ▸ Heap.get?_push_size _ rfl))⟩
  have loop : ∀ s₃ : Shared, s₃ = { s₂ with heap := h₁, toks := s₂.toks + ([] : List (Str × Value)).length } →
      codeAny (model T.prog T.w) A (.compLoop (.ListComp elt [⟨.Name x px, iter, ifs, 0⟩] scope pos) 0 (.ref I) (.ref s₂.heap.objs.size) (compEnvC scope cl H2.objs.size env))
        (compPost (model T.prog T.w) A (fun _ _ => False) use Q (.ref s₂.heap.objs.size) H2.objs.size) s₃ := by
    rintro s₃ rfl
    have e3 : Ext s₂ { s₂ with heap := h₁, toks := s₂.toks + ([] : List (Str × Value)).length } := ⟨old, rfl, rfl, Nat.le_add_right _ _⟩
    refine comp_loop H htest helt O R e2 e3 W hsz hcl hDn hCn hDC hacc _ hns₁ fun s' m' ys hpl hn hr he => ?_
    obtain ⟨n, hpl⟩ := hpl
    exact hend _ _ wr s' m' ys n (fresh_of e2 hDn) (fresh_of e2 hCn) hDC hpl hn hr he
  exact codeAny_compStart_list (loop _ rfl) (W.walks.self 0 { s₂ with heap := h₁, toks := s₂.toks + ([] : List (Str × Value)).length } _ _ (W.walks.frame _ _ _ W.start fun b _ o e => old b o e) (loop _ rfl))

theorem Ev.comp {elt iter : Expr} {x : Str} {px : Pos} {ifs : List Expr} {scope : Scope} {pos : Pos} {c' caps cs} {qs : List V} {t : Nat → Bool} {f : Nat → V} (H : CompCx T c σ scope x c' caps cs)
    (hit : It T c σ iter qs) (htest : ∀ i q, qs[i]? = some q → TrIf T c' (.val q :: cs) ifs (t i)) (helt : ∀ i q, qs[i]? = some q → t i = true → Ev T c' (.val q :: cs) elt (f i))
    (hsz : qs.length ≤ 1048576) (hs : ∀ env x, foldedSetIterable iter env x = pure x := by walk_at "r1") :
    Ev T c σ (.ListComp elt [⟨.Name x px, iter, ifs, 0⟩] scope pos) (.list (compR qs.length t f)) := fun A env U s O R => by
  rw [eval_ListComp]
  refine comp_core (use := Option.none) H hit htest helt O R hsz (hs env) fun D C wr s' m' ys n hD hC hDC hl hn hr he => ?_
  refine ⟨m', hn, fun h' hs' => ⟨?_, ?_⟩⟩
  · unfold Rep
    refine ⟨D, ys, n, rfl, new_not R.used hD, ?_, ?_, ?_⟩
    · exact hs'.extBut D _ hDC hl
    · exact Nat.le_trans (compR_len _ _ _) hsz
    · have h1 : Reps T { s' with heap := h' } (D :: C :: (wr ++ U)) ys.toList (compR qs.length t f) := Reps.but (s := s') (s' := { s' with heap := h' }) (fun a o hn' ha => by
        simp only [List.mem_cons, not_or] at hn'
        exact hs'.extBut a o hn'.2.1 ha) (Nat.le_refl _) hr
      exact Reps.sub h1 fun a ha => .tail _ (.tail _ (List.mem_append_right _ ha))
  · exact ⟨fun b o e => hs'.extBut b o (by rintro rfl; rw [hC] at e; cases e) (he.keep _ _ e), he.gens, he.os, he.toks⟩

-- plain forms of what a comprehension makes
theorem compR_map {α : Type} (n : Nat) (f : Nat → α) : compR n (fun _ => true) f = (List.range n).map f := by
  unfold compR; rw [List.filter_eq_self.mpr (fun _ _ => rfl)]
theorem compR_list {α β : Type} (xs : List α) (t : α → Bool) (f : α → β) (d : α) : compR xs.length (fun i => t (xs.getD i d)) (fun i => f (xs.getD i d)) = (xs.filter t).map f := by
  have : (List.range xs.length).map (fun i => xs.getD i d) = xs := by
    apply List.ext_getElem
    · simp
    · intro i h1 h2
      simp at h1
      simp [h1]
  conv => rhs; rw [← this]
  unfold compR
  rw [List.filter_map, List.map_map]
  rfl
-- sums
theorem Bco.sum {ns : List Int} : Bco T "sum" (ns.map .int) (.int ns.sum) := by
  intro A U s v O S x
  obtain ⟨a, it, n, rfl, hl, hL, hr⟩ := x
  rw [List.length_map] at hL
  have hsz : it.size = ns.length := by have := hr.length; rw [List.length_map] at this; simpa using this
  have hne : a ≠ s.heap.objs.size := fun e => by rw [e] at hl; have := get_size s.heap; rw [hl] at this; cases this
  have hpre : ∀ j, j ≤ ns.length → preSum (fun i => ns.getD i 0) j = (ns.take j).sum := by
    intro j
    induction j with
    | zero => intro _; simp [preSum]
    | succ j ih => intro hj; rw [preSum, ih (by omega), PySem.sum_take_succ]
  refine ext_of (call_sum_walkAnyS (wpAny_pyIter_list hl.isList ⟨s.heap.objs.size, [s.heap.objs.size, a], [s.heap.objs.size], _, it.size, _, _, fun i => ns.getD i 0, rfl,
    (Walks.list (prog := T.prog) (w := T.w) (A := A.in1) O.handled s.heap.objs.size a hne it).toS, ⟨⟨_, Heap.get?_push_size _ rfl, rfl, rfl⟩, (IsL.isList (n := n) (Heap.get?_push_of_some _ hl))⟩, ?_, ?_, ?_⟩))
  · intro b hb
    simp at hb
    rw [Heap.size_push]
    rcases hb with rfl | rfl
    · exact Nat.lt_succ_self _
    · exact Nat.lt_succ_of_lt (Heap.lt_size hl)
  · intro i v hv
    have hi : i < ns.length := by
      rcases Nat.lt_or_ge i ns.length with h | h
      · exact h
      · rw [Array.getElem?_eq_none (by omega)] at hv; cases hv
    obtain ⟨v', h1, h2⟩ := hr.get (i := i) (p := .int ns[i]) (by simp [hi])
    have : it.toList[i]? = some v := by simpa using hv
    rw [this] at h1; cases h1
    obtain ⟨t, rfl⟩ := rep_int h2
    exact ⟨t, by simp [hi]⟩
  · intro s' t' hm _
    refine ⟨?_, ?_⟩
    · rw [hsz, hpre _ (Nat.le_refl _), List.take_length]; exact Rep.int_
    · exact ⟨fun b o e => hm.heap b o (by intro hb; simp at hb; subst hb; rw [get_size] at e; cases e) (Heap.get?_push_of_some _ e), hm.gens, hm.os⟩
end
section
open PySem PySem.W PyProof.Rows
open PySem.Builtin PySem.Builtin.Str
set_option Elab.async false
set_option linter.unusedVariables false
variable {T : TC} {c : Cx} {σ : List Slot}

structure Fr (T : TC) (c : Cx) (s₀ : Shared) (U₀ : List Addr) (σ : List Slot) (U : List Addr) (env : Env) (s : Shared) : Prop where
  rd : Rd T c σ U env s
  base : Keeps T.h₀ s₀.heap
  ext : Ext s₀ s
  nodup : c.N.Nodup
  dbg : ∀ x ∈ c.N, (x == ("__debug__" : Str)) = false
  inU : ∀ a ∈ U, a ∈ U₀ ∨ s₀.heap.get? a = Option.none
  old : ∀ a ∈ U₀, a ∈ U ∧ Live s₀ a
  locU : env.locals ∈ U
  locN : s₀.heap.get? env.locals = Option.none
  ns : ∃ m, s.heap.Ns env.locals m
  cel : ∀ x a, env.cells.lookup x = some a → a ∈ U ∧ s₀.heap.get? a = Option.none ∧ ∃ v, s.heap.IsCell a v
  kinds : ∀ x ∈ c.N, env.kindOf x = some .local ∨ (env.kindOf x = some .cell ∧ ∃ a, env.cells.lookup x = some a)
  apart : ∀ x y a, env.cells.lookup x = some a → env.cells.lookup y = some a → x = y
  owned : ∀ x ps a, At c.N σ x (.own ps) → HoldsVar s.heap env x (.ref a) → a ∈ U ∧ s₀.heap.get? a = Option.none
  owap : ∀ x y ps qs a, At c.N σ x (.own ps) → At c.N σ y (.own qs) → HoldsVar s.heap env x (.ref a) → HoldsVar s.heap env y (.ref a) → x = y

variable {s₀ s s' : Shared} {U₀ U : List Addr} {env : Env}

theorem cell_not_list {h : Heap} {a : Addr} {v it n} (x : h.IsCell a v) (y : IsL h a it n) : False := by
  obtain ⟨o, h1, h2⟩ := x; rw [y] at h1; cases h1; cases h2
theorem ns_not_list {h : Heap} {a : Addr} {m it n} (x : h.Ns a m) (y : IsL h a it n) : False := by
  obtain ⟨o, es, ep, h1, h2, _⟩ := x; rw [y] at h1; cases h1; cases h2
theorem ns_not_cell {h : Heap} {a : Addr} {m v} (x : h.Ns a m) (y : h.IsCell a v) : False := by
  obtain ⟨o, es, ep, h1, h2, _⟩ := x; obtain ⟨o', h3, h4⟩ := y; rw [h1] at h3; cases h3; rw [h2] at h4; cases h4

-- only looked at since
theorem Fr.of_ext (F : Fr T c s₀ U₀ σ U env s) (e : Ext s s') : Fr T c s₀ U₀ σ U env s' where
  rd := F.rd.ext e
  base := F.base
  ext := F.ext.trans e
  nodup := F.nodup
  dbg := F.dbg
  inU := F.inU
  old := F.old
  locU := F.locU
  locN := F.locN
  ns := let ⟨m, h⟩ := F.ns; ⟨m, h.keeps e.keep⟩
  cel x a h := let ⟨h1, h2, v, h3⟩ := F.cel x a h; ⟨h1, h2, v, h3.keeps e.keep⟩
  kinds := F.kinds
  apart := F.apart
  owned x ps a h hv := by
    obtain ⟨_, b, _, _, h1, _⟩ := F.rd.own x ps h
    have := (h1.keep e.keep).uniq hv; cases this
    exact F.owned x ps a h h1
  owap x y ps qs a h1 h2 h3 h4 := by
    obtain ⟨_, b, _, _, k1, _⟩ := F.rd.own x ps h1
    have := (k1.keep e.keep).uniq h3; cases this
    obtain ⟨_, b', _, _, k2, _⟩ := F.rd.own y qs h2
    have := (k2.keep e.keep).uniq h4; cases this
    exact F.owap x y ps qs a h1 h2 k1 k2

-- more that may be written: what was not there when the names' values were
theorem Fr.grow (F : Fr T c s₀ U₀ σ U env s) (e : Ext s s') {W : List Addr} (hf : ∀ a ∈ W, s.heap.get? a = Option.none) (hl : ∀ a ∈ W, Live s' a) : Fr T c s₀ U₀ σ (W ++ U) env s' := by
  have F' := F.of_ext e
  have hU : ∀ a o, s.heap.get? a = some o → a ∉ U → a ∉ W ++ U := fun a o ha hn hm => by
    rcases List.mem_append.mp hm with h | h
    · have := hf a h; rw [ha] at this; cases this
    · exact hn h
  refine { F' with rd := ?_, inU := ?_, old := ?_, locU := List.mem_append_right _ F.locU, cel := ?_, owned := ?_ }
  · refine { F'.rd with var := ?_, own := ?_, used := ?_ }
    · intro y p a
      obtain ⟨h1, v, h2, h3⟩ := F.rd.var y p a
      exact ⟨h1, v, h2.keep e.keep, (h3.set hU).ext e⟩
    · intro y ps a
      obtain ⟨h1, b, it, n, h2, h3, h4, h5⟩ := F.rd.own y ps a
      exact ⟨h1, b, it, n, h2.keep e.keep, e.keep _ _ h3, h4, (h5.set hU).ext e⟩
    · intro a ha
      rcases List.mem_append.mp ha with h | h
      · exact hl a h
      · exact F'.rd.used a h
  · intro a ha
    rcases List.mem_append.mp ha with h | h
    · exact .inr (fresh_of F.ext (hf a h))
    · exact F.inU a h
  · exact fun a ha => ⟨List.mem_append_right _ (F.old a ha).1, (F.old a ha).2⟩
  · exact fun x a h => ⟨List.mem_append_right _ (F'.cel x a h).1, (F'.cel x a h).2⟩
  · exact fun x ps a h hv => ⟨List.mem_append_right _ (F'.owned x ps a h hv).1, (F'.owned x ps a h hv).2⟩

noncomputable def SlotOk (T : TC) (c : Cx) (s₀ : Shared) (σ : List Slot) (U : List Addr) (env : Env) (s s' : Shared) (x : Str) : Slot → Prop
  | .val p => ∃ v, HoldsVar s'.heap env x v ∧ Rep T s' U v p
  | .own ps => ∃ a it n, HoldsVar s'.heap env x (.ref a) ∧ IsL s'.heap a it n ∧ ps.length ≤ 1048576 ∧ Reps T s' U it.toList ps ∧ a ∈ U ∧ s₀.heap.get? a = Option.none ∧ ∀ y qs, y ≠ x → At c.N σ y (.own qs) → ¬ HoldsVar s.heap env y (.ref a)
  | .dead => True

-- one object turned, one name's slot anew
theorem Fr.upd (F : Fr T c s₀ U₀ σ U env s) {x sl σ'} (hu : Upd c.N σ x sl σ') {w : Addr} (hwU : w ∈ U) (hw0 : s₀.heap.get? w = Option.none) (hk : ∀ a o, a ≠ w → s.heap.get? a = some o → s'.heap.get? a = some o)
    (hg : s'.gens = s.gens) (ho : s'.os = s.os) (ht : s.toks ≤ s'.toks) (hlive : Live s' w) (hns : ∃ m, s'.heap.Ns env.locals m) (hcel : ∀ y a v, env.cells.lookup y = some a → s.heap.IsCell a v → ∃ v', s'.heap.IsCell a v')
    (hv : ∀ y v, y ≠ x → HoldsVar s.heap env y v → HoldsVar s'.heap env y v) (hIL : ∀ y ps a, y ≠ x → At c.N σ y (.own ps) → HoldsVar s.heap env y (.ref a) → a ≠ w)
    (hnew : SlotOk T c s₀ σ U env s s' x sl) : Fr T c s₀ U₀ σ' U env s' := by
  have hkU : ∀ a o, a ∉ U → s.heap.get? a = some o → s'.heap.get? a = some o := fun a o hn h => hk a o (fun e => hn (e ▸ hwU)) h
  have hE : Ext s₀ s' := ⟨fun b o h => hk b o (by rintro rfl; rw [hw0] at h; cases h) (F.ext.keep _ _ h), hg.trans F.ext.gens, ho.trans F.ext.os, Nat.le_trans F.ext.toks ht⟩
  have live : ∀ a ∈ U, Live s' a := fun a ha => by
    by_cases h : a = w
    · subst h; exact hlive
    · obtain ⟨o, h1⟩ := F.rd.used a ha; exact ⟨o, hk a o h h1⟩
  have hT : Keeps T.h₀ s'.heap := F.base.trans hE.keep
  have hat : ∀ y sl', At c.N σ' y sl' → (y = x ∧ sl' = sl) ∨ (y ≠ x ∧ At c.N σ y sl') := fun y sl' a => hu.at F.nodup a
  have hown : ∀ y ps, At c.N σ' y (.own ps) → ∃ a it n, HoldsVar s'.heap env y (.ref a) ∧ IsL s'.heap a it n ∧ ps.length ≤ 1048576 ∧ Reps T s' U it.toList ps ∧ a ∈ U ∧ s₀.heap.get? a = Option.none ∧ (y ≠ x → HoldsVar s.heap env y (.ref a)) ∧
      (y = x → ∀ z qs, z ≠ x → At c.N σ z (.own qs) → ¬ HoldsVar s.heap env z (.ref a)) := by
    intro y ps a
    rcases hat y _ a with ⟨rfl, h2⟩ | ⟨h1, h2⟩
    · subst h2
      obtain ⟨b, it, n, h3, h4, h5, h6, h7, h8, h9⟩ := hnew
      exact ⟨b, it, n, h3, h4, h5, h6, h7, h8, fun h => absurd rfl h, fun _ => h9⟩
    · obtain ⟨_, b, it, n, h3, h4, h5, h6⟩ := F.rd.own y ps h2
      obtain ⟨h7, h8⟩ := F.owned y ps b h2 h3
      exact ⟨b, it, n, hv y _ h1 h3, hk _ _ (hIL y ps b h1 h2 h3) h4, h5, Reps.but hkU ht h6, h7, h8, fun _ => h3, fun h => absurd h h1⟩
  refine { rd := ?_, base := F.base, ext := hE, nodup := F.nodup, dbg := F.dbg, inU := F.inU, old := F.old, locU := F.locU, locN := F.locN, ns := hns, cel := ?_, kinds := F.kinds, apart := F.apart, owned := ?_, owap := ?_ }
  · refine ⟨hT, F.rd.kind, F.rd.names, F.rd.globals, F.rd.builtins, ?_, ?_, F.rd.glob, live, Nat.lt_of_lt_of_le F.rd.tok ht⟩
    · intro y p a
      rcases hat y _ a with ⟨rfl, h2⟩ | ⟨h1, h2⟩
      · subst h2
        obtain ⟨v, h3, h4⟩ := hnew
        exact ⟨F.dbg _ hu.mem, v, h3, h4⟩
      · obtain ⟨h3, v, h4, h5⟩ := F.rd.var y p h2
        exact ⟨h3, v, hv y v h1 h4, h5.but hkU ht⟩
    · intro y ps a
      obtain ⟨b, it, n, h3, h4, h5, h6, _⟩ := hown y ps a
      exact ⟨F.dbg _ a.mem, b, it, n, h3, h4, h5, h6⟩
  · intro y a h
    obtain ⟨h1, h2, v, h3⟩ := F.cel y a h
    exact ⟨h1, h2, hcel y a v h h3⟩
  · intro y ps a h1 h2
    obtain ⟨b, it, n, h3, _, _, _, h7, h8, _⟩ := hown y ps h1
    have := h3.uniq h2; cases this
    exact ⟨h7, h8⟩
  · intro y z ps qs a h1 h2 h3 h4
    obtain ⟨b, it, n, k3, _, _, _, _, _, k7, k8⟩ := hown y ps h1
    have := k3.uniq h3; cases this
    obtain ⟨b', it', n', l3, _, _, _, _, _, l7, l8⟩ := hown z qs h2
    have := l3.uniq h4; cases this
    by_cases hy : y = x
    · by_cases hz : z = x
      · rw [hy, hz]
      · rcases hat z _ h2 with ⟨h, _⟩ | ⟨_, h⟩
        · exact absurd h hz
        · exact absurd (l7 hz) (k8 hy z qs hz h)
    · by_cases hz : z = x
      · rcases hat y _ h1 with ⟨h, _⟩ | ⟨_, h⟩
        · exact absurd h hy
        · exact absurd (k7 hy) (l8 hz y ps hy h)
      · rcases hat y _ h1 with ⟨h, _⟩ | ⟨_, hy'⟩
        · exact absurd h hy
        · rcases hat z _ h2 with ⟨h, _⟩ | ⟨_, hz'⟩
          · exact absurd h hz
          · exact F.owap y z ps qs _ hy' hz' (k7 hy) (l7 hz)

-- a name bound
theorem Fr.store (F : Fr T c s₀ U₀ σ U env s) {x sl σ' v} (hu : Upd c.N σ x sl σ') {M : Model} {A : Around} {E : Value → Shared → Prop} {Q : Unit → Shared → Prop}
    (hv : ∀ s', s.toks ≤ s'.toks → (∀ a o, a ∉ U → s.heap.get? a = some o → s'.heap.get? a = some o) → (∀ a it n, IsL s.heap a it n → IsL s'.heap a it n) → HoldsVar s'.heap env x v → SlotOk T c s₀ σ U env s s' x sl)
    (hQ : ∀ s', Fr T c s₀ U₀ σ' U env s' → s.toks ≤ s'.toks → (∀ a o, a ∉ U → s.heap.get? a = some o → s'.heap.get? a = some o) → (∀ a o, a ≠ env.locals → (∀ y, env.cells.lookup y ≠ some a) → s.heap.get? a = some o → s'.heap.get? a = some o) → Q () s') : wpAny M A (storeName env x v) Q E s := by
  rcases F.kinds x hu.mem with hl | ⟨hl, cc, hcc⟩
  · obtain ⟨m, hn⟩ := F.ns
    refine wpAny_storeName_local hl hn (fun h' hn' hs' => hQ _ ?_ (Nat.le_succ _) (fun a o h e => hs'.extBut a o (fun h' => h (h' ▸ F.locU)) e) (fun a o h _ e => hs'.extBut a o h e)) (by rw [F.rd.kind]; rfl)
    have hk : ∀ a o, a ≠ env.locals → s.heap.get? a = some o → h'.get? a = some o := fun a o h e => hs'.extBut a o h e
    have hx' : HoldsVar h' env x v := .inl ⟨hl, _, hn', by simp⟩
    refine F.upd hu F.locU F.locN hk rfl rfl (Nat.le_succ _) ⟨_, hn'.choose_spec.choose_spec.choose_spec.1⟩ ⟨_, hn'⟩ ?_ ?_ ?_ (hv _ (Nat.le_succ _) (fun a o h e => hk a o (fun h' => h (h' ▸ F.locU)) e) (fun a it n h => hk a _ (by rintro rfl; exact ns_not_list hn h) h) hx')
    · intro y a v' h1 h2
      exact ⟨v', h2.sameBut hs' (by rintro rfl; exact ns_not_cell hn h2)⟩
    · intro y v' hne h
      rcases h with ⟨a, m', b, d⟩ | ⟨a, c', b, d⟩
      · refine .inl ⟨a, _, hn', ?_⟩
        have := hn.agree b y
        simp only [hne, if_false]
        rw [this]; exact d
      · exact .inr ⟨a, c', b, d.sameBut hs' (by rintro rfl; exact ns_not_cell hn d)⟩
    · intro y ps a hne h1 h2
      obtain ⟨_, b, it, n, h3, h4, _⟩ := F.rd.own y ps h1
      have := h3.uniq h2; cases this
      rintro rfl
      exact ns_not_list hn h4
  · obtain ⟨h1, h2, v₀, h3⟩ := F.cel x cc hcc
    refine wpAny_storeName_cell F.rd.kind hl hcc h3 fun h' hc' hs' => hQ _ ?_ (Nat.le_refl _) (fun a o h e => hs'.extBut a o (fun h' => h (h' ▸ h1)) e) (fun a o _ h e => hs'.extBut a o (fun h' => h x (h' ▸ hcc)) e)
    have hk : ∀ a o, a ≠ cc → s.heap.get? a = some o → h'.get? a = some o := fun a o h e => hs'.extBut a o h e
    have hx' : HoldsVar h' env x v := .inr ⟨hl, cc, hcc, hc'⟩
    obtain ⟨m, hn⟩ := F.ns
    have hLc : env.locals ≠ cc := by intro e; rw [← e] at h3; exact ns_not_cell hn h3
    refine F.upd hu h1 h2 hk rfl rfl (Nat.le_refl _) ⟨_, hc'.choose_spec.1⟩ ⟨m, hn.sameBut hs' hLc⟩ ?_ ?_ ?_ (hv _ (Nat.le_refl _) (fun a o h e => hk a o (fun h' => h (h' ▸ h1)) e) (fun a it n h => hk a _ (by rintro rfl; exact cell_not_list h3 h) h) hx')
    · intro y a v' k1 k2
      by_cases hy : y = x
      · subst hy; rw [hcc] at k1; cases k1; exact ⟨_, hc'⟩
      · exact ⟨v', k2.sameBut hs' (by rintro rfl; exact hy (F.apart y x _ k1 hcc))⟩
    · intro y v' hne h
      rcases h with ⟨a, m', b, d⟩ | ⟨a, c', b, d⟩
      · exact .inl ⟨a, m', b.sameBut hs' hLc, d⟩
      · exact .inr ⟨a, c', b, d.sameBut hs' (by rintro rfl; exact hne (F.apart y x _ b hcc))⟩
    · intro y ps a hne k1 k2
      obtain ⟨_, b, it, n, k3, k4, _⟩ := F.rd.own y ps k1
      have := k3.uniq k2; cases this
      rintro rfl
      exact cell_not_list h3 k4
end
section
open PySem PySem.W PyProof.Rows
open PySem.Builtin PySem.Builtin.Str
set_option Elab.async false
set_option linter.unusedVariables false
variable {T : TC} {c : Cx} {σ σ' : List Slot}
variable {s₀ s s' : Shared} {U₀ U : List Addr} {env : Env}

theorem Fr.mut (F : Fr T c s₀ U₀ σ U env s) {x ps ps' a it n} (hx : At c.N σ x (.own ps)) (hh : HoldsVar s.heap env x (.ref a)) (hl : IsL s.heap a it n) (hu : Upd c.N σ x (.own ps') σ') (f : Array Value → Array Value) {k : Nat} (hk : s.toks ≤ k)
    (hL : ps'.length ≤ 1048576) (hr : Reps T s U (f it).toList ps') : Fr T c s₀ U₀ σ' U env { s with heap := s.heap.update a (Obj.mapSeq f), toks := k } := by
  obtain ⟨haU, ha0⟩ := F.owned x ps a hx hh
  have hk' : ∀ b o, b ≠ a → s.heap.get? b = some o → (s.heap.update a (Obj.mapSeq f)).get? b = some o := fun b o h e => (Heap.get?_update_other s.heap _ (Ne.symm h)).trans e
  obtain ⟨m, hn⟩ := F.ns
  have hLa : env.locals ≠ a := fun e => by rw [← e] at hl; exact ns_not_list hn hl
  have hla := hl.update f
  have keepV : ∀ y v, HoldsVar s.heap env y v → HoldsVar (s.heap.update a (Obj.mapSeq f)) env y v := by
    intro y v h
    rcases h with ⟨h1, m', h2, h3⟩ | ⟨h1, cc, h2, h3⟩
    · exact .inl ⟨h1, m', h2.at' fun o e => hk' _ o hLa e, h3⟩
    · refine .inr ⟨h1, cc, h2, ?_⟩
      obtain ⟨o, h4, h5⟩ := h3
      exact ⟨o, hk' _ o (by rintro rfl; exact cell_not_list ⟨o, h4, h5⟩ hl) h4, h5⟩
  refine F.upd hu haU ha0 hk' rfl rfl hk ⟨_, hla⟩ ⟨m, hn.at' fun o e => hk' _ o hLa e⟩ ?_ (fun y v _ h => keepV y v h) ?_ ?_
  · intro y b v h1 h2
    obtain ⟨o, h4, h5⟩ := h2
    exact ⟨v, o, hk' _ o (by rintro rfl; exact cell_not_list ⟨o, h4, h5⟩ hl) h4, h5⟩
  · intro y qs b hne h1 h2 e
    subst e
    exact hne (F.owap y x qs ps _ h1 hx h2 hh)
  · refine ⟨a, _, _, keepV x _ hh, hla, hL, ?_, haU, ha0, ?_⟩
    · exact Reps.but (fun b o hb e => hk' b o (by rintro rfl; exact hb haU) e) hk hr
    · intro y qs hne h1 h2
      exact hne (F.owap y x qs ps _ h1 hx h2 hh)

-- what is no longer turned
-- a list grown is done: a value from now on
theorem Fr.freeze (F : Fr T c s₀ U₀ σ U env s) {x ps} (hx : At c.N σ x (.own ps)) (hu : Upd c.N σ x (.val (.list ps)) σ') : ∃ U', Fr T c s₀ U₀ σ' U' env s ∧ ∀ b ∈ U', b ∈ U := by
  obtain ⟨hd, a, it, n, hh, hl, hL, hr⟩ := F.rd.own x ps hx
  obtain ⟨haU, ha0⟩ := F.owned x ps a hx hh
  refine ⟨U.filter (· != a), ?_, fun b h => (List.mem_filter.mp h).1⟩
  have hs : ∀ b, b ∈ U.filter (· != a) → b ∈ U := fun b h => (List.mem_filter.mp h).1
  have hin : ∀ b, b ∈ U → b ≠ a → b ∈ U.filter (· != a) := fun b h hne => List.mem_filter.mpr ⟨h, by simpa using hne⟩
  have hat : ∀ y sl', At c.N σ' y sl' → (y = x ∧ sl' = .val (.list ps)) ∨ (y ≠ x ∧ At c.N σ y sl') := fun y sl' h => hu.at F.nodup h
  have hne0 : ∀ b ∈ U₀, b ≠ a := fun b hb e => by obtain ⟨o, ho⟩ := (F.old b hb).2; rw [e, ha0] at ho; cases ho
  obtain ⟨m, hn⟩ := F.ns
  refine { F with rd := ?_, inU := fun b h => F.inU b (hs b h), old := fun b h => ⟨hin b (F.old b h).1 (hne0 b h), (F.old b h).2⟩, locU := hin _ F.locU (by rintro e; rw [← e] at hl; exact ns_not_list hn hl), cel := ?_, owned := ?_, owap := ?_ }
  · refine { F.rd with var := ?_, own := ?_, used := fun b h => F.rd.used b (hs b h) }
    · intro y p h
      rcases hat y _ h with ⟨rfl, h2⟩ | ⟨h1, h2⟩
      · cases h2
        refine ⟨hd, .ref a, hh, ?_⟩
        unfold Rep
        exact ⟨a, it, n, rfl, by simp, hl, hL, hr.sub hs⟩
      · obtain ⟨h3, v, h4, h5⟩ := F.rd.var y p h2
        exact ⟨h3, v, h4, h5.sub hs⟩
    · intro y qs h
      rcases hat y _ h with ⟨rfl, h2⟩ | ⟨h1, h2⟩
      · cases h2
      · obtain ⟨h3, b, it', n', h4, h5, h6, h7⟩ := F.rd.own y qs h2
        exact ⟨h3, b, it', n', h4, h5, h6, h7.sub hs⟩
  · intro y b h
    obtain ⟨h1, h2, v, h3⟩ := F.cel y b h
    exact ⟨hin b h1 (by rintro rfl; exact cell_not_list h3 hl), h2, v, h3⟩
  · intro y qs b h hv
    rcases hat y _ h with ⟨rfl, h2⟩ | ⟨h1, h2⟩
    · cases h2
    · obtain ⟨h3, h4⟩ := F.owned y qs b h2 hv
      exact ⟨hin b h3 (by rintro rfl; exact h1 (F.owap y x qs ps _ h2 hx hv hh)), h4⟩
  · intro y z qs rs b h1 h2 h3 h4
    rcases hat y _ h1 with ⟨_, h⟩ | ⟨_, h1⟩
    · cases h
    rcases hat z _ h2 with ⟨_, h⟩ | ⟨_, h2⟩
    · cases h
    exact F.owap y z qs rs b h1 h2 h3 h4
-- less known
theorem Fr.weak (F : Fr T c s₀ U₀ σ U env s) (w : Weak σ σ') : Fr T c s₀ U₀ σ' U env s := by
  refine { F with rd := ?_, owned := fun x ps a h hv => F.owned x ps a (w.at h (by intro e; cases e)) hv, owap := fun x y ps qs a h1 h2 h3 h4 => F.owap x y ps qs a (w.at h1 (by intro e; cases e)) (w.at h2 (by intro e; cases e)) h3 h4 }
  exact { F.rd with var := fun y p a => F.rd.var y p (w.at a (by intro e; cases e)), own := fun y ps a => F.rd.own y ps (w.at a (by intro e; cases e)) }

-- statements
structure Step (U : List Addr) (s : Shared) (U' : List Addr) (s' : Shared) : Prop where
  keep : ∀ a o, a ∉ U → s.heap.get? a = some o → s'.heap.get? a = some o
  new : ∀ a ∈ U', a ∈ U ∨ s.heap.get? a = Option.none
  toks : s.toks ≤ s'.toks
theorem Step.refl : Step U s U s := ⟨fun _ _ _ h => h, fun _ h => .inl h, Nat.le_refl _⟩
theorem Step.trans {U1 U2 : List Addr} {s1 s2 : Shared} (x : Step U s U1 s1) (y : Step U1 s1 U2 s2) : Step U s U2 s2 := by
  refine ⟨fun a o hn h => y.keep a o (fun h1 => ?_) (x.keep a o hn h), fun a h => ?_, Nat.le_trans x.toks y.toks⟩
  · rcases x.new a h1 with h2 | h2
    · exact hn h2
    · rw [h] at h2; cases h2
  · rcases y.new a h with h1 | h1
    · exact x.new a h1
    · by_cases hu : a ∈ U
      · exact .inl hu
      · refine .inr ?_
        cases e : s.heap.get? a with
        | none => rfl
        | some o => have := x.keep a o hu e; rw [h1] at this; cases this
theorem Step.ext (e : Ext s s') : Step U s U s' := ⟨fun a o _ h => e.keep a o h, fun _ h => .inl h, e.toks⟩
theorem Step.sub {U' : List Addr} (h : ∀ b ∈ U', b ∈ U) : Step U s U' s := ⟨fun _ _ _ h => h, fun a ha => .inl (h a ha), Nat.le_refl _⟩
theorem Step.upd {a : Addr} (h : a ∈ U) (f : Obj → Obj) {k : Nat} (hk : s.toks ≤ k) : Step U s U { s with heap := s.heap.update a f, toks := k } :=
  ⟨fun b o hb e => (Heap.get?_update_other s.heap _ (fun (h' : a = b) => hb (h' ▸ h))).trans e, fun _ h => .inl h, hk⟩
theorem Step.rep {U' : List Addr} (x : Step U s U' s') {v p} (h : Rep T s U v p) : Rep T s' U' v p :=
  (h.set (U' := U' ++ U) (fun a o ha hn hm => by
    rcases List.mem_append.mp hm with h1 | h1
    · rcases x.new a h1 with h2 | h2
      · exact hn h2
      · rw [ha] at h2; cases h2
    · exact hn h1)).but (fun a o hn ha => x.keep a o (fun h => hn (List.mem_append_right _ h)) ha) x.toks |>.sub fun a h => List.mem_append_left _ h
inductive Out where
  | next (σ : List Slot)
  | ret (p : V)
noncomputable def Ends (T : TC) (c : Cx) (s₀ : Shared) (U₀ : List Addr) (env : Env) (U : List Addr) (s : Shared) : Out → Flow → Shared → Prop
  | .next σ', f, s' => f = .next ∧ ∃ U', Fr T c s₀ U₀ σ' U' env s' ∧ Step U s U' s'
  | .ret p, f, s' => ∃ v, f = .ret v ∧ Rep T s' U₀ v p ∧ Ext s₀ s'
theorem Ends.of {U1 : List Addr} {s1 : Shared} (x : Step U s U1 s1) {o f s'} (h : Ends T c s₀ U₀ env U1 s1 o f s') : Ends T c s₀ U₀ env U s o f s' := by
  cases o with
  | next σ' => obtain ⟨h1, U', h2, h3⟩ := h; exact ⟨h1, U', h2, x.trans h3⟩
  | ret p => exact h
noncomputable def Ex (T : TC) (c : Cx) (σ : List Slot) (ss : List Stmt) (o : Out) : Prop :=
  ∀ A env s₀ U₀ U s, Ok c.d A → Fr T c s₀ U₀ σ U env s → wpAny (model T.prog T.w) A (execs ss env) (fun f s' => Ends T c s₀ U₀ env U s o f s') (fun _ _ => False) s
noncomputable def Ex1 (T : TC) (c : Cx) (σ : List Slot) (st : Stmt) (o : Out) : Prop :=
  ∀ A env s₀ U₀ U s, Ok c.d A → Fr T c s₀ U₀ σ U env s → wpAny (model T.prog T.w) A (exec st env) (fun f s' => Ends T c s₀ U₀ env U s o f s') (fun _ _ => False) s

theorem Ex.nil : Ex T c σ [] (.next σ) := fun A env s₀ U₀ U s O F => wpAny_execs_nil ⟨rfl, U, F, Step.refl⟩
theorem Ex.cons {st rest σ1 o} (h1 : Ex1 T c σ st (.next σ1)) (h2 : Ex T c σ1 rest o) : Ex T c σ (st :: rest) o := fun A env s₀ U₀ U s O F =>
  wpAny_execs_cons (wpB (h1 A env s₀ U₀ U s O F) fun f s' ⟨hf, U', F', S'⟩ => by subst hf; exact wpB (h2 A env s₀ U₀ U' s' O F') fun _ _ h => Ends.of S' h)
theorem Ex.ret {st rest p} (h1 : Ex1 T c σ st (.ret p)) : Ex T c σ (st :: rest) (.ret p) := fun A env s₀ U₀ U s O F =>
  wpAny_execs_cons (wpB (h1 A env s₀ U₀ U s O F) fun f s' ⟨v, hf, h⟩ => by subst hf; exact ⟨v, rfl, h⟩)
theorem Ex.weak {σ1 ss o} (w : Weak σ σ1) (h : Ex T c σ1 ss o) : Ex T c σ ss o := fun A env s₀ U₀ U s O F => h A env s₀ U₀ U s O (F.weak w)
theorem Ex.freeze {x ps σ1 ss o} (hx : At c.N σ x (.own ps)) (hu : Upd c.N σ x (.val (.list ps)) σ1) (h : Ex T c σ1 ss o) : Ex T c σ ss o := fun A env s₀ U₀ U s O F =>
  let ⟨U', F', hs⟩ := F.freeze hx hu; wpB (h A env s₀ U₀ U' s O F') fun _ _ h => Ends.of (Step.sub hs) h
theorem Ex1.weak {st σ1 σ2} (h : Ex1 T c σ st (.next σ1)) (w : Weak σ1 σ2) : Ex1 T c σ st (.next σ2) := fun A env s₀ U₀ U s O F =>
  wpB (h A env s₀ U₀ U s O F) fun f s' ⟨hf, U', F', S'⟩ => ⟨hf, U', F'.weak w, S'⟩
theorem Ex.weakout {ss σ1 σ2} (h : Ex T c σ ss (.next σ1)) (w : Weak σ1 σ2) : Ex T c σ ss (.next σ2) := fun A env s₀ U₀ U s O F =>
  wpB (h A env s₀ U₀ U s O F) fun f s' ⟨hf, U', F', S'⟩ => ⟨hf, U', F'.weak w, S'⟩
theorem Ex.castn {ss σ1 σ2} (h : Ex T c σ ss (.next σ1)) (e : σ1 = σ2) : Ex T c σ ss (.next σ2) := e ▸ h
theorem Ex.castr {ss p q} (h : Ex T c σ ss (.ret p)) (e : p = q) : Ex T c σ ss (.ret q) := e ▸ h
theorem store_ends (F : Fr T c s₀ U₀ σ U env s) {x p σ' v} (hu : Upd c.N σ x (.val p) σ') (hr : Rep T s U v p) {M : Model} {A : Around} {E : Value → Shared → Prop} {Uo : List Addr} {so : Shared} (S : Step Uo so U s) :
    wpAny M A (storeName env x v) (fun _ s' => Ends T c s₀ U₀ env Uo so (.next σ') .next s') E s :=
  F.store hu (fun s' h1 h2 _ h3 => ⟨v, h3, hr.but h2 h1⟩) fun s' F' ht hk _ => ⟨rfl, U, F', S.trans ⟨hk, fun _ h => .inl h, ht⟩⟩

theorem Ex1.assign {x px e pos p σ1} (h : Ev T c σ e p) (hu : Upd c.N σ x (.val p) σ1) (hs : ∀ env, swapsWith e (some (.Name x px)) pos.line env = pure false := by walk_at "r1") : Ex1 T c σ (.Assign [.Name x px] e pos) (.next σ1) := fun A env s₀ U₀ U s O F =>
  wpAny_Assign_Name (wpB (h A env U s O F.rd) fun v s1 ⟨a1, e1⟩ => store_ends (F.of_ext e1) hu a1 (Step.ext e1)) (hs env)
theorem fresh_own' (F : Fr T c s₀ U₀ σ U env s) (e : Ext s s') {a : Addr} (h : s.heap.get? a = Option.none) {y qs} (hy : At c.N σ y (.own qs)) : ¬ HoldsVar s'.heap env y (.ref a) := fun hv => by
  obtain ⟨_, b, it, n, h1, h2, _⟩ := F.rd.own y qs hy
  have := (h1.keep e.keep).uniq hv; cases this
  have h3 : s.heap.get? a = some _ := h2
  rw [h] at h3; cases h3
theorem Ex1.assign_new {x px e pos ps σ1} (h : EvN T c σ e ps) (hu : Upd c.N σ x (.own ps) σ1) (hs : ∀ env, swapsWith e (some (.Name x px)) pos.line env = pure false := by walk_at "r1") : Ex1 T c σ (.Assign [.Name x px] e pos) (.next σ1) := fun A env s₀ U₀ U s O F =>
  wpAny_Assign_Name (wpB (h A env U s O F.rd) fun v s1 ⟨⟨a, it, n, hv, hf, hl, hL, hfl, hr⟩, e1⟩ => by
    subst hv
    have F' := F.grow e1 (W := [a]) (by intro b hb; simp at hb; subst hb; exact hf) (by intro b hb; simp at hb; subst hb; exact ⟨_, hl⟩)
    have S1 : Step U s ([a] ++ U) s1 := ⟨fun b o _ h => e1.keep b o h, fun b hb => by
      rcases List.mem_append.mp hb with h | h
      · simp at h; subst h; exact .inr hf
      · exact .inl h, e1.toks⟩
    refine F'.store hu (fun s' h1 h2 h4 h3 => ⟨a, it, n, h3, h4 _ _ _ hl, hL, Reps.but h2 h1 (hr.flat hfl (Nat.le_refl _)), List.mem_append_left _ (.head _), fresh_of F.ext hf, fun y qs _ hy => fresh_own' F e1 hf hy⟩) fun s' F'' ht hk _ => ⟨rfl, _, F'', S1.trans ⟨hk, fun _ h => .inl h, ht⟩⟩) (hs env)
theorem Ex1.assign2 {x px y py e pos p σ1 σ2} (h : Ev T c σ e p) (hu : Upd c.N σ x (.val p) σ1) (hu2 : Upd c.N σ1 y (.val p) σ2)
    (he : ∀ env, (assignEach [Expr.Name x px, Expr.Name y py] env).map (·.2) = [PySem.assign (Expr.Name x px) env, PySem.assign (Expr.Name y py) env] := by walk_at "r1")
    (hw : ∀ env, swappedStores [Expr.Name x px, Expr.Name y py] e env = pure Option.none := by walk_at "r1") : Ex1 T c σ (.Assign [Expr.Name x px, Expr.Name y py] e pos) (.next σ2) := fun A env s₀ U₀ U s O F =>
  wpAny_Assign_two (wpB (h A env U s O F.rd) fun v s1 ⟨a1, e1⟩ => wpAny_assign_Name ((F.of_ext e1).store hu (fun s' h1 h2 _ h3 => ⟨v, h3, a1.but h2 h1⟩) fun s' F' ht hk _ =>
    wpAny_assign_Name (store_ends F' hu2 (a1.but hk ht) ((Step.ext e1).trans ⟨hk, fun _ h => .inl h, ht⟩)))) (he env) (hw env)
theorem Ex1.aug {x px op e pos p q r σ1} (hx : At c.N σ x (.val p)) (h : Ev T c σ e q) (ho : ∀ A U s va vb, Ok 0 A → Su T U s → Rep T s U va p → Rep T s U vb q → wpAny (model T.prog T.w) A (inplaceOp op va vb) (fun v s' => Rep T s' U v r ∧ Ext s s') (fun _ _ => False) s)
    (hu : Upd c.N σ x (.val r) σ1) : Ex1 T c σ (.AugAssign (.Name x px) op e pos) (.next σ1) := fun A env s₀ U₀ U s O F =>
  wpAny_AugAssign_Name (by
    obtain ⟨_, v, h1, h2⟩ := F.rd.var x p hx
    refine load_var F.rd.kind h1 (wpB (h A env U s O F.rd) fun w s1 ⟨a1, e1⟩ => wpB (ho A U s1 v w O.zero (F.rd.ext e1).su (h2.ext e1) a1) fun u s2 ⟨a2, e2⟩ => ?_)
    exact store_ends (F.of_ext (e1.trans e2)) hu a2 (Step.ext (e1.trans e2)))
theorem Ex1.if_ {test body orelse pos b o} (h1 : Tr T c σ test b) (h2 : b = true → Ex T c σ body o) (h3 : b = false → Ex T c σ orelse o) : Ex1 T c σ (.If test body orelse pos) o := fun A env s₀ U₀ U s O F =>
  wpAny_If (wpB (h1 A env U s O F.rd) fun r s1 ⟨a1, e1⟩ => by
    subst a1
    cases r with
    | true => rw [if_pos rfl]; exact wpB (h2 rfl A env s₀ U₀ U s1 O (F.of_ext e1)) fun _ _ h => Ends.of (Step.ext e1) h
    | false => rw [if_neg (by decide)]; exact wpB (h3 rfl A env s₀ U₀ U s1 O (F.of_ext e1)) fun _ _ h => Ends.of (Step.ext e1) h)
theorem Ex1.skip {test body pos} (h1 : Tr T c σ test false) : Ex1 T c σ (.If test body [] pos) (.next σ) := Ex1.if_ h1 (fun h => nomatch h) (fun _ => Ex.nil)
theorem Ex1.return_ {e pos p} (h : Ev T c σ e p) : Ex1 T c σ (.Return (some e) pos) (.ret p) := fun A env s₀ U₀ U s O F =>
  wpAny_Return_some (wpB (h A env U s O F.rd) fun v s1 ⟨a1, e1⟩ => ⟨v, rfl, a1.sub fun a h => (F.old a h).1, F.ext.trans e1⟩)
theorem Ex1.return_own {x px pos ps} (h : At c.N σ x (.own ps)) : Ex1 T c σ (.Return (some (.Name x px)) pos) (.ret (.list ps)) := fun A env s₀ U₀ U s O F => by
  obtain ⟨hd, a, it, n, h1, h2, h4, h3⟩ := F.rd.own x ps h
  refine wpAny_Return_some (wpAny_Name (load_var F.rd.kind h1 ⟨_, rfl, ?_, F.ext⟩) hd)
  unfold Rep
  exact ⟨a, it, n, rfl, fun hm => (by obtain ⟨o, ho⟩ := (F.old a hm).2; rw [(F.owned x ps a h h1).2] at ho; cases ho), h2, h4, h3.sub fun a h => (F.old a h).1⟩
theorem Ex1.assert {test msg pos} (h : Tr T c σ test true) : Ex1 T c σ (.Assert test msg pos) (.next σ) := fun A env s₀ U₀ U s O F =>
  wpAny_Assert_holds (wpB (h A env U s O F.rd) fun r s1 ⟨a1, e1⟩ => ⟨a1, rfl, U, F.of_ext e1, Step.ext e1⟩)
end
section
open PySem PySem.W PyProof.Rows
open PySem.Builtin PySem.Builtin.Str
set_option Elab.async false
set_option linter.unusedVariables false
variable {T : TC} {c : Cx} {σ σ' : List Slot}
variable {s₀ s s' : Shared} {U₀ U : List Addr} {env : Env}

theorem inter_no (h : env.scope.kind = .function) : interactive env = false := by unfold interactive; rw [h]; rfl

-- x.append(e)
theorem Ex1.append {x px apos e cpos pos ps p σ1} (hx : At c.N σ x (.own ps)) (h : Ev T c σ e p) (hL : ps.length < 1048576) (hu : Upd c.N σ x (.own (ps ++ [p])) σ1)
    (hbase : ∀ env, attributeBase (.Name x px) "append" env (eval (.Name x px) env) = eval (.Name x px) env := by walk_at "r1")
    (hs : ∀ env, starEach [e] env = [(false, eval e env)] := by walk_at "r1") (hline : (apos.endLine == cpos.line) = true := by rfl)
    (hsw : ∀ env, swapsWith (.Call (.Attribute (.Name x px) "append" apos) [e] [] cpos) Option.none pos.line env = pure false := by walk_at "r1") :
    Ex1 T c σ (.Expr (.Call (.Attribute (.Name x px) "append" apos) [e] [] cpos) pos) (.next σ1) := fun A env s₀ U₀ U s O F => by
  refine PySem.wpAny_Expr_any (Call_method1 (hbase env) (hs env) hline ?_) (inter_no F.rd.kind) (hsw env)
  obtain ⟨hd, a, it, n, h1, h2, h4, h3⟩ := F.rd.own x ps hx
  refine wpAny_Name (load_var F.rd.kind h1 ?_) hd
  refine ⟨"list", _, PySem.F.plainAttrs_list, PySem.F.slot_list_append, PySem.F.type_list_append, h2.isList.typeIs, fun b e => ⟨_, by cases e; exact h2, rfl⟩, ?_⟩
  refine P.append_list (wpB (h A env U s O F.rd) fun v s1 ⟨a1, e1⟩ => ?_)
  have F1 := F.of_ext e1
  have hl1 := e1.keep _ _ h2
  have hsz : it.size = ps.length := by rw [← h3.length]; simp
  refine ⟨it, n, by have : (2:Nat)^24 = sizeLine := rfl; omega, hl1, rfl, U, ?_, (Step.ext e1).trans (Step.upd (F.owned x ps a hx h1).1 _ (Nat.le_refl _))⟩
  exact F1.mut hx (h1.keep e1.keep) hl1 hu _ (Nat.le_refl _) (by simp; omega) (by simpa using Reps.append (h3.ext e1) (Reps.cons a1 Reps.nil))
-- x.extend(e)
-- x[i] = e
theorem Ex1.setitem {x px i e tpos pos ps p k σ1} (h : Ev T c σ e p) (hx : At c.N σ x (.own ps)) (hi : Ev T c σ i (.int k)) (h0 : 0 ≤ k) (hk : k < ps.length) (hu : Upd c.N σ x (.own (ps.set k.toNat p)) σ1)
    (hs : ∀ env, swapsWith e (some (.Subscript (.Name x px) i tpos)) pos.line env = pure false := by walk_at "r1") :
    Ex1 T c σ (.Assign [.Subscript (.Name x px) i tpos] e pos) (.next σ1) := fun A env s₀ U₀ U s O F => by
  refine wpAny_Assign_Subscript (wpB (h A env U s O F.rd) fun v s1 ⟨a1, e1⟩ => ?_) (hs env)
  have F1 := F.of_ext e1
  obtain ⟨hd, a, it, n, h1, h2, h4, h3⟩ := F1.rd.own x ps hx
  refine wpAny_Name (load_var F1.rd.kind h1 (wpB (hi A env U s1 O F1.rd) fun w s2 ⟨a2, e2⟩ => ?_)) hd
  obtain ⟨t, rfl⟩ := rep_int a2
  have F2 := F1.of_ext e2
  have hl2 := e2.keep _ _ h2
  have hsz : it.size = ps.length := by rw [← h3.length]; simp
  refine ki_setAt (n := n) hl2 h0 (by omega) (by omega) ⟨rfl, U, ?_, (Step.ext (e1.trans e2)).trans (Step.upd (F1.owned x ps a hx h1).1 _ (Nat.le_refl _))⟩
  exact F2.mut hx (h1.keep e2.keep) hl2 hu _ (Nat.le_refl _) (by simpa using h4) (by simpa using Reps.set' k.toNat (h3.ext e2) (a1.ext e2))
-- x[i] op= e
theorem Ex1.augitem {x px i e op tpos pos ps p q r k σ1} (hx : At c.N σ x (.own ps)) (hi : Ev T c σ i (.int k)) (h0 : 0 ≤ k) (hp : ps[k.toNat]? = some p) (h : Ev T c σ e q)
    (ho : ∀ A U s va vb, Ok 0 A → Su T U s → Rep T s U va p → Rep T s U vb q → wpAny (model T.prog T.w) A (inplaceOp op va vb) (fun v s' => Rep T s' U v r ∧ Ext s s') (fun _ _ => False) s)
    (hu : Upd c.N σ x (.own (ps.set k.toNat r)) σ1)
    (ha : ∀ ov iv new, augStore i ov iv new = (do holding [new, ov, iv] (setItem ov iv new); release [new, ov, iv] []; pure .next) := by intro _ _ _; rfl) :
    Ex1 T c σ (.AugAssign (.Subscript (.Name x px) i tpos) op e pos) (.next σ1) := fun A env s₀ U₀ U s O F => by
  obtain ⟨hd, a, it, n, h1, h2, h4, h3⟩ := F.rd.own x ps hx
  refine wpAny_AugAssign_Subscript_any (wpAny_Name (load_var F.rd.kind h1 (wpB (hi A env U s O F.rd) fun w s2 ⟨a2, e2⟩ => ?_)) hd) ha
  obtain ⟨t, rfl⟩ := rep_int a2
  have F2 := F.of_ext e2
  have hl2 := e2.keep _ _ h2
  have hsz : it.size = ps.length := by rw [← h3.length]; simp
  have hlen : k.toNat < ps.length := by
    rcases Nat.lt_or_ge k.toNat ps.length with h | h
    · exact h
    · rw [List.getElem?_eq_none h] at hp; cases hp
  obtain ⟨v, hv1, hv2⟩ := h3.get hp
  refine wpAny_getItem_list (IsL.isList (n := n) hl2) h0 (by omega) (by simpa using hv1) ?_
  refine wpB (h A env U s2 O F2.rd) fun vb s3 ⟨a3, e3⟩ => wpB (ho A U s3 v vb O.zero (F2.of_ext e3).rd.su ((hv2.ext e2).ext e3) a3) fun vr s4 ⟨a4, e4⟩ => ?_
  have e24 := e3.trans e4
  refine ki_setAt (n := n) (e24.keep _ _ hl2) h0 (by omega) (by omega) ⟨rfl, U, ?_, (Step.ext (e2.trans e24)).trans (Step.upd (F.owned x ps a hx h1).1 _ (Nat.le_refl _))⟩
  exact (F2.of_ext e24).mut hx ((h1.keep e2.keep).keep e24.keep) (e24.keep _ _ hl2) hu _ (Nat.le_refl _) (by simpa using h4) (by simpa using Reps.set' k.toNat ((h3.ext e2).ext e24) a4)
-- del x[i]
theorem Reps.erase {s : Shared} {U} : ∀ {ps : List V} {vs : List Value} (k : Nat), Reps T s U vs ps → Reps T s U (vs.eraseIdx k) (ps.eraseIdx k)
  | [], _, k, x => by unfold Reps at x; subst x; simp [Reps]
  | q :: ps, _, k, x => by
    unfold Reps at x; obtain ⟨v, r, rfl, h2, h3⟩ := x
    cases k with
    | zero => exact h3
    | succ k => exact Reps.cons h2 (Reps.erase k h3)
theorem Ex1.delitem {x px i tpos pos ps k σ1} {j : Nat} (hx : At c.N σ x (.own ps)) (hi : Ev T c σ i (.int k)) (hj : seqIndex? k ps.length = some j) (hjl : j < ps.length) (hk : -1000 ≤ k ∧ k ≤ 1048576) (hu : Upd c.N σ x (.own (ps.eraseIdx j)) σ1) :
    Ex1 T c σ (.Delete [.Subscript (.Name x px) i tpos] pos) (.next σ1) := fun A env s₀ U₀ U s O F => by
  obtain ⟨hd, a, it, n, h1, h2, h4, h3⟩ := F.rd.own x ps hx
  refine wpAny_Delete (wpAny_deleteEach_cons (delete_Subscript (wpAny_Name (load_var F.rd.kind h1 (wpB (hi A env U s O F.rd) fun w s2 ⟨a2, e2⟩ => ?_)) hd)))
  obtain ⟨t, rfl⟩ := rep_int a2
  have F2 := F.of_ext e2
  have hl2 := e2.keep _ _ h2
  have hsz : it.size = ps.length := by rw [← h3.length]; simp
  have h24 : (2:Nat)^24 = sizeLine := rfl
  refine P.delItem_list hl2 ?_ (by rw [hsz]; exact hj) (wpAny_deleteEach_nil ⟨rfl, U, ?_, (Step.ext e2).trans (Step.upd (F.owned x ps a hx h1).1 _ (Nat.le_refl _))⟩) (by omega)
  · unfold Builtin.List.listFitsIndex; simp; omega
  · refine F2.mut hx (h1.keep e2.keep) hl2 hu _ (Nat.le_refl _) (by rw [List.length_eraseIdx]; split <;> omega) ?_
    have : (it.eraseIdxIfInBounds j).toList = it.toList.eraseIdx j := by simp
    rw [this]
    exact Reps.erase j (h3.ext e2)
end
section
open PySem PySem.W PyProof.Rows
open PySem.Builtin PySem.Builtin.Str
set_option Elab.async false
set_option linter.unusedVariables false
variable {T : TC} {c : Cx} {σ σ' : List Slot}
variable {s₀ s s' : Shared} {U₀ U : List Addr} {env : Env}

-- the first turn that leaves
noncomputable def firstB (B : Nat → Option V) : Nat → Option V
  | 0 => Option.none
  | n + 1 => match firstB B n with
    | some p => some p
    | Option.none => B n
theorem firstB_none {B : Nat → Option V} : ∀ {n}, (∀ j < n, B j = Option.none) → firstB B n = Option.none
  | 0, _ => rfl
  | n + 1, h => by
    show (match firstB B n with | some p => some p | Option.none => B n) = _
    rw [firstB_none fun j hj => h j (Nat.lt_succ_of_lt hj)]
    exact h n (Nat.lt_succ_self n)
theorem firstB_some {B : Nat → Option V} {i p} : ∀ {n}, i < n → (∀ j < i, B j = Option.none) → B i = some p → firstB B n = some p
  | n + 1, hi, h, hp => by
    show (match firstB B n with | some p => some p | Option.none => B n) = _
    by_cases e : i = n
    · subst e; rw [firstB_none h]; exact hp
    · rw [firstB_some (by omega) h hp]
noncomputable def outOf (σ : List Slot) : Option V → Out
  | Option.none => .next σ
  | some p => .ret p

-- values hold no object of fields
mutual
theorem Rep.setF {s : Shared} {U U' : List Addr} (k : ∀ a o, s.heap.get? a = some o → (∀ v, o.data ≠ .fields v) → a ∉ U → a ∉ U') : ∀ {p : V} {v : Value}, Rep T s U v p → Rep T s U' v p
  | .none, _, x => x
  | .bool _, _, x => x
  | .int _, _, x => x
  | .str _, _, x => x
  | .strt _, _, x => x
  | .fn _, _, x => x
  | .raw _, _, x => x
  | .dict _, _, x => by
    unfold Rep at x ⊢
    obtain ⟨a, vs, n, h1, h2, h6, ⟨o, es, h3, h4⟩, h5⟩ := x
    exact ⟨a, vs, n, h1, k _ _ h3 (by intro v e; rw [h4.2.1] at e; cases e) h2, h6, ⟨o, es, h3, h4⟩, h5⟩
  | .list ps, _, x => by
    unfold Rep at x ⊢
    obtain ⟨a, items, n, h1, h2, h3, h5, h4⟩ := x
    exact ⟨a, items, n, h1, k _ _ h3 (by intro v e; cases e) h2, h3, h5, Reps.setF k h4⟩
theorem Reps.setF {s : Shared} {U U' : List Addr} (k : ∀ a o, s.heap.get? a = some o → (∀ v, o.data ≠ .fields v) → a ∉ U → a ∉ U') : ∀ {ps : List V} {vs : List Value}, Reps T s U vs ps → Reps T s U' vs ps
  | [], _, x => x
  | p :: ps, _, x => by
    unfold Reps at x ⊢
    obtain ⟨v, r, h1, h2, h3⟩ := x
    exact ⟨v, r, h1, Rep.setF k h2, Reps.setF k h3⟩
end
-- objects of fields turned: no name feels it
theorem Fr.other (F : Fr T c s₀ U₀ σ U env s) {W : List Addr} (hW : ∀ b ∈ W, s₀.heap.get? b = Option.none ∧ ∃ o v, s.heap.get? b = some o ∧ o.data = .fields v)
    (hk : ∀ a o, a ∉ W → s.heap.get? a = some o → s'.heap.get? a = some o) (hg : s'.gens = s.gens) (ho : s'.os = s.os) (ht : s.toks ≤ s'.toks) (hl : ∀ b ∈ W, b ∉ U) : Fr T c s₀ U₀ σ U env s' := by
  have hE : Ext s₀ s' := ⟨fun b o h => hk b o (by intro hm; have := (hW b hm).1; rw [h] at this; cases this) (F.ext.keep _ _ h), hg.trans F.ext.gens, ho.trans F.ext.os, Nat.le_trans F.ext.toks ht⟩
  obtain ⟨m, hn⟩ := F.ns
  have hLW : env.locals ∉ W := fun hm => by
    obtain ⟨o, v, h1, h2⟩ := (hW _ hm).2
    obtain ⟨o', _, _, h3, h4, _⟩ := hn
    rw [h1] at h3; cases h3; rw [h2] at h4; cases h4
  have hcW : ∀ a v, s.heap.IsCell a v → a ∉ W := fun a v hc hm => by
    obtain ⟨o, w, h1, h2⟩ := (hW _ hm).2
    obtain ⟨o', h3, h4⟩ := hc
    rw [h1] at h3; cases h3; rw [h2] at h4; cases h4
  have hlW : ∀ a it n, IsL s.heap a it n → a ∉ W := fun a it n hi hm => by
    obtain ⟨o, w, h1, h2⟩ := (hW _ hm).2
    rw [show s.heap.get? a = some _ from hi] at h1; cases h1; cases h2
  have keepC : ∀ a v, s.heap.IsCell a v → s'.heap.IsCell a v := fun a v hc => by
    have := hcW a v hc
    obtain ⟨o, h3, h4⟩ := hc
    exact ⟨o, hk _ _ this h3, h4⟩
  have hU : ∀ a o, s.heap.get? a = some o → (∀ v, o.data ≠ .fields v) → a ∉ U → a ∉ W ++ U := fun a o h hd hn hm => by
    rcases List.mem_append.mp hm with h1 | h1
    · obtain ⟨o', v, h2, h3⟩ := (hW a h1).2
      rw [h] at h2; cases h2; exact hd v h3
    · exact hn h1
  have hkU : ∀ a o, a ∉ W ++ U → s.heap.get? a = some o → s'.heap.get? a = some o := fun a o hn h => hk a o (fun e => hn (List.mem_append_left _ e)) h
  have hv : ∀ y v, HoldsVar s.heap env y v → HoldsVar s'.heap env y v := by
    intro y v h
    rcases h with ⟨h1, m', h2, h3⟩ | ⟨h1, cc, h2, h3⟩
    · exact .inl ⟨h1, m', h2.at' fun o e => hk _ o hLW e, h3⟩
    · exact .inr ⟨h1, cc, h2, keepC _ _ h3⟩
  refine { rd := ?_, base := F.base, ext := hE, nodup := F.nodup, dbg := F.dbg, inU := F.inU, old := F.old, locU := F.locU, locN := F.locN, ns := ⟨m, hn.at' fun o e => hk _ o hLW e⟩, cel := ?_, kinds := F.kinds, apart := F.apart, owned := ?_, owap := ?_ }
  · refine ⟨F.base.trans hE.keep, F.rd.kind, F.rd.names, F.rd.globals, F.rd.builtins, ?_, ?_, F.rd.glob, ?_, Nat.lt_of_lt_of_le F.rd.tok ht⟩
    · intro y p a
      obtain ⟨h3, v, h4, h5⟩ := F.rd.var y p a
      exact ⟨h3, v, hv y v h4, ((h5.setF hU).but hkU ht).sub fun a h => List.mem_append_right _ h⟩
    · intro y ps a
      obtain ⟨h3, b, it, n, h4, h5, h6, h7⟩ := F.rd.own y ps a
      exact ⟨h3, b, it, n, hv y _ h4, hk _ _ (hlW _ _ _ h5) h5, h6, (Reps.but hkU ht (h7.setF hU)).sub fun a h => List.mem_append_right _ h⟩
    · intro a ha
      obtain ⟨o, h1⟩ := F.rd.used a ha
      exact ⟨o, hk a o (fun h => hl a h ha) h1⟩
  · intro y a h
    obtain ⟨h1, h2, v, h3⟩ := F.cel y a h
    exact ⟨h1, h2, v, keepC _ _ h3⟩
  · intro y ps a h1 h2
    obtain ⟨_, b, it, n, h3, _⟩ := F.rd.own y ps h1
    have := (hv y _ h3).uniq h2; cases this
    exact F.owned y ps a h1 h3
  · intro y z ps qs a h1 h2 h3 h4
    obtain ⟨_, b, it, n, k3, _⟩ := F.rd.own y ps h1
    have := (hv y _ k3).uniq h3; cases this
    obtain ⟨_, b', it', n', l3, _⟩ := F.rd.own z qs h2
    have := (hv z _ l3).uniq h4; cases this
    exact F.owap y z ps qs _ h1 h2 k3 l3

theorem Ex1.for_ {x px iter body pos qs} (L : Nat → List Slot) (B : Nat → Option V) (hit : It T c σ iter qs) (h0 : Weak σ (L 0))
    (hbody : ∀ i q, qs[i]? = some q → (∀ j < i, B j = Option.none) → ∃ σi, Upd c.N (L i) x (.val q) σi ∧ Ex T c σi body (outOf (L (i + 1)) (B i)))
    (hs : ∀ env x, foldedSetIterable iter env x = pure x := by walk_at "r1") : Ex1 T c σ (.For (.Name x px) iter body [] pos) (outOf (L qs.length) (firstB B qs.length)) := fun A env s₀ U₀ U s O F => by
  refine wpAny_For (wpB (hit A env U s O F.rd) fun xv s1 h1 => wpB h1 fun it s2 ⟨⟨I, fp, wr, P, St, W⟩, e2⟩ => ?_) (hs env)
  obtain rfl := W.ref
  have Wk := W.walks
  have F2 : Fr T c s₀ U₀ (L 0) U env s2 := (F.of_ext e2).weak h0
  have S2 : Step U s (wr ++ U) s2 := ⟨fun a o _ h => e2.keep a o h, fun a h => by
    rcases List.mem_append.mp h with h | h
    · exact .inr (W.fresh a h)
    · exact .inl h, e2.toks⟩
  refine codeAny_forLoop (fun k s' => ∃ i U', St i s'.heap ∧ Fr T c s₀ U₀ (L i) U' env s' ∧ Step (wr ++ U) s2 U' s' ∧ (∀ b ∈ fp, b ∉ U') ∧ (∀ b ∈ fp, Live s' b) ∧ i ≤ qs.length ∧ k = qs.length + 1 - i ∧ (∀ j < i, B j = Option.none)) ?_ (qs.length + 1)
    ⟨0, U, W.start, F2, Step.sub (fun b hb => List.mem_append_right _ hb), W.apart, W.live, Nat.zero_le _, rfl, fun j hj => absurd hj (Nat.not_lt_zero j)⟩
  rintro k s' ⟨i, U', hst, F', S', hfp, hfl, hi, rfl, hB⟩
  have hW : ∀ b ∈ wr, s₀.heap.get? b = Option.none ∧ ∃ o v, s'.heap.get? b = some o ∧ o.data = .fields v := fun b hb => ⟨fresh_of F.ext (W.fresh b hb), W.lives _ _ hst b hb⟩
  by_cases hlt : i < qs.length
  · refine wpAny_with_toks (n := s'.toks) (Nat.le_refl _) (Wk.item i s' _ _ hlt hst fun v h₁ tk₁ hPv hst₁ hk₁ htk₁ => ?_)
    have hlw : ∀ b ∈ wr, Live { s' with heap := h₁, toks := tk₁ } b := fun b hb => let ⟨o, _, h, _⟩ := W.lives _ _ hst₁ b hb; ⟨o, h⟩
    have F3 := F'.other (s' := { s' with heap := h₁, toks := tk₁ }) hW hk₁ rfl rfl htk₁ fun b hb => hfp b (Wk.sub b hb)
    have S3 : Step (wr ++ U) s2 U' { s' with heap := h₁, toks := tk₁ } := ⟨fun a o hn h => hk₁ a o (fun hm => hn (List.mem_append_left _ hm)) (S'.keep a o hn h), S'.new, Nat.le_trans S'.toks htk₁⟩
    obtain ⟨q, hq, hrep⟩ := W.item i v hPv
    obtain ⟨σi, hu, hb⟩ := hbody i q hq hB
    refine wpAny_assign_Name (F3.store hu (fun s' h1 h2 _ h3 => ⟨v, h3, (S3.rep hrep).but h2 h1⟩) fun s4 F4 ht4 hk4 _ => ?_)
    have S4 : Step (wr ++ U) s2 U' s4 := S3.trans ⟨hk4, fun _ h => .inl h, ht4⟩
    refine wpAny_mono (hb A env s₀ U₀ U' s4 O F4) (fun f s5 h5 => ?_) fun _ _ e => e.elim
    cases hBi : B i with
    | some p =>
      rw [hBi] at h5
      obtain ⟨v', rfl, h6, h7⟩ := h5
      show Ends T c s₀ U₀ env U s (outOf (L qs.length) (firstB B qs.length)) (.ret v') s5
      rw [firstB_some hlt hB hBi]
      exact ⟨v', rfl, h6, h7⟩
    | none =>
      rw [hBi] at h5
      obtain ⟨rfl, U5, F5, S5⟩ := h5
      have live4 : ∀ b ∈ fp, Live s4 b := fun b hb => by
        by_cases hbw : b ∈ wr
        · obtain ⟨o, h⟩ := hlw b hbw; exact ⟨o, hk4 _ _ (hfp b hb) h⟩
        · obtain ⟨o, h⟩ := hfl b hb; exact ⟨o, hk4 _ _ (hfp b hb) (hk₁ _ _ hbw h)⟩
      refine ⟨qs.length + 1 - (i + 1), by omega, i + 1, U5, ?_, F5, S4.trans S5, ?_, ?_, hlt, rfl, ?_⟩
      · exact Wk.frame _ _ _ hst₁ fun b hb o e => S5.keep _ _ (hfp b hb) (hk4 _ _ (hfp b hb) e)
      · intro b hb hm
        rcases S5.new b hm with h | h
        · exact hfp b hb h
        · obtain ⟨o, ho⟩ := live4 b hb; rw [h] at ho; cases ho
      · intro b hb
        obtain ⟨o, ho⟩ := live4 b hb
        exact ⟨o, S5.keep _ _ (hfp b hb) ho⟩
      · intro j hj
        rcases Nat.lt_succ_iff_lt_or_eq.mp hj with h | rfl
        · exact hB j h
        · exact hBi
  · have hin : i = qs.length := by omega
    subst hin
    refine wpAny_with_toks (n := s'.toks) (Nat.le_refl _) (Wk.done s' _ _ hst fun h₁ tk₁ hk₁ htk₁ => wpAny_execs_nil ?_)
    have F3 := F'.other (s' := { s' with heap := h₁, toks := tk₁ }) hW hk₁ rfl rfl htk₁ fun b hb => hfp b (Wk.sub b hb)
    have S3 : Step (wr ++ U) s2 U' { s' with heap := h₁, toks := tk₁ } := ⟨fun a o hn h => hk₁ a o (fun hm => hn (List.mem_append_left _ hm)) (S'.keep a o hn h), S'.new, Nat.le_trans S'.toks htk₁⟩
    show Ends T c s₀ U₀ env U s (outOf (L qs.length) (firstB B qs.length)) .next _
    rw [firstB_none hB]
    exact ⟨rfl, U', F3, S2.trans S3⟩

theorem Ex1.forAll {x px iter body pos qs} (L : Nat → List Slot) (hit : It T c σ iter qs) (h0 : Weak σ (L 0))
    (hbody : ∀ i q, qs[i]? = some q → ∃ σi, Upd c.N (L i) x (.val q) σi ∧ Ex T c σi body (.next (L (i + 1))))
    (hs : ∀ env x, foldedSetIterable iter env x = pure x := by walk_at "r1") : Ex1 T c σ (.For (.Name x px) iter body [] pos) (.next (L qs.length)) := by
  have := Ex1.for_ (pos := pos) (px := px) L (fun _ => Option.none) hit h0 (fun i q h _ => hbody i q h) hs
  rw [firstB_none (fun _ _ => rfl)] at this
  exact this

-- while
theorem Ex1.while_ {test body pos} (L : Nat → List Slot) (n : Nat) (h0 : L 0 = σ) (ht : ∀ i < n, Tr T c (L i) test true) (hb : ∀ i < n, Ex T c (L i) body (.next (L (i + 1)))) (hf : Tr T c (L n) test false) :
    Ex1 T c σ (.While test body [] pos) (.next (L n)) := fun A env s₀ U₀ U s O F => by
  subst h0
  refine wpAny_While (codeAny_whileLoop (fun k s' => ∃ i U', Fr T c s₀ U₀ (L i) U' env s' ∧ Step U s U' s' ∧ i ≤ n ∧ k = n - i) ?_ n ⟨0, U, F, Step.refl, Nat.zero_le _, rfl⟩)
  rintro k s' ⟨i, U', F', S', hi, rfl⟩
  by_cases hlt : i < n
  · refine wpAny_mono (ht i hlt A env U' s' O F'.rd) (fun r s1 ⟨hr, e1⟩ => ?_) fun _ _ e => e.elim
    subst hr
    simp only [if_true]
    refine wpAny_mono (hb i hlt A env s₀ U₀ U' s1 O (F'.of_ext e1)) (fun f s2 ⟨hf, U2, F2, S2⟩ => ?_) fun _ _ e => e.elim
    subst hf
    exact ⟨n - (i + 1), by omega, i + 1, U2, F2, S'.trans ((Step.ext e1).trans S2), hlt, rfl⟩
  · have : i = n := by omega
    subst this
    refine wpAny_mono (hf A env U' s' O F'.rd) (fun r s1 ⟨hr, e1⟩ => ?_) fun _ _ e => e.elim
    subst hr
    simp only [Bool.false_eq_true, if_false]
    exact wpAny_execs_nil ⟨rfl, U', F'.of_ext e1, S'.trans (Step.ext e1)⟩

-- try, where nothing is raised
theorem Ex1.try_ {body h hs pos o} (hb : Ex T c σ body o) : Ex1 T c σ (.Try body (h :: hs) [] [] pos) o := fun A env s₀ U₀ U s O F =>
  wpAny_Try_except (wpAny_mono (hb A env s₀ U₀ U s O F) (fun f s1 h1 => by
    cases f with
    | next => exact wpAny_execs_nil h1
    | _ => exact h1) fun _ _ e => e.elim)

-- an object that may be written, of no name, turned and given up
theorem Fr.turn {w : Addr} (F : Fr T c s₀ U₀ σ ([w] ++ U) env s) {m : Str → Option Value} (hU : w ∉ U) (h0 : s₀.heap.get? w = Option.none) (hm : s.heap.Ns w m) (hL : env.locals ≠ w)
    (hk : ∀ a o, a ≠ w → s.heap.get? a = some o → s'.heap.get? a = some o) (hg : s'.gens = s.gens) (ho : s'.os = s.os) (ht : s.toks ≤ s'.toks) : Fr T c s₀ U₀ σ U env s' := by
  have hE : Ext s₀ s' := ⟨fun b o h => hk b o (by rintro rfl; rw [h] at h0; cases h0) (F.ext.keep _ _ h), hg.trans F.ext.gens, ho.trans F.ext.os, Nat.le_trans F.ext.toks ht⟩
  obtain ⟨m', hn⟩ := F.ns
  have hcw : ∀ a v, s.heap.IsCell a v → a ≠ w := fun a v hc => by rintro rfl; exact ns_not_cell hm hc
  have keepC : ∀ a v, s.heap.IsCell a v → s'.heap.IsCell a v := fun a v hc => by
    have := hcw a v hc
    obtain ⟨o, h3, h4⟩ := hc
    exact ⟨o, hk _ _ this h3, h4⟩
  have hin : ∀ a, a ∈ [w] ++ U → a ≠ w → a ∈ U := fun a h hne => (List.mem_append.mp h).elim (fun h => by simp at h; exact absurd h hne) id
  have hsub : ∀ a, a ∈ U → a ∈ [w] ++ U := fun a h => List.mem_append_right _ h
  have hkU : ∀ a o, a ∉ [w] ++ U → s.heap.get? a = some o → s'.heap.get? a = some o := fun a o hn h => hk a o (by rintro rfl; exact hn (List.mem_append_left _ (.head _))) h
  have hv : ∀ y v, HoldsVar s.heap env y v → HoldsVar s'.heap env y v := by
    intro y v h
    rcases h with ⟨h1, m', h2, h3⟩ | ⟨h1, cc, h2, h3⟩
    · exact .inl ⟨h1, m', h2.at' fun o e => hk _ o hL e, h3⟩
    · exact .inr ⟨h1, cc, h2, keepC _ _ h3⟩
  refine { rd := ?_, base := F.base, ext := hE, nodup := F.nodup, dbg := F.dbg, inU := fun a h => F.inU a (hsub a h), old := ?_, locU := hin _ F.locU hL, locN := F.locN, ns := ⟨m', hn.at' fun o e => hk _ o hL e⟩, cel := ?_, kinds := F.kinds, apart := F.apart, owned := ?_, owap := ?_ }
  · refine ⟨F.base.trans hE.keep, F.rd.kind, F.rd.names, F.rd.globals, F.rd.builtins, ?_, ?_, F.rd.glob, ?_, Nat.lt_of_lt_of_le F.rd.tok ht⟩
    · intro y p a
      obtain ⟨h3, v, h4, h5⟩ := F.rd.var y p a
      exact ⟨h3, v, hv y v h4, (h5.but hkU ht).sub hsub⟩
    · intro y ps a
      obtain ⟨h3, b, it, n, h4, h5, h6, h7⟩ := F.rd.own y ps a
      exact ⟨h3, b, it, n, hv y _ h4, hk _ _ (by rintro rfl; exact ns_not_list hm h5) h5, h6, (Reps.but hkU ht h7).sub hsub⟩
    · intro a ha
      obtain ⟨o, h1⟩ := F.rd.used a (hsub a ha)
      exact ⟨o, hk a o (by rintro rfl; exact hU ha) h1⟩
  · intro a ha
    obtain ⟨h1, h2⟩ := F.old a ha
    refine ⟨hin a h1 ?_, h2⟩
    rintro rfl
    obtain ⟨o, h⟩ := h2; rw [h0] at h; cases h
  · intro y a h
    obtain ⟨h1, h2, v, h3⟩ := F.cel y a h
    exact ⟨hin a h1 (hcw a v h3), h2, v, keepC _ _ h3⟩
  · intro y ps a h1 h2
    obtain ⟨_, b, it, n, h3, h4, _⟩ := F.rd.own y ps h1
    have := (hv y _ h3).uniq h2; cases this
    obtain ⟨h5, h6⟩ := F.owned y ps a h1 h3
    exact ⟨hin a h5 (by rintro rfl; exact ns_not_list hm h4), h6⟩
  · intro y z ps qs a h1 h2 h3 h4
    obtain ⟨_, b, it, n, k3, _⟩ := F.rd.own y ps h1
    have := (hv y _ k3).uniq h3; cases this
    obtain ⟨_, b', it', n', l3, _⟩ := F.rd.own z qs h2
    have := (hv z _ l3).uniq h4; cases this
    exact F.owap y z ps qs _ h1 h2 k3 l3

-- whether a comprehension's store is exchanged
noncomputable def swapB (nm : List (Str × NameKind)) (t : Str) (line line2 : Nat) (names : List (Str × NameKind)) : Bool :=
  nm.lookup t == some .local && line == line2 && !(names.any fun x => x.1 == t && (x.2 == .local || x.2 == .cell))
theorem swaps_eq {elt : Expr} {gs : List Comprehension} {scope : Scope} {pos : Pos} {t : Str} {p : Pos} {line : Nat} {nm} (hk : env.scope.kind = .function) (hn : env.scope.names = nm) :
    swapsWith (.ListComp elt gs scope pos) (some (.Name t p)) line env = pure (swapB nm t p.line pos.line scope.names) := by
  subst hn
  show (pure (env.blockKind == .function && env.kindOf t == some .local && p.line == pos.line && !(scope.names.any fun (n, k) => n == t && (k == .local || k == .cell))) : Sem Bool) = _
  unfold swapB Env.kindOf Env.blockKind
  rw [hk]
  rfl
-- a list made by a comprehension, named
theorem Ex1.assign_comp {elt iter : Expr} {x y : Str} {px py : Pos} {ifs : List Expr} {scope : Scope} {pos spos : Pos} {c' caps cs} {qs : List V} {t : Nat → Bool} {f : Nat → V} {σ1} (H : CompCx T c σ scope x c' caps cs)
    (hit : It T c σ iter qs) (htest : ∀ i q, qs[i]? = some q → TrIf T c' (.val q :: cs) ifs (t i)) (helt : ∀ i q, qs[i]? = some q → t i = true → Ev T c' (.val q :: cs) elt (f i))
    (hsz : qs.length ≤ 1048576) (hu : Upd c.N σ y (.val (.list (compR qs.length t f))) σ1) (hs : ∀ env x, foldedSetIterable iter env x = pure x := by walk_at "r1") :
    Ex1 T c σ (.Assign [.Name y py] (.ListComp elt [⟨.Name x px, iter, ifs, 0⟩] scope pos) spos) (.next σ1) := fun A env s₀ U₀ U s O F => by
  have hsw := swaps_eq (elt := elt) (gs := [⟨.Name x px, iter, ifs, 0⟩]) (scope := scope) (pos := pos) (t := y) (p := py) (line := spos.line) F.rd.kind F.rd.names
  cases hb : swapB c.nm y py.line pos.line scope.names with
  | false =>
    rw [hb] at hsw
    exact wpAny_Assign_Name (wpB (Ev.comp (px := px) (pos := pos) H hit htest helt hsz hs A env U s O F.rd) fun v s1 ⟨a1, e1⟩ => store_ends (F.of_ext e1) hu a1 (Step.ext e1)) hsw
  | true =>
    rw [hb] at hsw
    rw [exec_Assign_Name_used _ _ _ _ hsw]
    refine wpAny_bind (wpAny_standAt (wpAny_bind ?_))
    show wpAny _ A (do let _ ← comprehension (.ListComp elt [⟨.Name x px, iter, ifs, 0⟩] scope pos) scope env _ (newList []) false (eval iter env) (some (PySem.assign (.Name y py) env))) _ _ s
    refine wpAny_bind (wpAny_mono (comp_core (Q := fun _ s' => Ends T c s₀ U₀ env U s (.next σ1) .next s') (use := some (PySem.assign (.Name y py) env)) H hit htest helt O F.rd hsz (hs env) fun D C wr s' m' ys n hD hC hDC hl hn hr he => ?_) (fun _ s' hq => wpAny_pure (wpAny_pure hq)) fun _ _ e => e)
    have hrep : Rep T s' ([C] ++ U) (.ref D) (.list (compR qs.length t f)) := by
      unfold Rep
      refine ⟨D, ys, n, rfl, ?_, hl, Nat.le_trans (compR_len _ _ _) hsz, Reps.sub hr fun a ha => ?_⟩
      · intro hm
        rcases List.mem_append.mp hm with h | h
        · simp at h; exact hDC h
        · exact new_not F.rd.used hD h
      · rcases List.mem_append.mp ha with h | h
        · simp at h; subst h; exact .tail _ (.head _)
        · exact .tail _ (.tail _ (List.mem_append_right _ h))
    have hlC : Live s' C := by obtain ⟨o, _, _, h, _⟩ := hn; exact ⟨o, h⟩
    have F1 := F.grow he (W := [C]) (by intro b hb; simp at hb; subst hb; exact hC) (by intro b hb; simp at hb; subst hb; exact hlC)
    have S1 : Step U s ([C] ++ U) s' := ⟨fun b o _ h => he.keep b o h, fun b hb => by
      rcases List.mem_append.mp hb with h | h
      · simp at h; subst h; exact .inr hC
      · exact .inl h, he.toks⟩
    have hLC : env.locals ≠ C := by
      rintro rfl
      obtain ⟨_, o, _, _, h, _⟩ := F.ns
      rw [hC] at h; cases h
    show wpAny _ A (PySem.assign (.Name y py) env (.ref D)) _ _ s'
    refine wpAny_assign_Name (F1.store hu (fun s' h1 h2 _ h3 => ⟨_, h3, hrep.but h2 h1⟩) fun s2 F2 ht hk hst => ?_)
    have hn2 : s2.heap.Ns C m' := by
      refine hn.at' fun o e => hst C o (Ne.symm hLC) ?_ e
      intro y hy
      obtain ⟨_, _, v, o', h1, h2⟩ := F.cel y C hy
      rw [hC] at h1; cases h1
    refine ⟨m', hn2, fun h' hs' => ?_⟩
    have F3 := F2.turn (s' := { s2 with heap := h' }) (w := C) (new_not F.rd.used hC) (fresh_of F.ext hC) hn2 hLC (fun a o h e => hs'.extBut a o h e) rfl rfl (Nat.le_refl _)
    refine ⟨rfl, _, F3, S1.trans ((⟨hk, fun _ h => .inl h, ht⟩ : Step ([C] ++ U) s' ([C] ++ U) s2).trans ⟨fun a o hn e => hs'.extBut a o (by rintro rfl; exact hn (List.mem_append_left _ (.head _))) e, fun _ h => .inl (List.mem_append_right _ h), Nat.le_refl _⟩)⟩
end
section
open PySem PySem.W PyProof.Rows
open PySem.Builtin PySem.Builtin.Str
set_option Elab.async false
set_option linter.unusedVariables false
variable {T : TC} {c : Cx} {σ σ' : List Slot}

-- a frame made; one parameter that no inner scope sees draws a sign
theorem newEnv_toks {M : Model} {A : Around} {E : Value → Shared → Prop} {s : Shared} {scope : Scope} {globals : Addr} {binds : List (Str × Value)} {qual : Str} {func : Option Addr} {code : Value} {builtins : Addr} {Q : Env → Shared → Prop}
    (hk : scope.kind = .function)
    (hkind : ∀ x ∈ binds, scope.names.lookup x.1 = some .local ∨ (scope.names.lookup x.1 = some .cell ∧ ((cellsFrom (s.heap.objs.size + 1) scope.names []).lookup x.1).isSome = true))
    (hQ : ∀ env, env = newEnv scope s.heap.objs.size globals (cellsFrom (s.heap.objs.size + 1) scope.names []) qual func code Option.none builtins →
      ∀ s', InCallC s env.locals (bindL env.kindOf binds fun _ => Option.none) env.cells (bindC env.kindOf binds fun _ => Option.none) s' → s.toks ≤ s'.toks → (∀ n v, binds = [(n, v)] → scope.names.lookup n = some .local → s.toks < s'.toks) → Q env s') :
    wpAny M A (newFunctionEnv scope globals [] binds qual func code Option.none builtins) Q E s := by
  by_cases h1 : ∃ n v, binds = [(n, v)] ∧ scope.names.lookup n = some .local
  · obtain ⟨n, v, rfl, hl⟩ := h1
    simp only [newFunctionEnv, Option.isSome_none, Bool.false_eq_true, if_false]
    refine wpAny_bind (wpAny_alloc (wpAny_bind (wpAny_layCells _ (fun name kind cells => by cases hkc : kind == NameKind.cell <;> simp [hkc]) _ _ _ _ ?_)))
    have ok := cellsFrom_ok scope.names (s.heap.push { cls := .type "frame", data := .dict #[] }) (s.heap.objs.size + 1) [] ⟨fun _ _ hm => (nomatch hm), List.Pairwise.nil⟩ (by rw [Heap.size_push]; exact Nat.le_refl _)
    have hsz : ({ s with heap := s.heap.push { cls := .type "frame", data := .dict #[] } } : Shared).heap.objs.size = s.heap.objs.size + 1 := Heap.size_push ..
    rw [Heap.size_push] at ok
    rw [hsz]
    generalize hH : pushCells (s.heap.push { cls := .type "frame", data := .dict #[] }) scope.names = H at ok ⊢
    have hold : ∀ b o, (s.heap.push { cls := .type "frame", data := .dict #[] }).get? b = some o → H.get? b = some o := fun b o e => hH ▸ pushCells_keeps _ _ b o e
    have hns : H.Ns s.heap.objs.size fun _ => Option.none := (Heap.Ns.new s.heap (.type "frame")).keeps hold
    refine wpAny_bind ?_
    rw [List.forIn_cons]
    refine wpAny_bind (wpAny_bind (wpAny_storeName_local hl hns (fun h' hn' hs' => wpAny_pure ?_) (by simp only [hk]; rfl)))
    dsimp only
    rw [List.forIn_nil]
    refine wpAny_pure (wpAny_pure (hQ _ rfl _ ⟨⟨⟨_, _, rfl⟩, ?_, fun b o e => ?_, Nat.le_refl _⟩, fun k c hc => ?_, ok.apart, fun k c hm => (ok.empty k c hm).2⟩ (Nat.le_succ _) fun _ _ _ _ => Nat.lt_succ_self _))
    · show h'.Ns _ (bindL _ [(n, v)] _)
      unfold bindL
      rw [if_pos (show (newEnv scope s.heap.objs.size globals (cellsFrom (s.heap.objs.size + 1) scope.names []) qual func code Option.none builtins).kindOf n = some .local from hl)]
      exact hn'
    · exact hs'.extBut b o (Nat.ne_of_lt (Heap.lt_size e)) (hold _ _ (Heap.get?_push_of_some _ e))
    · show h'.IsCell c (bindC _ [(n, v)] _ k)
      unfold bindC
      rw [if_pos (show (newEnv scope s.heap.objs.size globals (cellsFrom (s.heap.objs.size + 1) scope.names []) qual func code Option.none builtins).kindOf n = some .local from hl)]
      obtain ⟨h3, h4⟩ := ok.empty k c (mem_of_lookup hc)
      exact h3.sameBut hs' (Nat.ne_of_gt h4)
  · refine wpAny_with_toks (Nat.le_refl _) (wpAny_newFunctionEnv_cells hk hkind fun env he s' x htk => hQ env he s' x htk fun n v hb hl => absurd ⟨n, v, hb, hl⟩ h1)
theorem call_cells {prog : Program} {w : World} {A : Around} {s : Shared} {R : Result → Shared → Prop} {a : Addr} {o : Obj} {fd : FuncData} {body : List Stmt} {vals : List Value} {binds : List (Str × Value)}
    (hroom : A.depth < recursionLimit) (ho : s.heap.get? a = some o) (hdata : o.data = .func fd) (hlim : s.heap.NoLimit) (hcd : s.heap.CodeRec fd.code fd.qualname)
    (hbody : fd.body = .stmts body) (hbind : bindArgs fd ⟨vals, []⟩ = pure binds) (hclo : fd.closure = [])
    (hkind : ∀ x ∈ binds, fd.scope.names.lookup x.1 = some .local ∨ (fd.scope.names.lookup x.1 = some .cell ∧ ((cellsFrom (s.heap.objs.size + 1) fd.scope.names []).lookup x.1).isSome = true))
    (h : ∀ s₁, InCallC s (callEnvC fd s.heap.objs.size a).locals (bindL (callEnvC fd s.heap.objs.size a).kindOf binds fun _ => Option.none) (callEnvC fd s.heap.objs.size a).cells
        (bindC (callEnvC fd s.heap.objs.size a).kindOf binds fun _ => Option.none) s₁ → s.toks ≤ s₁.toks → (∀ n v, binds = [(n, v)] → fd.scope.names.lookup n = some .local → s.toks < s₁.toks) →
      wpAny (model prog w) (A.deeper (callEnvC fd s.heap.objs.size a)) (execs body (callEnvC fd s.heap.objs.size a)) (fun f s' => R (.ok (.ret (match f with | .ret v => v | _ => .none))) s')
        (fun e s' => wpAny (model prog w) (A.deeper (callEnvC fd s.heap.objs.size a)) (leaving (callEnvC fd s.heap.objs.size a) e) (fun _ s'' => R (.error e) s'') (fun e' s'' => R (.error e') s'') s') s₁)
    (hco : fd.scope.isCoroutine = false) (hgen : fd.scope.isGenerator = false) (hk : fd.scope.kind = .function) :
    codeAny (model prog w) A (.call (.ref a) ⟨vals, []⟩) R s := by
  refine codeAny_call_function hroom ho hdata hco hgen hbody hcd ?_
  rw [hbind, hclo]
  refine wpAny_pure (newEnv_toks hk hkind fun env he s' x htk htk1 => ?_)
  subst he
  exact ⟨hlim.keeps x.toInCall.keep, codeAny_func (h s' x htk htk1)⟩

theorem bindL_other {k : Str → Option NameKind} : ∀ {binds : List (Str × Value)} {m : Str → Option Value} {x : Str}, x ∉ binds.map (·.1) → bindL k binds m x = m x
  | [], m, x, _ => rfl
  | (n, v) :: r, m, x, h => by
    rw [List.map_cons, List.mem_cons, not_or] at h
    show bindL k r (if k n = some .local then _ else m) x = m x
    rw [bindL_other h.2]
    split
    · simp [h.1]
    · rfl
theorem bindC_other {k : Str → Option NameKind} : ∀ {binds : List (Str × Value)} {m : Str → Option Value} {x : Str}, x ∉ binds.map (·.1) → bindC k binds m x = m x
  | [], m, x, _ => rfl
  | (n, v) :: r, m, x, h => by
    rw [List.map_cons, List.mem_cons, not_or] at h
    show bindC k r (if k n = some .local then m else _) x = m x
    rw [bindC_other h.2]
    split
    · rfl
    · simp [h.1]
theorem bindL_of {k : Str → Option NameKind} : ∀ {binds : List (Str × Value)} {m : Str → Option Value} {x : Str} {v : Value}, (binds.map (·.1)).Nodup → (x, v) ∈ binds → k x = some .local → bindL k binds m x = some v
  | (n, u) :: r, m, x, v, hn, hm, hk => by
    rw [List.map_cons, List.nodup_cons] at hn
    show bindL k r (if k n = some .local then _ else m) x = some v
    rcases List.mem_cons.mp hm with e | hm
    · cases e
      rw [bindL_other hn.1, if_pos hk]; simp
    · exact bindL_of hn.2 hm hk
theorem bindC_of {k : Str → Option NameKind} : ∀ {binds : List (Str × Value)} {m : Str → Option Value} {x : Str} {v : Value}, (binds.map (·.1)).Nodup → (x, v) ∈ binds → k x ≠ some .local → bindC k binds m x = some v
  | (n, u) :: r, m, x, v, hn, hm, hk => by
    rw [List.map_cons, List.nodup_cons] at hn
    show bindC k r (if k n = some .local then m else _) x = some v
    rcases List.mem_cons.mp hm with e | hm
    · cases e
      rw [bindC_other hn.1, if_neg hk]; simp
    · exact bindC_of hn.2 hm hk
theorem cells_have : ∀ {names : List (Str × NameKind)} {n : Nat} {acc : List (Str × Addr)} {x : Str}, names.lookup x = some .cell ∨ (acc.lookup x).isSome = true → ((cellsFrom n names acc).lookup x).isSome = true
  | [], n, acc, x, h => by
    rcases h with h | h
    · simp at h
    · exact h
  | (y, k) :: r, n, acc, x, h => by
    unfold cellsFrom
    split
    · rename_i hk
      refine cells_have ?_
      rcases h with h | h
      · rw [List.lookup_cons] at h
        cases hx : x == y with
        | true => exact .inr (by rw [List.lookup_cons, hx]; rfl)
        | false => rw [hx] at h; exact .inl h
      · refine .inr ?_
        rw [List.lookup_cons]
        cases x == y <;> simp_all
    · rename_i hk
      refine cells_have ?_
      rcases h with h | h
      · rw [List.lookup_cons] at h
        cases hx : x == y with
        | true => rw [hx] at h; simp at h; subst h; simp at hk
        | false => rw [hx] at h; exact .inl h
      · exact .inr h

theorem at_params : ∀ {xs ys : List Str} {as : List V} {n : Nat} {x : Str} {p : V}, xs.length = as.length → At (xs ++ ys) (as.map .val ++ List.replicate n .dead) x (.val p) → ∃ i : Nat, xs[i]? = some x ∧ as[i]? = some p
  | [], ys, [], n, x, p, _, h => by
    exfalso
    simp only [List.map_nil, List.nil_append] at h
    generalize hr : List.replicate n Slot.dead = r at h
    have hd : ∀ sl ∈ r, sl = .dead := fun sl hm => by rw [← hr] at hm; exact (List.mem_replicate.mp hm).2
    clear hr
    induction ys generalizing r with
    | nil => cases h
    | cons y ys ih =>
      cases h with
      | here => have := hd _ (.head _); cases this
      | there h => exact ih _ h fun sl hm => hd sl (.tail _ hm)
  | y :: xs, ys, a :: as, n, x, p, hl, h => by
    simp only [List.map_cons, List.cons_append] at h
    cases h with
    | here => exact ⟨0, rfl, rfl⟩
    | there h =>
      obtain ⟨i, h1, h2⟩ := at_params (by simpa using hl) h
      exact ⟨i + 1, h1, h2⟩
theorem at_params_own : ∀ {xs ys : List Str} {as : List V} {n : Nat} {x : Str} {ps : List V}, xs.length = as.length → At (xs ++ ys) (as.map .val ++ List.replicate n .dead) x (.own ps) → False
  | [], ys, [], n, x, p, _, h => by
    simp only [List.map_nil, List.nil_append] at h
    generalize hr : List.replicate n Slot.dead = r at h
    have hd : ∀ sl ∈ r, sl = .dead := fun sl hm => by rw [← hr] at hm; exact (List.mem_replicate.mp hm).2
    clear hr
    induction ys generalizing r with
    | nil => cases h
    | cons y ys ih =>
      cases h with
      | here => have := hd _ (.head _); cases this
      | there h => exact ih _ h fun sl hm => hd sl (.tail _ hm)
  | y :: xs, ys, a :: as, n, x, p, hl, h => by
    simp only [List.map_cons, List.cons_append] at h
    cases h with
    | there h => exact at_params_own (by simpa using hl) h

structure FnCx (T : TC) (d : DefRec) (c : Cx) (params rest : List Str) : Prop where
  mem : d ∈ recsOf T.view
  nm : c.nm = d.scope.names
  N : c.N = params ++ rest
  nodup : c.N.Nodup
  dbg : ∀ x ∈ c.N, (x == ("__debug__" : Str)) = false
  kinds : ∀ x ∈ c.N, c.nm.lookup x = some .local ∨ c.nm.lookup x = some .cell
  kind : d.scope.kind = .function
  co : d.scope.isCoroutine = false
  gen : d.scope.isGenerator = false
  glob : ∀ x p, AtG c.G x p → (x == ("__debug__" : Str)) = false ∧ c.nm.lookup x = some .globalImplicit ∧ ∃ v, (T.mg x = some v ∨ (T.mg x = Option.none ∧ T.mb x = some v)) ∧ ∀ s U, Rep T s U v p
  bind : ∀ pm code doc vals, vals.length = params.length → bindArgs (Calls.docDef d.name d.params d.body d.scope pm code doc) ⟨vals, []⟩ = pure (params.zip vals)

theorem Cal.run {T : TC} {dd : Nat} {d : DefRec} {c : Cx} {params rest : List Str} (H : FnCx T d c params rest) {ps : List V} {q : V} (hps : params.length = ps.length) (hd : c.d + 1 ≤ dd)
    (hb : Ex T c (ps.map .val ++ List.replicate rest.length .dead) d.body (.ret q)) {A : Around} {U : List Addr} {s : Shared} {a : Addr} {args : List Value} (O : Ok dd A) (htop : Keeps T.h₀ s.heap) (hused : ∀ b ∈ U, Live s b)
    (hmg : T.mg d.name = some (.ref a)) (hr : Reps T s U args ps) (htok : 0 < s.toks ∨ ∃ n, params = [n] ∧ d.scope.names.lookup n = some .local) :
    wpAny (model T.prog T.w) A (call (.ref a) args) (fun v s' => Rep T s' U v q ∧ Ext s s') (fun _ _ => False) s := by
  obtain ⟨a', o, pm, code, doc, h1, h2, h3, h4⟩ := T.top.fn d H.mem
  rw [hmg] at h1; cases h1
  have hlen : args.length = params.length := by rw [hps]; exact hr.length
  have O1 := O.mono hd
  refine wpAny_call (call_cells (fd := Calls.docDef d.name d.params d.body d.scope pm code doc) (by have := O1.depth; show A.depth < 1000; omega) (htop _ _ h2) h3 (T.top.nolimit.keeps htop) (h4.keeps htop) rfl (H.bind pm code doc args hlen) rfl ?_ (fun s₁ x htk htk1 => ?_) H.co H.gen H.kind)
  · intro y hy
    have hy1 : y.1 ∈ c.N := by rw [H.N]; exact List.mem_append_left _ (List.of_mem_zip hy).1
    rcases H.kinds y.1 hy1 with h | h
    · exact .inl (by rw [H.nm] at h; exact h)
    · rw [H.nm] at h
      exact .inr ⟨h, cells_have (.inl h)⟩
  · generalize hE : callEnvC (Calls.docDef d.name d.params d.body d.scope pm code doc) s.heap.objs.size a = env at x
    have en : env.scope.names = c.nm := by rw [← hE, H.nm]; rfl
    have ek : env.scope.kind = .function := by rw [← hE]; exact H.kind
    have eg : env.globals = mainGlobals := by rw [← hE]; rfl
    have eb : env.builtins = builtinsNs := by rw [← hE]; rfl
    have eL : env.locals = s.heap.objs.size := by rw [← hE]; rfl
    have ec : env.cells = cellsFrom (s.heap.objs.size + 1) d.scope.names [] := by rw [← hE]; rfl
    have kof : ∀ y, env.kindOf y = c.nm.lookup y := fun y => by unfold Env.kindOf; rw [en]
    have e1 : Ext s s₁ := by
      obtain ⟨h, tk, e⟩ := x.toInCall.same
      exact ⟨x.toInCall.keep, by rw [e], by rw [e], htk⟩
    have htok1 : 0 < s₁.toks := by
      rcases htok with h | ⟨n, hn, hl⟩
      · exact Nat.lt_of_lt_of_le h htk
      · subst hn
        obtain ⟨v, hv⟩ := List.length_eq_one_iff.mp hlen
        exact Nat.lt_of_le_of_lt (Nat.zero_le _) (htk1 n v (by rw [hv]; rfl) hl)
    have hcellOf : ∀ y b, env.cells.lookup y = some b → s.heap.get? b = Option.none ∧ ∃ v, s₁.heap.IsCell b v := by
      intro y b h
      refine ⟨get_ge ?_, _, x.cell y b h⟩
      have := x.above y b (mem_of_lookup h)
      rw [eL] at this
      exact Nat.le_of_lt this
    have hnodup : ((params.zip args).map (·.1)).Nodup := by
      have : (params.zip args).map (·.1) = params := by rw [List.map_fst_zip]; omega
      rw [this]
      have := H.nodup; rw [H.N] at this
      exact (List.nodup_append.mp this).1
    have F : Fr T c s U (ps.map .val ++ List.replicate rest.length .dead) (env.locals :: (env.cells.filterMap (fun e => env.cells.lookup e.1) ++ U)) env s₁ := by
      have hnew : ∀ b ∈ env.cells.filterMap (fun e => env.cells.lookup e.1), s.heap.get? b = Option.none ∧ Live s₁ b := by
        intro b hb
        obtain ⟨⟨y, b'⟩, h1, h2⟩ := List.mem_filterMap.mp hb
        obtain ⟨h3, v, o, h4, _⟩ := hcellOf y b h2
        exact ⟨h3, o, h4⟩
      have hU : ∀ b o, s.heap.get? b = some o → b ∉ U → b ∉ env.locals :: (env.cells.filterMap (fun e => env.cells.lookup e.1) ++ U) := by
        intro b o h hn hm
        rcases List.mem_cons.mp hm with rfl | hm
        · rw [eL, get_size] at h; cases h
        rcases List.mem_append.mp hm with hm | hm
        · rw [(hnew b hm).1] at h; cases h
        · exact hn hm
      have hown : ∀ y ps', ¬ At c.N (ps.map .val ++ List.replicate rest.length .dead) y (.own ps') := fun y ps' h => by rw [H.N] at h; exact at_params_own hps h
      refine { rd := ⟨htop.trans e1.keep, ek, en, eg, eb, ?_, fun y qs h => absurd h (hown y qs), ?_, ?_, htok1⟩, base := htop, ext := e1, nodup := H.nodup, dbg := H.dbg, inU := ?_, old := fun b hb => ⟨.tail _ (List.mem_append_right _ hb), hused b hb⟩, locU := .head _, locN := by rw [eL]; exact get_size _, ns := ⟨_, x.toInCall.ns⟩, cel := ?_, kinds := ?_, apart := ?_, owned := fun y qs _ h => absurd h (hown y qs), owap := fun y _ qs _ _ h => absurd h (hown y qs) }
      · intro y p h
        refine ⟨H.dbg y h.mem, ?_⟩
        have hyN := h.mem
        rw [H.N] at h
        obtain ⟨i, h1, h2⟩ := at_params hps h
        obtain ⟨v, h3, h4⟩ := hr.get h2
        have hz : (y, v) ∈ params.zip args := by
          refine List.mem_iff_getElem?.mpr ⟨i, ?_⟩
          rw [List.getElem?_zip_eq_some]; exact ⟨h1, h3⟩
        refine ⟨v, ?_, (h4.set hU).ext e1⟩
        rcases H.kinds y hyN with k | k
        · exact .inl ⟨by rw [kof]; exact k, _, x.toInCall.ns, bindL_of hnodup hz (by rw [kof]; exact k)⟩
        · have hsome : (env.cells.lookup y).isSome = true := by rw [ec]; exact cells_have (.inl (by rw [← H.nm]; exact k))
          obtain ⟨b, hb⟩ := Option.isSome_iff_exists.mp hsome
          refine .inr ⟨by rw [kof]; exact k, b, hb, ?_⟩
          have := x.cell y b hb
          rw [bindC_of hnodup hz (by rw [kof, k]; simp)] at this
          exact this
      · intro y p h
        obtain ⟨h1, h2, v, h3, h4⟩ := H.glob y p h
        exact ⟨h1, v, ⟨by rw [kof]; exact h2, h3⟩, h4⟩
      · intro b hb
        rcases List.mem_cons.mp hb with rfl | hb
        · obtain ⟨o, _, _, h, _⟩ := x.toInCall.ns; exact ⟨o, h⟩
        rcases List.mem_append.mp hb with hb | hb
        · exact (hnew b hb).2
        · exact (hused b hb).ext e1
      · intro b hb
        rcases List.mem_cons.mp hb with rfl | hb
        · exact .inr (by rw [eL]; exact get_size _)
        rcases List.mem_append.mp hb with hb | hb
        · exact .inr (hnew b hb).1
        · exact .inl hb
      · intro y b h
        obtain ⟨h1, h2⟩ := hcellOf y b h
        exact ⟨.tail _ (List.mem_append_left _ (List.mem_filterMap.mpr ⟨(y, b), mem_of_lookup h, h⟩)), h1, h2⟩
      · intro y hy
        rcases H.kinds y hy with k | k
        · exact .inl (by rw [kof]; exact k)
        · refine .inr ⟨by rw [kof]; exact k, ?_⟩
          have hsome : (env.cells.lookup y).isSome = true := by rw [ec]; exact cells_have (.inl (by rw [← H.nm]; exact k))
          exact Option.isSome_iff_exists.mp hsome
      · intro y z b h1 h2
        exact name_of_addr x.apart (mem_of_lookup h1) (mem_of_lookup h2)
    subst hE
    refine wpAny_mono (hb _ _ s U _ s₁ O1.deeper F) (fun f s' h => ?_) fun _ _ e => e.elim
    obtain ⟨v, rfl, h5, h6⟩ := h
    exact ⟨h5, h6⟩
theorem Cal.of {d : DefRec} {c : Cx} {params rest : List Str} (H : FnCx T d c params rest) {ps : List V} {q : V} (hps : params.length = ps.length) (hd : c.d + 1 ≤ dd)
    (hb : Ex T c (ps.map .val ++ List.replicate rest.length .dead) d.body (.ret q)) : Cal T dd d.name ps q :=
  fun A U s a args O S hmg hr => Cal.run H hps hd hb O S.top S.used hmg hr (.inl S.tok)
end
section
open PySem PySem.W PyProof.Rows
open PySem.Builtin PySem.Builtin.Str
set_option Elab.async false
set_option linter.unusedVariables false
variable {T : TC} {c : Cx} {σ σ' : List Slot}
variable {s₀ s s' : Shared} {U₀ U : List Addr} {env : Env}

noncomputable def Ip2 (T : TC) (op : Operator) (p q r : V) : Prop :=
  ∀ A U s va vb, Ok 0 A → Su T U s → Rep T s U va p → Rep T s U vb q → wpAny (model T.prog T.w) A (inplaceOp op va vb) (fun v s' => Rep T s' U v r ∧ Ext s s') (fun _ _ => False) s
theorem Ip2.add {a b : Int} : Ip2 T .Add (.int a) (.int b) (.int (a + b)) := by
  intro A U s va vb O S x y
  obtain ⟨t, rfl⟩ := rep_int x; obtain ⟨u, rfl⟩ := rep_int y
  exact P.iadd_int ⟨Rep.int_, Ext.toks' s⟩
theorem Ip2.sub {a b : Int} : Ip2 T .Sub (.int a) (.int b) (.int (a - b)) := by
  intro A U s va vb O S x y
  obtain ⟨t, rfl⟩ := rep_int x; obtain ⟨u, rfl⟩ := rep_int y
  exact P.isub_int ⟨Rep.int_, Ext.toks' s⟩

theorem EvN.listrange {f p e pos a b d} {n : Nat} (hf : Ev T c σ (.Name f p) (.raw (.type "list"))) (h : Rn T c σ e a b d) (hsm : Builtin.Range.small a b d = true) (hn : Builtin.Range.rangeSize a b d = n) (hlen : n ≤ 1048576)
    (hs : ∀ env, backTo pos (starEach [e] env) = [(false, eval e env)] := by walk_at "r1") : EvN T c σ (.Call (.Name f p) [e] [] pos) ((List.range n).map fun (i : Nat) => .int (a + i * d)) := fun A env U s O R => by
  show wpAny _ A (do callWith pos (← eval (.Name f p) env) [] (backTo pos (starEach [e] env)) (backToKw pos (keywordEach [] env))) _ _ s
  refine wpAny_bind (wpB (hf A env U s O R) fun v s1 ⟨a1, e1⟩ => ?_)
  unfold Rep at a1
  subst a1
  rw [hs]
  refine PySem.callWith_type rfl (Calls.evalArgs_plain (Calls.spliced_cons (wpB (h A env U s1 O (R.ext e1)) fun v2 s2 ⟨a2, e2⟩ => Calls.spliced_nil ?_)))
  obtain ⟨r, t, u, w, rfl, hr, hfr⟩ := a2
  have e12 := e1.trans e2
  refine wpB (ext_of (P := fun v s' => NewL T s U ((List.range n).map fun (i : Nat) => V.int (a + i * d)) v s') (call_list_range O.handled hr hsm hn (by omega) fun h' tk acc' c' hk hS' hacc _ => ⟨?_, Ext0.of hk⟩)) fun v s' ⟨h1, h2⟩ => ⟨h1, e12.trans h2⟩
  refine ⟨_, acc', c', rfl, fresh_size e12, hS', by simpa using hlen, by simp [V.flat], ?_⟩
  obtain ⟨hsz, hit⟩ := hacc
  have key : ∀ (k : Nat) (l : List Value), l = acc'.toList.drop k → Reps T { s2 with heap := h', toks := tk } U l (((List.range n).drop k).map fun (i : Nat) => V.int (a + i * d)) := by
    intro k l
    induction l generalizing k with
    | nil =>
      intro hl
      have : n ≤ k := by
        have := congrArg List.length hl
        simp at this; omega
      rw [List.drop_eq_nil_of_le (by simpa using this)]
      exact Reps.nil
    | cons v l ih =>
      intro hl
      have hk : k < n := by
        have := congrArg List.length hl
        simp at this; omega
      have hv : acc'[k]? = some v := by
        have : (acc'.toList.drop k)[0]? = some v := by rw [← hl]; rfl
        simpa using this
      obtain ⟨t', rfl⟩ := hit k v hv
      rw [List.drop_eq_getElem_cons (by simpa using hk)]
      simp only [List.map_cons, List.getElem_range]
      refine Reps.cons Rep.int_ (ih (k + 1) ?_)
      have : l = (acc'.toList.drop k).drop 1 := by rw [← hl]; rfl
      rw [this, List.drop_drop]
  exact key 0 _ rfl

-- two names at once, exchanged stores
theorem Ex1.tuple2 {x y : Str} {px py : Pos} {k tp e1 e2 k' vp pos p q σ1 σ2} (h1 : Ev T c σ e1 p) (h2 : Ev T c σ e2 q) (hu1 : Upd c.N σ y (.val q) σ1) (hu2 : Upd c.N σ1 x (.val p) σ2)
    (hw : ∀ env, env.scope.kind = .function → env.scope.names = c.nm → swappedStores [Expr.Tuple [Expr.Name x px, Expr.Name y py] k tp] (Expr.Tuple [e1, e2] k' vp) env = pure (some [x, y]))
    (hb : ∀ env, backTo vp (starEach [e1, e2] env) = [e1, e2].map fun e => (false, eval e env) := by walk_at "r1") :
    Ex1 T c σ (.Assign [Expr.Tuple [Expr.Name x px, Expr.Name y py] k tp] (Expr.Tuple [e1, e2] k' vp) pos) (.next σ2) := fun A env s₀ U₀ U s O F => by
  rw [exec_Assign_arm]
  refine wpAny_bind (wpAny_standAt ?_)
  rw [show swapsWithSole [Expr.Tuple [Expr.Name x px, Expr.Name y py] k tp] (Expr.Tuple [e1, e2] k' vp) pos.line env = pure false from rfl]
  refine wpAny_bind (wpAny_pure ?_)
  rw [if_neg (by decide)]
  refine wpAny_bind (wpAny_Tuple (spl (hb env) (wpB (EvL.cons h1 (EvL.cons h2 EvL.nil) A env U s O F.rd) fun vs s1 ⟨a1, e1'⟩ => ?_)))
  obtain ⟨v, w, rfl, r1, r2⟩ := reps2 a1
  refine ⟨Nat.le_of_ble_eq_true rfl, ?_⟩
  rw [hw env F.rd.kind F.rd.names]
  refine wpAny_bind (wpAny_pure ?_)
  have E1 : Ext s1 { s1 with heap := s1.heap.push { cls := .type "tuple", data := .seq [v, w].toArray } } := Ext.push' s1 _
  show wpAny _ A (do rule "assign.swapped-stores"; let items ← unpackItems (.ref s1.heap.objs.size) [x, y].length Option.none; assignInOrder ([x, y].reverse.map fun n => bindName env n) items.reverse; pure Flow.next) _ _ _
  refine wpAny_bind (wpAny_rule (wpAny_bind (wpAny_unpackItems_tuple (items := [v, w].toArray) O.handled ⟨_, Heap.get?_push_size _ rfl, rfl, 0, rfl⟩ fun h' he' => ?_)))
  have E2 : Ext { s1 with heap := s1.heap.push { cls := .type "tuple", data := .seq [v, w].toArray } } { s1 with heap := h' } := Ext.of (s := { s1 with heap := s1.heap.push { cls := .type "tuple", data := .seq [v, w].toArray } }) (fun b o hb => he' b o (Nat.ne_of_lt (Heap.lt_size hb)) hb)
  have E := (e1'.trans E1).trans E2
  have E12 := E1.trans E2
  show wpAny _ A (do assignInOrder [bindName env y, bindName env x] [w, v]; pure Flow.next) _ _ _
  have F1 := F.of_ext E
  refine wpAny_bind ?_
  show wpAny _ A (do holding [v] (bindName env y w); assignInOrder [bindName env x] [v]) _ _ _
  refine wpAny_bind (wpAny_holding (wpAny_bindName (F1.store hu1 (fun s' k1 k2 _ k3 => ⟨w, k3, (r2.ext E12).but k2 k1⟩) fun s2 F2 ht hk _ => ?_)))
  show wpAny _ A (do holding [] (bindName env x v); assignInOrder [] []) _ _ _
  refine wpAny_bind (wpAny_holding (wpAny_bindName (F2.store hu2 (fun s' k1 k2 _ k3 => ⟨v, k3, ((r1.ext E12).but hk ht).but k2 k1⟩) fun s3 F3 ht3 hk3 _ => ?_)))
  exact wpAny_pure (wpAny_pure ⟨rfl, U, F3, (Step.ext E).trans ((⟨hk, fun _ h => .inl h, ht⟩ : Step U { s1 with heap := h' } U s2).trans ⟨hk3, fun _ h => .inl h, ht3⟩)⟩)
end
section
open PySem PySem.W PyProof.Rows
open PySem.Builtin PySem.Builtin.Str
set_option Elab.async false
set_option linter.unusedVariables false
variable {T : TC} {c : Cx} {σ σ' : List Slot}
theorem bits_small {b : Int} (h : -1000000000000 ≤ b ∧ b ≤ 1000000000000) : Builtin.Int.intBits b ≤ 64 := by
  unfold Builtin.Int.intBits
  split
  · omega
  · have hb : b.natAbs < 2 ^ 60 := by have : (2:Nat)^60 = 1152921504606846976 := rfl; omega
    by_cases h0 : b.natAbs = 0
    · rw [h0]; decide
    · have := (Nat.log2_lt h0).mpr hb
      omega
theorem Op2.mulr {a b : Int} (h : -1000000000000 ≤ b ∧ b ≤ 1000000000000) : Op2 T .Mult (.int a) (.int b) (.int (a * b)) := Op2.mul (.of_right (bits_small h))
theorem Op2.mod' {a b : Int} (h : 0 < b) : Op2 T .Mod (.int a) (.int b) (.int (a % b)) := by
  have := Op2.mod (T := T) (a := a) (b := b) (by omega)
  rwa [Int.fmod_eq_emod_of_nonneg _ (by omega)] at this
theorem Op2.div' {a b : Int} (h : 0 < b) (h2 : b ≤ 1000000000) : Op2 T .FloorDiv (.int a) (.int b) (.int (a / b)) := by
  have := Op2.div (T := T) (a := a) (b := b) (by omega) (PyProof.noPylong_small (by omega))
  rwa [Int.fdiv_eq_ediv_of_nonneg _ (by omega)] at this
end
section
open PySem PySem.W PyProof.Rows
set_option Elab.async false
set_option linter.unusedVariables false
variable {T : TC} {c : Cx} {σ σ' : List Slot}
theorem Ex.for_ {x px iter body pos qs rest o} (L : Nat → List Slot) (B : Nat → Option V) (hit : It T c σ iter qs) (h0 : Weak σ (L 0))
    (hbody : ∀ i q, qs[i]? = some q → (∀ j < i, B j = none) → ∃ σi, Upd c.N (L i) x (.val q) σi ∧ Ex T c σi body (outOf (L (i + 1)) (B i)))
    (hn : firstB B qs.length = none → Ex T c (L qs.length) rest o) (hr : ∀ p, firstB B qs.length = some p → o = .ret p)
    (hs : ∀ env x, foldedSetIterable iter env x = pure x := by walk_at "r1") : Ex T c σ (.For (.Name x px) iter body [] pos :: rest) o := by
  have h := Ex1.for_ (pos := pos) (px := px) L B hit h0 hbody hs
  cases hB : firstB B qs.length with
  | none => rw [hB] at h; exact Ex.cons h (hn hB)
  | some p => rw [hB] at h; rw [hr p hB]; exact Ex.ret h
theorem Ex.forAll {x px iter body pos qs rest o} (L : Nat → List Slot) (hit : It T c σ iter qs) (h0 : Weak σ (L 0))
    (hbody : ∀ i q, qs[i]? = some q → ∃ σi, Upd c.N (L i) x (.val q) σi ∧ Ex T c σi body (.next (L (i + 1))))
    (hn : Ex T c (L qs.length) rest o)
    (hs : ∀ env x, foldedSetIterable iter env x = pure x := by walk_at "r1") : Ex T c σ (.For (.Name x px) iter body [] pos :: rest) o :=
  Ex.cons (Ex1.forAll L hit h0 hbody hs) hn
end
section
set_option Elab.async false
set_option linter.unusedVariables false
-- the plain distance
noncomputable def cpl : List Nat → List Nat → Nat
  | x :: xs, y :: ys => if x = y then cpl xs ys + 1 else 0
  | _, _ => 0
noncomputable def mn2 (a b : Int) : Int := if b < a then b else a
noncomputable def inS (sub : Nat → Int) (row0 : List Int) (base : Int) : Nat → Int × Int × Int × List Int
  | 0 => (base, base, 9223372036854775807, row0)
  | i + 1 =>
    let q := inS sub row0 base i
    let d := q.2.2.2.getD i 0
    let r := mn2 (mn2 q.2.1 d + 2) (q.1 + sub i)
    (d, r, (if r < q.2.2.1 then r else q.2.2.1), q.2.2.2.set i r)
noncomputable def outS (sub : Nat → Nat → Int) (n : Nat) : Nat → Int × List Int
  | 0 => (0, (List.range n).map fun i => ((2 + i * 2 : Nat) : Int))
  | j + 1 =>
    let q := inS (sub j) (outS sub n j).2 (j * 2) n
    (q.2.1, q.2.2.2)
noncomputable def minS (sub : Nat → Nat → Int) (n : Nat) (j : Nat) : Int := (inS (sub j) (outS sub n j).2 (j * 2) n).2.2.1
-- the first row whose least is over the bound
noncomputable def overS (sub : Nat → Nat → Int) (n : Nat) (mx : Int) (m : Nat) : Bool := (List.range m).any fun j => decide (mx < minS sub n j)
noncomputable def gridP (sub : Nat → Nat → Int) (n m : Nat) (mx : Int) : Int := if overS sub n mx m then mx + 1 else (outS sub n m).1
noncomputable def pairP (sub : Nat → Nat → Int) (a b : List Nat) (mx : Int) : Int :=
  if ((b.length : Int) - a.length) * 2 > mx then mx + 1 else gridP (fun j i => sub (b.getD j 0) (a.getD i 0)) a.length b.length mx
noncomputable def coreP (sub : Nat → Nat → Int) (a b : List Nat) (mx : Int) : Int :=
  if a = [] ∨ b = [] then 2 * ((a.length : Int) + b.length)
  else if a.length > 40 ∨ b.length > 40 then mx + 1
  else if b.length < a.length then pairP sub b a mx else pairP sub a b mx
noncomputable def levP (sub : Nat → Nat → Int) (a b : List Nat) (mx : Int) : Int :=
  if a = b then 0 else
  let k := cpl a b
  let a1 := a.drop k
  let b1 := b.drop k
  let l := cpl a1.reverse b1.reverse
  coreP sub (a1.take (a1.length - l)) (b1.take (b1.length - l)) mx

theorem cpl_le : ∀ a b : List Nat, cpl a b ≤ a.length ∧ cpl a b ≤ b.length
  | x :: xs, y :: ys => by
    have := cpl_le xs ys
    unfold cpl
    split <;> simp <;> omega
  | [], _ => by simp [cpl]
  | _ :: _, [] => by simp [cpl]
theorem cpl_same : ∀ (a b : List Nat) (i : Nat), i < cpl a b → ∃ x, a[i]? = some x ∧ b[i]? = some x
  | x :: xs, y :: ys, i, h => by
    unfold cpl at h
    split at h
    · rename_i e
      subst e
      cases i with
      | zero => exact ⟨x, rfl, rfl⟩
      | succ i =>
        obtain ⟨z, h1, h2⟩ := cpl_same xs ys i (by omega)
        exact ⟨z, by simpa using h1, by simpa using h2⟩
    · omega
  | [], _, i, h => by simp [cpl] at h
  | _ :: _, [], i, h => by simp [cpl] at h
theorem cpl_end : ∀ (a b : List Nat), a.drop (cpl a b) = [] ∨ b.drop (cpl a b) = [] ∨ ∃ x y, a[cpl a b]? = some x ∧ b[cpl a b]? = some y ∧ x ≠ y
  | x :: xs, y :: ys => by
    unfold cpl
    split
    · rename_i e
      rcases cpl_end xs ys with h | h | ⟨u, v, h1, h2, h3⟩
      · exact .inl (by simpa using h)
      · exact .inr (.inl (by simpa using h))
      · exact .inr (.inr ⟨u, v, by simpa using h1, by simpa using h2, h3⟩)
    · rename_i e
      exact .inr (.inr ⟨x, y, rfl, rfl, e⟩)
  | [], _ => .inl (by simp [cpl])
  | _ :: _, [] => .inr (.inl (by simp [cpl]))
theorem inS_len (sub : Nat → Int) (row0 : List Int) (base : Int) : ∀ i, (inS sub row0 base i).2.2.2.length = row0.length
  | 0 => rfl
  | i + 1 => by
    show (List.set _ _ _).length = _
    rw [List.length_set, inS_len sub row0 base i]
theorem outS_len (sub : Nat → Nat → Int) (n : Nat) : ∀ j, (outS sub n j).2.length = n
  | 0 => by simp [outS]
  | j + 1 => by
    show (inS _ _ _ _).2.2.2.length = _
    rw [inS_len, outS_len sub n j]
end
section
open PySem PySem.W PyProof.Rows
set_option Elab.async false
set_option linter.unusedVariables false
-- the plain match
noncomputable def posP (got : List Nat) (hi : Int) (ws : List (List Nat)) (s0 : Int) : Nat → Int
  | 0 => s0
  | k + 1 => findI got (ws.getD k []) (posP got hi ws s0 k) hi + (ws.getD k []).length
noncomputable def allP (got : List Nat) (hi : Int) (ws : List (List Nat)) (s0 : Int) : Bool :=
  (List.range ws.length).all fun k => decide (0 ≤ findI got (ws.getD k []) (posP got hi ws s0 k) hi)
noncomputable def scanP (got : List Nat) (hi : Int) : List (List Nat) → Int → Bool
  | [], _ => true
  | w :: ws, s => let r := findI got w s hi; if r < 0 then false else scanP got hi ws (r + w.length)
theorem posP_cons (got : List Nat) (hi : Int) (w : List Nat) (ws : List (List Nat)) (s : Int) : ∀ k, posP got hi (w :: ws) s (k + 1) = posP got hi ws (findI got w s hi + w.length) k
  | 0 => rfl
  | k + 1 => by
    show findI got ((w :: ws).getD (k + 1) []) (posP got hi (w :: ws) s (k + 1)) hi + _ = _
    rw [posP_cons got hi w ws s k]
    rfl
theorem allP_scan (got : List Nat) (hi : Int) : ∀ (ws : List (List Nat)) (s : Int), allP got hi ws s = scanP got hi ws s
  | [], s => rfl
  | w :: ws, s => by
    have ih := allP_scan got hi ws (findI got w s hi + w.length)
    unfold allP at ih ⊢
    rw [List.length_cons, List.range_succ_eq_map, List.all_cons, List.all_map]
    have : ((fun k => decide (0 ≤ findI got ((w :: ws).getD k []) (posP got hi (w :: ws) s k) hi)) ∘ Nat.succ) = fun k => decide (0 ≤ findI got (ws.getD k []) (posP got hi ws (findI got w s hi + w.length) k) hi) := by
      funext k
      show decide (0 ≤ findI got ((w :: ws).getD (k + 1) []) (posP got hi (w :: ws) s (k + 1)) hi) = _
      rw [posP_cons]; rfl
    rw [this, ih]
    show (decide (0 ≤ findI got w s hi) && _) = (if findI got w s hi < 0 then false else scanP got hi ws (findI got w s hi + w.length))
    by_cases h : findI got w s hi < 0
    · rw [if_pos h, decide_eq_false (by omega)]; rfl
    · rw [if_neg h, decide_eq_true (by omega)]; rfl
noncomputable def tailP (got : List Nat) (ws : List (List Nat)) (s e : Int) : Bool := if s > e then false else scanP got e ws s
noncomputable def lastP (got : List Nat) (ws : List (List Nat)) (s : Int) : Bool :=
  let w := ws.getLastD []
  if w = [] then tailP got ws s got.length
  else if w.isSuffixOf got then tailP got ws.dropLast s ((got.length : Int) - w.length) else false
noncomputable def emP (ps : List (List Nat)) (got : List Nat) : Bool :=
  match ps with
  | [] => true
  | [p] => p == got
  | w :: q :: r =>
    if w = [] then lastP got (w :: q :: r) 0
    else if w.isPrefixOf got then lastP got (q :: r) w.length else false
end
section
open PySem PySem.W PyProof.Rows
open PySem.Builtin PySem.Builtin.Str
set_option Elab.async false
set_option linter.unusedVariables false
variable {T : TC} {c : Cx} {σ : List Slot}

-- dict displays of strs
noncomputable def DR : List (Value × Value) → List (List Nat × List Nat) → Prop
  | [], [] => True
  | (k, v) :: r, (a, b) :: q => (∃ t, k = .str (S a) t) ∧ (∃ t, v = .str (S b) t ∧ b.length ≤ 1048576) ∧ DR r q
  | _, _ => False
theorem DR.carries : ∀ {r : List (Value × Value)} {q : List (List Nat × List Nat)}, DR r q → ∃ kv : List (Str × Value), Carries (strKind T.prog T.w) r kv ∧ kv.map (·.1) = q.map (fun e => S e.1) ∧ kv.length = q.length ∧
    (∀ (i : Nat) (k : Str) (x : Value), kv[i]? = some (k, x) → ∃ t y, x = Value.str (S y) t ∧ y.length ≤ 1048576 ∧ q[i]? = some (k.cps.toList, y))
  | [], [], _ => ⟨[], trivial, rfl, rfl, by intro i k x h; simp at h⟩
  | (k, v) :: r, (a, b) :: q, h => by
    obtain ⟨⟨t, rfl⟩, ⟨u, rfl, hb⟩, h⟩ := h
    obtain ⟨kv, h1, h2, h3, h4⟩ := DR.carries h
    refine ⟨(S a, .str (S b) u) :: kv, ⟨strKind_is _ _ _ _, rfl, h1⟩, by simp [h2], by simp [h3], ?_⟩
    intro i k x hx
    cases i with
    | zero =>
      simp only [List.getElem?_cons_zero, Option.some.injEq, Prod.mk.injEq] at hx
      obtain ⟨rfl, rfl⟩ := hx
      exact ⟨u, b, rfl, hb, by simp [S_cps]⟩
    | succ i =>
      simp only [List.getElem?_cons_succ] at hx
      obtain ⟨t', y, e1, e2, e3⟩ := h4 i k x hx
      exact ⟨t', y, e1, e2, by simpa using e3⟩
  | [], _ :: _, h => h.elim
  | _ :: _, [], h => h.elim

noncomputable def EvD (T : TC) (c : Cx) (σ : List Slot) (ks : List (Option Expr)) (vs : List Expr) (q : List (List Nat × List Nat)) : Prop :=
  ∀ A env U s pos, Ok c.d A → Rd T c σ U env s → wpAny (model T.prog T.w) A (evalPairs (pairTrees ks vs env pos)) (fun r s' => DR r q ∧ Ext s s') (fun _ _ => False) s
theorem EvD.nil : EvD T c σ [] [] [] := fun _ _ _ s _ _ _ => pairTrees_nil_walk ⟨trivial, Ext.refl s⟩
theorem EvD.cons {k v ks vs a b q} (h1 : Ev T c σ k (.str a)) (h2 : Ev T c σ v (.str b)) (h3 : EvD T c σ ks vs q) : EvD T c σ (some k :: ks) (v :: vs) ((a, b) :: q) := fun A env U s pos O R =>
  pairTrees_cons_walk (wpB (h1 A env U s O R) fun kv s1 ⟨a1, e1⟩ => wpB (h2 A env U s1 O (R.ext e1)) fun vv s2 ⟨a2, e2⟩ => wpB (h3 A env U s2 pos O ((R.ext e1).ext e2)) fun r s3 ⟨a3, e3⟩ => by
    obtain ⟨t, rfl, _⟩ := rep_str a1
    obtain ⟨u, rfl, hb⟩ := rep_str a2
    exact ⟨⟨⟨t, rfl⟩, ⟨u, rfl, hb⟩, a3⟩, (e1.trans e2).trans e3⟩)
theorem low_of {s : Shared} {U : List Addr} (S' : Su T U s) : sysModules < s.heap.objs.size := by
  exact modules_low (T.top.nolimit.keeps S'.top)
theorem nodup_S {q : List (List Nat × List Nat)} (h : (q.map (·.1)).Nodup) : (q.map fun e => S e.1).Nodup := by
  have : (q.map fun e => S e.1) = (q.map (·.1)).map S := by rw [List.map_map]; rfl
  rw [this]
  exact List.Pairwise.map _ (fun a b hab e => hab (S_inj e)) h
theorem Ev.dict {ks vs pos q} (h : EvD T c σ ks vs q) (hn : (q.map (·.1)).Nodup) (hall : ks.all (·.isSome) = true := by rfl) (hl : ks.length = vs.length := by rfl) (h0 : ks ≠ [] := by walk_at "r1") (hlen : ks.length ≤ 15 := by decide) : Ev T c σ (.Dict ks vs pos) (.dict q) := fun A env U s O R => by
  have e0 : Ext s { s with heap := s.heap.push { cls := .type "dict", data := .dict #[] } } := Ext.push' s _
  refine wpAny_Dict_walk (knd := strKind T.prog T.w) hall hl h0 hlen (wpB (h A env U _ pos O (R.ext e0)) fun r s1 ⟨a1, e1⟩ => ?_)
  obtain ⟨kv, h1, h2, h3, h4⟩ := DR.carries (T := T) a1
  refine ⟨kv, h1, (Heap.DictOf.new s.heap).keep e1.keep, fun h' hm hs => ?_⟩
  rw [merged_nil_of_nodup kv (by rw [h2]; exact nodup_S hn)] at hm
  obtain ⟨ep, hm⟩ := hm.dictAt
  refine ⟨?_, ?_⟩
  · unfold Rep
    refine ⟨_, kv, ep, rfl, new_not R.used (get_size _), ?_, hm, h3, h4⟩
    have := low_of R.su
    exact beq_false_of_ne (Nat.ne_of_gt this)
  · have e2 : Ext { s with heap := s.heap.push { cls := .type "dict", data := .dict #[] } } s1 := e1
    refine ⟨fun b o hb => ?_, e1.gens, e1.os, Nat.le_trans e1.toks (Nat.le_add_right _ _)⟩
    rw [hs.2 b (by rintro rfl; rw [get_size] at hb; cases hb)]
    exact e1.keep _ _ (e0.keep _ _ hb)

-- an item of a dict
theorem valueAt_of : ∀ {kv : List (Str × Value)} {q : List (List Nat × List Nat)} {k y : List Nat}, kv.length = q.length →
    (∀ (i : Nat) (k : Str) (x : Value), kv[i]? = some (k, x) → ∃ t y, x = Value.str (S y) t ∧ y.length ≤ 1048576 ∧ q[i]? = some (k.cps.toList, y)) → q.lookup k = some y → ∃ t, valueAt kv (S k) = some (.str (S y) t) ∧ y.length ≤ 1048576
  | [], [], k, y, _, _, h => by cases h
  | (a, x) :: kv, (b, z) :: q, k, y, hl, hi, h => by
    obtain ⟨t, y', rfl, hy, e⟩ := hi 0 a x rfl
    simp only [List.getElem?_cons_zero, Option.some.injEq, Prod.mk.injEq] at e
    obtain ⟨rfl, rfl⟩ := e
    rw [List.lookup_cons] at h
    unfold valueAt
    rw [List.find?_cons]
    by_cases hk : k = a.cps.toList
    · subst hk
      rw [beq_self_eq_true] at h
      cases h
      refine ⟨t, ?_, hy⟩
      have : a = S a.cps.toList := (S_of a).symm
      simp [S_of]
    · have h1 : (k == a.cps.toList) = false := beq_false_of_ne hk
      rw [h1] at h
      have hne : ¬ a = S k := by intro e; apply hk; rw [e, S_cps]
      simp only [hne, decide_false]
      exact valueAt_of (by simpa using hl) (fun i k x hx => by
        obtain ⟨t, y, e1, e2, e3⟩ := hi (i + 1) k x (by simpa using hx)
        exact ⟨t, y, e1, e2, by simpa using e3⟩) h
  | [], _ :: _, k, y, hl, _, _ => by simp at hl
  | _ :: _, [], k, y, hl, _, _ => by simp at hl
theorem Sb.dict {q : List (List Nat × List Nat)} {k y : List Nat} (h : q.lookup k = some y) : Sb T (.dict q) (.str k) (.str y) := by
  intro A U s vo vi O S' a b
  obtain ⟨u, rfl, _⟩ := rep_str b
  unfold Rep at a
  obtain ⟨d, kv, n, rfl, _, _, hd, hl, hi⟩ := a
  obtain ⟨t, h1, h2⟩ := valueAt_of hl hi h
  exact ⟨"dict", _, slot_dict_getitem.lookup, hd.dictOf.typeIs, wpAny_getItem_of (strKind_is _ _ _ _) hd.dictOf.mapOf h1 ⟨Rep.str_ h2, Ext.toks' s⟩⟩

-- two equal dicts
-- index
theorem Mth.index {x y : List Nat} {i : Nat} (h : findP x y 0 x.length = some i) : Mth T "index" (.str x) [.str y] (.int i) := by
  refine ⟨"str", _, F.plainAttrs_str, F.slot_str_index, F.type_str_index, Mty.str, ?_⟩
  intro A U s vs O S' hr
  obtain ⟨v, w, rfl, h1, h2⟩ := reps2 hr
  obtain ⟨t, rfl, _⟩ := rep_str h1; obtain ⟨u, rfl, _⟩ := rep_str h2
  have ho := occ_find x y 0 x.length
  rw [h] at ho
  cases hoc : occurrences (S x) (S y) 0 x.length 1 with
  | nil => rw [hoc] at ho; simp at ho
  | cons k r =>
    rw [hoc] at ho
    have hk : k = i := by have h9 : (k : Int) = i := ho; omega
    subst hk
    exact call_gives F.slot_str_index (typeIs_str _ _ _) F.entry_str_index (F.args_str_index_2 _ _) (gives_str_index (S x) (S y) t u k r (by rw [S_len]; exact hoc)) ⟨Rep.int_, Ext.toks' s⟩
end
section
open PySem PySem.W PyProof.Rows
open PySem.Builtin PySem.Builtin.Str
set_option Elab.async false
set_option linter.unusedVariables false
variable {T : TC} {c : Cx} {σ : List Slot}

-- what lies about an item's reading of a slice
theorem slice_item9 {A : Around} {E : Value → Shared → Prop} {s : Shared} {value : Expr} {lo hi st : Option Expr} {p : Pos} {o i : Value} {Q : Value → Shared → Prop}
    (hs : ∃ ops, subscripted (.Slice lo hi st p) false o i = operate ops (getItem o i)) (h : ItemOn (model T.prog T.w) A E o i Q s) : wpAny (model T.prog T.w) A (subscriptTail value (.Slice lo hi st p) o i) Q E s := by
  obtain ⟨Ty, id, hl, hT, h⟩ := h
  obtain ⟨ops, hs⟩ := hs
  unfold subscriptTail
  refine wpAny_bind ?_
  rw [getitemInPython_of_ne hT.not_modules]
  refine wpAny_bind (wpAny_specialOf hT hl ?_)
  have fin : wpAny (model T.prog T.w) A (subscripted (.Slice lo hi st p) false o i) (fun r s₃ => wpAny (model T.prog T.w) A (letTemporaryGo value o r >>= fun _ => pure r) Q E s₃) E s := by
    rw [hs]
    exact wpAny_operating (wpAny_mono h (fun r s₃ h₃ => wpAny_bind (wpAny_letTemporaryGo (wpAny_pure h₃))) fun _ _ x => x)
  first
    | exact wpAny_pure (wpAny_bind fin)
    | exact wpAny_bind (wpAny_pure (wpAny_bind fin))
    | exact wpAny_bind fin
-- a list slice with a step
theorem Ev.listslice3 {value lo hi st p pos ps l u} {k : Int} (h1 : EvO T c σ value ps) (hl : Part T c σ lo l) (hu : Part T c σ hi u) (hst : Ev T c σ st (.int k)) (hk : k ≠ 0)
    (hs : ∀ o i, ∃ ops, subscripted (.Slice lo hi (some st) p) false o i = operate ops (getItem o i) := by intro _ _; exact ⟨_, rfl⟩) : Ev T c σ (.Subscript value (.Slice lo hi (some st) p) pos) (.list (pickV ps l u (some k))) := fun A env U s O R => by
  refine Subscript_ (wpB (h1 A env U s O R) fun v s1 ⟨a1, e1⟩ => wpAny_Slice (wpB (hl.run' O (R.ext e1)) fun vl s2 ⟨a2, e2⟩ => wpB (hu.run' O ((R.ext e1).ext e2)) fun vu s3 ⟨a3, e3⟩ =>
    wpB ((Part.int hst).run' O (((R.ext e1).ext e2).ext e3)) fun vk s4 ⟨a4, e4⟩ => ?_))
  refine slice_item9 (hs _ _) ?_
  obtain ⟨a, it, n, rfl, hl1, hL, hr⟩ := a1
  have e14 := ((e1.trans e2).trans e3).trans e4
  have hsz : it.size = ps.length := by rw [← hr.length]; simp
  have hl4 := ((e2.trans e3).trans e4).keep _ _ hl1
  have hl4' : s4.heap.IsList a it := IsL.isList (n := n) hl4
  have h24 : (2:Nat)^24 = sizeLine := rfl
  refine ⟨"list", _, slot_list_getitem.lookup, (hl4'.push _).typeIs, wpAny_getItem_list_slice (hl4'.push _) (Heap.IsSliceOf.new ..) a2 a3 a4 (by simpa using hk) ?_ (by omega)⟩
  rw [Heap.size_push]
  have E3 : Ext s4 { s4 with heap := (s4.heap.push { cls := .type "slice", data := .fields #[vl, vu, vk] }).push { cls := .type "list", data := .seq (slicePick it l u (some k)) } } :=
    (Ext.push' s4 _).trans (Ext.push' _ _)
  obtain ⟨k1, k2⟩ := pick_size hr l u (some k)
  refine ⟨?_, e14.trans E3⟩
  unfold Rep
  refine ⟨_, slicePick it l u (some k), 0, rfl, ?_, ?_, by omega, ?_⟩
  · intro hm
    have h1 := (R.ext e14).used _ hm
    have : s4.heap.get? (s4.heap.objs.size + 1) = Option.none := get_ge (Nat.le_succ _)
    obtain ⟨o, ho⟩ := h1
    rw [this] at ho; cases ho
  · have := Heap.get?_push_size (s4.heap.push { cls := .type "slice", data := .fields #[vl, vu, vk] }) (o := ({ cls := .type "list", data := .seq (slicePick it l u (some k)) } : Obj)) rfl
    rw [Heap.size_push] at this
    exact this
  · exact k1.ext (((e2.trans e3).trans e4).trans E3)

noncomputable def pickI (ns : List Int) (lo hi st : Option Int) : List Int :=
  (sliceRange (sliceBounds lo hi st ns.length).1 (sliceBounds lo hi st ns.length).2.1 (sliceBounds lo hi st ns.length).2.2).filterMap fun i => ns[i]?
theorem pickV_int (ns : List Int) (lo hi st : Option Int) : pickV (ns.map .int) lo hi st = (pickI ns lo hi st).map .int := by
  unfold pickV pickI
  rw [List.length_map, List.map_filterMap]
  congr 1
  funext i
  rw [List.getElem?_map]
end
section
open PySem PySem.W PyProof.Rows
open PySem.Builtin PySem.Builtin.Str
set_option Elab.async false
set_option linter.unusedVariables false
variable {T : TC} {c : Cx} {σ : List Slot}

theorem range_small {a n : Nat} (h : n ≤ 1048576) (ha : a ≤ n) : Builtin.Range.small (a : Int) (n : Int) 1 = true ∧ Builtin.Range.rangeSize (a : Int) (n : Int) 1 = (n - a : Nat) := by
  have hs : Builtin.Range.rangeSize (a : Int) (n : Int) 1 = (n - a : Nat) := by
    unfold Builtin.Range.rangeSize
    rw [if_pos (by decide)]
    split <;> omega
  refine ⟨?_, hs⟩
  unfold Builtin.Range.small
  rw [hs]
  unfold Builtin.Range.rangeFitsLong
  simp
  omega
theorem It.range1 {f p e pos} {n : Nat} (hf : Ev T c σ (.Name f p) (.raw (.type "range"))) (ha : Ev T c σ e (.int n)) (hn : n ≤ 1048576)
    (hs : ∀ env, backTo pos (starEach [e] env) = [e].map fun e => (false, eval e env) := by walk_at "r1") : It T c σ (.Call (.Name f p) [e] [] pos) ((List.range n).map fun (i : Nat) => .int (i : Int)) := by
  obtain ⟨h1, h2⟩ := range_small (a := 0) hn (Nat.zero_le _)
  have := It.range (n := n) (Rn.one (pos := pos) hf ha hs) h1 h2
  have e : ((List.range n).map fun (i : Nat) => V.int (0 + (i : Int) * 1)) = ((List.range n).map fun (i : Nat) => V.int (i : Int)) := by
    exact List.map_congr_left fun i _ => congrArg V.int (by omega)
  rw [e] at this
  exact this
theorem rng_at {n i : Nat} {q : V} {f : Nat → V} (h : ((List.range n).map f)[i]? = some q) : q = f i ∧ i < n := by
  rw [List.getElem?_map] at h
  rcases Nat.lt_or_ge i n with h' | h'
  · rw [List.getElem?_range h'] at h; cases h; exact ⟨rfl, h'⟩
  · rw [List.getElem?_eq_none (by simpa using h')] at h; cases h

@[reducible] noncomputable def cIn (c : Cx) (scope : Scope) (x : Str) (caps : List Str) (G' : List (Str × V)) : Cx := ⟨c.d, relabelN scope.names c.nm, x :: caps, G'⟩
theorem CompCx.of {scope x caps cs G'} (hok : compOkB c.nm scope x caps = true) (hcap : CapL c.N σ caps cs) (hG : CapG T (fun y => scope.names.lookup y == some .globalImplicit) c.G G') : CompCx T c σ scope x (cIn c scope x caps G') caps cs :=
  ⟨CompOk.of hok, hcap, rfl, rfl, rfl, hG⟩
-- over a list, all kept
theorem Ev.compL {elt iter : Expr} {x : Str} {px : Pos} {scope : Scope} {pos : Pos} {caps cs G'} {qs : List V} {rs : List V} (hit : It T c σ iter qs)
    (hok : compOkB c.nm scope x caps = true) (hcap : CapL c.N σ caps cs) (hG : CapG T (fun y => scope.names.lookup y == some .globalImplicit) c.G G')
    (hl : rs.length = qs.length) (helt : ∀ (i : Nat) (q r : V), qs[i]? = some q → rs[i]? = some r → Ev T (cIn c scope x caps G') (.val q :: cs) elt r)
    (hsz : qs.length ≤ 1048576) (hs : ∀ env x, foldedSetIterable iter env x = pure x := by walk_at "r1") :
    Ev T c σ (.ListComp elt [⟨.Name x px, iter, [], 0⟩] scope pos) (.list rs) := by
  have h := Ev.comp (px := px) (pos := pos) (t := fun _ => true) (f := fun i => rs.getD i .none) (CompCx.of hok hcap hG) hit (fun _ _ _ => TrIf.nil) (fun i q hq _ => helt i q _ hq (by
    have hi : i < rs.length := by
      rw [hl]
      rcases Nat.lt_or_ge i qs.length with h | h
      · exact h
      · rw [List.getElem?_eq_none h] at hq; cases hq
    simp [hi])) hsz hs
  refine Ev.cast h ?_
  congr 1
  rw [compR_map, ← hl]
  apply List.ext_getElem
  · simp
  · intro i h1 h2
    simp at h1
    simp [h1]
-- over a list, some kept
theorem Ev.compF {elt iter : Expr} {x : Str} {px : Pos} {ifs : List Expr} {scope : Scope} {pos : Pos} {caps cs G'} {α : Type} {xs : List α} {w f : α → V} {t : α → Bool} (hit : It T c σ iter (xs.map w))
    (hok : compOkB c.nm scope x caps = true) (hcap : CapL c.N σ caps cs) (hG : CapG T (fun y => scope.names.lookup y == some .globalImplicit) c.G G')
    (htest : ∀ a ∈ xs, TrIf T (cIn c scope x caps G') (.val (w a) :: cs) ifs (t a)) (helt : ∀ a ∈ xs, t a = true → Ev T (cIn c scope x caps G') (.val (w a) :: cs) elt (f a))
    (hsz : xs.length ≤ 1048576) (hs : ∀ env x, foldedSetIterable iter env x = pure x := by walk_at "r1") :
    Ev T c σ (.ListComp elt [⟨.Name x px, iter, ifs, 0⟩] scope pos) (.list ((xs.filter t).map f)) := by
  cases xs with
  | nil =>
    have h := Ev.comp (px := px) (pos := pos) (ifs := ifs) (elt := elt) (t := fun _ => true) (f := fun i => V.none) (CompCx.of hok hcap hG) hit (fun i q hq => by simp at hq) (fun i q hq _ => by simp at hq) (by simp) hs
    exact h
  | cons a₀ xs =>
    generalize hys : a₀ :: xs = ys at *
    have get : ∀ (i : Nat) (q : V), (ys.map w)[i]? = some q → q = w (ys.getD i a₀) ∧ ys.getD i a₀ ∈ ys := by
      intro i q hq
      rw [List.getElem?_map] at hq
      cases hy : ys[i]? with
      | none => rw [hy] at hq; cases hq
      | some a =>
        rw [hy] at hq
        cases hq
        have : ys.getD i a₀ = a := by rw [List.getD_eq_getElem?_getD, hy]; rfl
        rw [this]
        exact ⟨rfl, List.mem_of_getElem? hy⟩
    have h := Ev.comp (px := px) (pos := pos) (ifs := ifs) (elt := elt) (t := fun i => t (ys.getD i a₀)) (f := fun i => f (ys.getD i a₀)) (CompCx.of hok hcap hG) hit
      (fun i q hq => by obtain ⟨h1, h2⟩ := get i q hq; rw [h1]; exact htest _ h2) (fun i q hq ht => by obtain ⟨h1, h2⟩ := get i q hq; rw [h1]; exact helt _ h2 ht) (by simpa using hsz) hs
    rw [List.length_map, compR_list ys t f a₀] at h
    exact h
theorem Ex1.compL {elt iter : Expr} {x y : Str} {px py : Pos} {scope : Scope} {pos spos : Pos} {caps cs G'} {qs : List V} {rs : List V} {σ1} (hit : It T c σ iter qs)
    (hok : compOkB c.nm scope x caps = true) (hcap : CapL c.N σ caps cs) (hG : CapG T (fun y => scope.names.lookup y == some .globalImplicit) c.G G')
    (hl : rs.length = qs.length) (helt : ∀ (i : Nat) (q r : V), qs[i]? = some q → rs[i]? = some r → Ev T (cIn c scope x caps G') (.val q :: cs) elt r)
    (hsz : qs.length ≤ 1048576) (hu : Upd c.N σ y (.val (.list rs)) σ1) (hs : ∀ env x, foldedSetIterable iter env x = pure x := by walk_at "r1") :
    Ex1 T c σ (.Assign [.Name y py] (.ListComp elt [⟨.Name x px, iter, [], 0⟩] scope pos) spos) (.next σ1) := by
  have e : rs = compR qs.length (fun _ => true) (fun i => rs.getD i .none) := by
    rw [compR_map, ← hl]
    apply List.ext_getElem
    · simp
    · intro i h1 h2
      simp [h1]
  rw [e] at hu
  exact Ex1.assign_comp (px := px) (pos := pos) (t := fun _ => true) (f := fun i => rs.getD i .none) (CompCx.of hok hcap hG) hit (fun _ _ _ => TrIf.nil) (fun i q hq _ => helt i q _ hq (by
    have hi : i < rs.length := by
      rw [hl]
      rcases Nat.lt_or_ge i qs.length with h | h
      · exact h
      · rw [List.getElem?_eq_none h] at hq; cases hq
    simp [hi])) hsz hu hs
-- list slices from, to
end
section
open PySem PySem.W PyProof.Rows
set_option Elab.async false
-- a name's place, by short steps
section
variable {x a b c d : Str} {s p q r t s' : Slot} {xs : List Str} {ss ss' : List Slot}
theorem At.h1 : At (a :: x :: xs) (p :: s :: ss) x s := .there .here
theorem At.h2 : At (a :: b :: x :: xs) (p :: q :: s :: ss) x s := .there .h1
theorem At.h3 : At (a :: b :: c :: x :: xs) (p :: q :: r :: s :: ss) x s := .there .h2
theorem At.j4 (h : At xs ss x s) : At (a :: b :: c :: d :: xs) (p :: q :: r :: t :: ss) x s := .there (.there (.there (.there h)))
theorem Upd.h1 : Upd (a :: x :: xs) (p :: s :: ss) x s' (p :: s' :: ss) := .there .here
theorem Upd.h2 : Upd (a :: b :: x :: xs) (p :: q :: s :: ss) x s' (p :: q :: s' :: ss) := .there .h1
theorem Upd.h3 : Upd (a :: b :: c :: x :: xs) (p :: q :: r :: s :: ss) x s' (p :: q :: r :: s' :: ss) := .there .h2
theorem Upd.j4 (h : Upd xs ss x s' ss') : Upd (a :: b :: c :: d :: xs) (p :: q :: r :: t :: ss) x s' (p :: q :: r :: t :: ss') := .there (.there (.there (.there h)))
end
section
variable {x : Str} {v : V} {a b c d : Str × V} {l : List (Str × V)}
theorem AtG.h1 : AtG (a :: (x, v) :: l) x v := .there .here
theorem AtG.h2 : AtG (a :: b :: (x, v) :: l) x v := .there .h1
theorem AtG.h3 : AtG (a :: b :: c :: (x, v) :: l) x v := .there .h2
theorem AtG.j4 (h : AtG l x v) : AtG (a :: b :: c :: d :: l) x v := .there (.there (.there (.there h)))
end
end
section
open PySem PySem.W PyProof.Rows
set_option Elab.async false
set_option linter.unusedVariables false
variable {T : TC} {c : Cx} {σ : List Slot}
-- a comprehension with a test, named
theorem Ex1.compF {elt iter : Expr} {x y : Str} {px py : Pos} {ifs : List Expr} {scope : Scope} {pos spos : Pos} {caps cs G'} {α : Type} {xs : List α} {w f : α → V} {t : α → Bool} {σ1} (hit : It T c σ iter (xs.map w))
    (hok : compOkB c.nm scope x caps = true) (hcap : CapL c.N σ caps cs) (hG : CapG T (fun y => scope.names.lookup y == some .globalImplicit) c.G G')
    (htest : ∀ a ∈ xs, TrIf T (cIn c scope x caps G') (.val (w a) :: cs) ifs (t a)) (helt : ∀ a ∈ xs, t a = true → Ev T (cIn c scope x caps G') (.val (w a) :: cs) elt (f a))
    (hsz : xs.length ≤ 1048576) (hu : Upd c.N σ y (.val (.list ((xs.filter t).map f))) σ1) (hs : ∀ env x, foldedSetIterable iter env x = pure x := by walk_at "r1") :
    Ex1 T c σ (.Assign [.Name y py] (.ListComp elt [⟨.Name x px, iter, ifs, 0⟩] scope pos) spos) (.next σ1) := by
  cases xs with
  | nil =>
    exact Ex1.assign_comp (px := px) (pos := pos) (ifs := ifs) (elt := elt) (t := fun _ => true) (f := fun i => V.none) (CompCx.of hok hcap hG) hit (fun i q hq => by simp at hq) (fun i q hq _ => by simp at hq) (by simp) hu hs
  | cons a₀ xs =>
    generalize hys : a₀ :: xs = ys at *
    have get : ∀ (i : Nat) (q : V), (ys.map w)[i]? = some q → q = w (ys.getD i a₀) ∧ ys.getD i a₀ ∈ ys := by
      intro i q hq
      rw [List.getElem?_map] at hq
      cases hy : ys[i]? with
      | none => rw [hy] at hq; cases hq
      | some a =>
        rw [hy] at hq
        cases hq
        have : ys.getD i a₀ = a := by rw [List.getD_eq_getElem?_getD, hy]; rfl
        rw [this]
        exact ⟨rfl, List.mem_of_getElem? hy⟩
    rw [← compR_list ys t f a₀, ← List.length_map (f := w) (as := ys)] at hu
    exact Ex1.assign_comp (px := px) (pos := pos) (ifs := ifs) (elt := elt) (t := fun i => t (ys.getD i a₀)) (f := fun i => f (ys.getD i a₀)) (CompCx.of hok hcap hG) hit
      (fun i q hq => by obtain ⟨h1, h2⟩ := get i q hq; rw [h1]; exact htest _ h2) (fun i q hq ht => by obtain ⟨h1, h2⟩ := get i q hq; rw [h1]; exact helt _ h2 ht) (by simpa using hsz) hu hs
end
section
open PySem PySem.W PyProof.Rows
set_option Elab.async false
set_option linter.unusedVariables false
-- codes: a text by its tokens
structure Cod (g : Nat → List Nat) (D : Nat → Prop) : Prop where
  ne : ∀ a, D a → g a ≠ []
  pre : ∀ a b, D a → D b → g a <+: g b → a = b
  suf : ∀ a b, D a → D b → g a <:+ g b → a = b
  head : ∀ a b z, D a → D b → (g a).head? = some z → z ∉ (g b).tail
theorem pre_code {g : Nat → List Nat} {D : Nat → Prop} (ne : ∀ a, D a → g a ≠ []) (pre : ∀ a b, D a → D b → g a <+: g b → a = b) :
    ∀ {p t : List Nat}, (∀ a ∈ p, D a) → (∀ a ∈ t, D a) → (p.flatMap g <+: t.flatMap g ↔ p <+: t)
  | [], t, _, _ => by simp
  | a :: p, [], hp, _ => by
    rw [List.flatMap_cons, List.flatMap_nil, List.prefix_nil, List.append_eq_nil_iff, List.prefix_nil]
    constructor
    · rintro ⟨h, _⟩; exact absurd h (ne a (hp a (.head _)))
    · intro h; cases h
  | a :: p, b :: t, hp, ht => by
    rw [List.flatMap_cons, List.flatMap_cons, List.cons_prefix_cons]
    by_cases h : a = b
    · subst h
      rw [List.prefix_append_right_inj, pre_code ne pre (fun x hx => hp x (.tail _ hx)) fun x hx => ht x (.tail _ hx)]
      simp
    · constructor
      · intro h'
        exfalso
        have h1 : g a <+: g b ++ t.flatMap g := List.IsPrefix.trans (List.prefix_append _ _) h'
        rcases List.prefix_or_prefix_of_prefix h1 (List.prefix_append (g b) (t.flatMap g)) with h2 | h2
        · exact h (pre a b (hp a (.head _)) (ht b (.head _)) h2)
        · exact h (pre b a (ht b (.head _)) (hp a (.head _)) h2).symm
      · rintro ⟨h', _⟩; exact absurd h' h
theorem suf_code {g : Nat → List Nat} {D : Nat → Prop} (C : Cod g D) {p t : List Nat} (hp : ∀ a ∈ p, D a) (ht : ∀ a ∈ t, D a) : (p.flatMap g <:+ t.flatMap g ↔ p <:+ t) := by
  rw [← List.reverse_prefix, ← List.reverse_prefix (l₁ := p)]
  have e : ∀ l : List Nat, (l.flatMap g).reverse = l.reverse.flatMap fun a => (g a).reverse := by
    intro l
    induction l with
    | nil => rfl
    | cons a l ih => rw [List.flatMap_cons, List.reverse_append, ih, List.reverse_cons, List.flatMap_append]; simp
  rw [e, e]
  refine pre_code (D := D) (fun a ha h => C.ne a ha (by simpa using h)) (fun a b ha hb h => C.suf a b ha hb (List.reverse_prefix.mp h)) ?_ ?_
  · intro a ha; exact hp a (by simpa using ha)
  · intro a ha; exact ht a (by simpa using ha)
noncomputable def posQ (g : Nat → List Nat) (t : List Nat) (k : Nat) : Nat := ((t.take k).flatMap g).length
section
variable {g : Nat → List Nat} {D : Nat → Prop} (C : Cod g D) {t : List Nat}
theorem posQ_add (k j : Nat) : posQ g t (k + j) = posQ g t k + (((t.drop k).take j).flatMap g).length := by
  unfold posQ; rw [List.take_add, List.flatMap_append, List.length_append]
theorem posQ_len : posQ g t t.length = (t.flatMap g).length := by unfold posQ; rw [List.take_length]
theorem posQ_mono {a b : Nat} (h : a ≤ b) : posQ g t a ≤ posQ g t b := by
  obtain ⟨j, rfl⟩ := Nat.le.dest h
  rw [posQ_add]; omega
include C in
theorem posQ_lt (ht : ∀ a ∈ t, D a) {a b : Nat} (h : a < b) (hb : b ≤ t.length) : posQ g t a < posQ g t b := by
  obtain ⟨j, rfl⟩ := Nat.le.dest (Nat.succ_le_of_lt h)
  refine Nat.lt_of_lt_of_le ?_ (posQ_mono (Nat.le_add_right (a + 1) j))
  rw [posQ_add]
  have : a < t.length := by omega
  rw [List.drop_eq_getElem_cons this]
  have hn := C.ne t[a] (ht _ (List.getElem_mem this))
  have := List.length_pos_iff.mpr hn
  rw [List.take_succ_cons, List.take_zero, List.flatMap_cons, List.flatMap_nil, List.append_nil]; omega
include C in
theorem posQ_le (ht : ∀ a ∈ t, D a) {a b : Nat} (ha : a ≤ t.length) (hb : b ≤ t.length) : posQ g t a ≤ posQ g t b ↔ a ≤ b := by
  refine ⟨fun h => ?_, posQ_mono⟩
  rcases Nat.lt_or_ge b a with h' | h'
  · have := posQ_lt C ht h' ha; omega
  · exact h'
theorem drop_posQ (k : Nat) : (t.flatMap g).drop (posQ g t k) = (t.drop k).flatMap g := by
  have : t.flatMap g = (t.take k).flatMap g ++ (t.drop k).flatMap g := by rw [← List.flatMap_append, List.take_append_drop]
  rw [this]
  exact List.drop_left' rfl
theorem bound_code : ∀ {t : List Nat} {i z : Nat}, (t.flatMap g)[i]? = some z → (∃ k, k < t.length ∧ i = posQ g t k) ∨ (∃ b ∈ t, z ∈ (g b).tail)
  | [], i, z, h => by simp at h
  | b :: t, i, z, h => by
    rw [List.flatMap_cons] at h
    by_cases hi : i < (g b).length
    · rw [List.getElem?_append_left hi] at h
      cases i with
      | zero => exact .inl ⟨0, by simp, by simp [posQ]⟩
      | succ i =>
        refine .inr ⟨b, .head _, ?_⟩
        rw [← List.drop_one]
        exact List.mem_of_getElem? (i := i) (by rw [List.getElem?_drop, Nat.add_comm]; exact h)
    · rw [List.getElem?_append_right (by omega)] at h
      rcases bound_code h with ⟨k, h1, h2⟩ | ⟨b', h1, h2⟩
      · refine .inl ⟨k + 1, by simpa using h1, ?_⟩
        unfold posQ at h2 ⊢
        rw [List.take_succ_cons, List.flatMap_cons, List.length_append]
        omega
      · exact .inr ⟨b', .tail _ h1, h2⟩
theorem at_iff {x y : List Nat} {i : Nat} : atP x y i = true ↔ y <+: x.drop i := by
  unfold atP
  rw [beq_iff_eq, List.prefix_iff_eq_take]
  exact eq_comm
theorem findP_some {x y : List Nat} {lo hi k : Nat} : findP x y lo hi = some k ↔ lo ≤ k ∧ (k + y.length ≤ hi ∧ y <+: x.drop k) ∧ ∀ j, lo ≤ j → j < k → ¬ (j + y.length ≤ hi ∧ y <+: x.drop j) := by
  unfold findP
  rw [List.find?_range'_eq_some]
  constructor
  · rintro ⟨h1, h2, h3⟩
    rw [Bool.and_eq_true, decide_eq_true_iff, at_iff] at h1
    refine ⟨(List.mem_range'_1.mp h2).1, h1, fun j ha hb hc => ?_⟩
    have := h3 j ha hb
    rw [Bool.not_eq_true', Bool.and_eq_false_iff, decide_eq_false_iff_not] at this
    rcases this with h | h
    · exact h hc.1
    · have := at_iff.mpr hc.2; rw [h] at this; cases this
  · rintro ⟨h1, h2, h3⟩
    refine ⟨by rw [Bool.and_eq_true, decide_eq_true_iff, at_iff]; exact h2, List.mem_range'_1.mpr ⟨h1, by omega⟩, fun j ha hb => ?_⟩
    have := h3 j ha hb
    cases hq : (decide (j + y.length ≤ hi) && atP x y j) with
    | false => rfl
    | true => rw [Bool.and_eq_true, decide_eq_true_iff, at_iff] at hq; exact absurd hq this
theorem findP_none {x y : List Nat} {lo hi : Nat} : findP x y lo hi = none ↔ ∀ j, lo ≤ j → ¬ (j + y.length ≤ hi ∧ y <+: x.drop j) := by
  unfold findP
  rw [List.find?_eq_none]
  constructor
  · intro h j hj hc
    refine h j (List.mem_range'_1.mpr ⟨hj, by omega⟩) ?_
    rw [Bool.and_eq_true, decide_eq_true_iff, at_iff]; exact hc
  · intro h j hj hc
    rw [Bool.and_eq_true, decide_eq_true_iff, at_iff] at hc
    exact h j (List.mem_range'_1.mp hj).1 hc
theorem seg_pos {w : List Nat} {k : Nat} (h : w <+: t.drop k) : posQ g t k + (w.flatMap g).length = posQ g t (k + w.length) := by
  rw [posQ_add, ← List.prefix_iff_eq_take.mp h]
include C in
theorem find_code (ht : ∀ a ∈ t, D a) {w : List Nat} (hw : ∀ a ∈ w, D a) {s e : Nat} (hs : s ≤ e) (he : e ≤ t.length) : findP (t.flatMap g) (w.flatMap g) (posQ g t s) (posQ g t e) = (findP t w s e).map (posQ g t) := by
  have down : ∀ k, k + w.length ≤ e → w <+: t.drop k → posQ g t k + (w.flatMap g).length ≤ posQ g t e ∧ w.flatMap g <+: (t.flatMap g).drop (posQ g t k) := by
    intro k h1 h2
    rw [seg_pos h2, drop_posQ]
    exact ⟨posQ_mono h1, (pre_code C.ne C.pre hw fun a ha => ht a (List.mem_of_mem_drop ha)).mpr h2⟩
  by_cases hw0 : w = []
  · subst hw0
    have h1 : findP t [] s e = some s := findP_some.mpr ⟨Nat.le_refl _, ⟨by simpa using hs, List.nil_prefix⟩, by intro j a b; omega⟩
    rw [h1]
    exact findP_some.mpr ⟨Nat.le_refl _, ⟨by simpa using posQ_mono hs, List.nil_prefix⟩, by intro j a b; omega⟩
  · obtain ⟨a, w', rfl⟩ := List.exists_cons_of_ne_nil hw0
    have up : ∀ i, posQ g t s ≤ i → i + ((a :: w').flatMap g).length ≤ posQ g t e → (a :: w').flatMap g <+: (t.flatMap g).drop i → ∃ k, i = posQ g t k ∧ s ≤ k ∧ k + (a :: w').length ≤ e ∧ (a :: w') <+: t.drop k := by
      intro i h0 h1 h2
      have hz : ∃ z, (g a).head? = some z := by
        cases h : g a with
        | nil => exact absurd h (C.ne a (hw a (.head _)))
        | cons z r => exact ⟨z, rfl⟩
      obtain ⟨z, hz⟩ := hz
      have hi : (t.flatMap g)[i]? = some z := by
        obtain ⟨r, h3⟩ := h2
        have : ((t.flatMap g).drop i)[0]? = some z := by
          rw [← h3, List.flatMap_cons]
          cases h : g a with
          | nil => rw [h] at hz; cases hz
          | cons z' r' => rw [h] at hz; simpa using hz
        simpa using this
      rcases bound_code hi with ⟨k, h3, rfl⟩ | ⟨b, h3, h4⟩
      · have h5 : (a :: w') <+: t.drop k := by
          rw [drop_posQ] at h2
          exact (pre_code C.ne C.pre hw fun a ha => ht a (List.mem_of_mem_drop ha)).mp h2
        rw [seg_pos h5] at h1
        have h6 : k + (a :: w').length ≤ t.length := by
          have := h5.length_le
          rw [List.length_drop] at this
          have : 0 < (a :: w').length := by simp
          omega
        exact ⟨k, rfl, (posQ_le C ht (by omega) (by omega)).mp h0, (posQ_le C ht h6 he).mp h1, h5⟩
      · exact absurd h4 (C.head a b z (hw a (.head _)) (ht b h3) hz)
    cases hf : findP t (a :: w') s e with
    | none =>
      rw [findP_none] at hf
      refine findP_none.mpr fun j hj hc => ?_
      obtain ⟨k, _, h1, h2, h3⟩ := up j hj hc.1 hc.2
      exact hf k h1 ⟨h2, h3⟩
    | some k =>
      obtain ⟨h1, h2, h3⟩ := findP_some.mp hf
      refine findP_some.mpr ⟨posQ_mono h1, down k h2.1 h2.2, fun j hj hk hc => ?_⟩
      obtain ⟨k', rfl, h4, h5, h6⟩ := up j hj hc.1 hc.2
      have : k' < k := by
        rcases Nat.lt_or_ge k' k with h | h
        · exact h
        · have := posQ_mono (g := g) (t := t) h; omega
      exact h3 k' h4 this ⟨h5, h6⟩
theorem posQ_le_len {e : Nat} : posQ g t e ≤ (t.flatMap g).length := by
  rcases Nat.le_total e t.length with h | h
  · rw [← posQ_len]; exact posQ_mono h
  · unfold posQ; rw [List.take_of_length_le h]; exact Nat.le_refl _
include C in
theorem scan_code (ht : ∀ a ∈ t, D a) {e : Nat} (he : e ≤ t.length) : ∀ {ws : List (List Nat)} {s : Nat}, (∀ w ∈ ws, ∀ a ∈ w, D a) → s ≤ e → scanP (t.flatMap g) (posQ g t e) (ws.map (·.flatMap g)) (posQ g t s) = scanP t e ws s
  | [], s, _, _ => rfl
  | w :: ws, s, hw, hs => by
    rw [List.map_cons]
    unfold scanP findI
    have e1 : min (posQ g t e) (t.flatMap g).length = posQ g t e := Nat.min_eq_left posQ_le_len
    have e2 : min e t.length = e := Nat.min_eq_left he
    simp only [Int.toNat_natCast, e1, e2, find_code C ht (hw w (.head _)) hs he]
    cases hf : findP t w s e with
    | none => rfl
    | some k =>
      obtain ⟨h1, h2, h3⟩ := findP_some.mp hf
      have e3 : ¬ ((k : Nat) : Int) < 0 := by omega
      have e4 : ¬ ((posQ g t k : Nat) : Int) < 0 := by omega
      simp only [Option.map_some, e3, e4, if_false]
      rw [← Int.natCast_add, seg_pos h2.2, ← Int.natCast_add]
      exact scan_code ht he (fun w hw' => hw w (.tail _ hw')) h2.1
theorem flat_nil (C : Cod g D) {w : List Nat} (hw : ∀ a ∈ w, D a) : w.flatMap g = [] ↔ w = [] := by
  cases w with
  | nil => simp
  | cons a w => simp [C.ne a (hw a (.head _))]
theorem getLastD_map (ws : List (List Nat)) : (ws.map (·.flatMap g)).getLastD [] = (ws.getLastD []).flatMap g := by
  rw [List.getLastD_eq_getLast?, List.getLastD_eq_getLast?, List.getLast?_map]
  cases ws.getLast? <;> rfl
include C in
theorem last_code (ht : ∀ a ∈ t, D a) {ws : List (List Nat)} {s : Nat} (hw : ∀ w ∈ ws, ∀ a ∈ w, D a) (hs : s ≤ t.length) : lastP (t.flatMap g) (ws.map (·.flatMap g)) (posQ g t s) = lastP t ws s := by
  have hl : ∀ a ∈ ws.getLastD [], D a := by
    rw [List.getLastD_eq_getLast?]
    cases h : ws.getLast? with
    | none => intro a ha; cases ha
    | some w => exact hw w (List.mem_of_getLast? h)
  unfold lastP
  rw [getLastD_map]
  simp only [flat_nil C hl]
  have tail : ∀ {ws : List (List Nat)} {e : Nat}, (∀ w ∈ ws, ∀ a ∈ w, D a) → e ≤ t.length → tailP (t.flatMap g) (ws.map (·.flatMap g)) (posQ g t s) (posQ g t e) = tailP t ws s e := by
    intro ws e hw he
    unfold tailP
    have : ((posQ g t s : Nat) : Int) > (posQ g t e : Nat) ↔ (s : Int) > (e : Nat) := by
      have := posQ_le C ht hs he
      omega
    simp only [this]
    split
    · rfl
    · exact scan_code C ht he hw (by omega)
  split
  · rw [← posQ_len]; exact tail hw (Nat.le_refl _)
  · have hb : ((ws.getLastD []).flatMap g).isSuffixOf (t.flatMap g) = (ws.getLastD []).isSuffixOf t := by
      rw [Bool.eq_iff_iff, List.isSuffixOf_iff_suffix, List.isSuffixOf_iff_suffix]; exact suf_code C hl ht
    rw [hb]
    split
    · rename_i h
      rw [List.isSuffixOf_iff_suffix] at h
      have h1 := h.length_le
      have e1 : ((t.flatMap g).length : Int) - ((ws.getLastD []).flatMap g).length = (posQ g t (t.length - (ws.getLastD []).length) : Nat) := by
        have h2 : t.drop (t.length - (ws.getLastD []).length) = ws.getLastD [] := (List.suffix_iff_eq_drop.mp h).symm
        have := posQ_add (g := g) (t := t) (t.length - (ws.getLastD []).length) (ws.getLastD []).length
        rw [h2, List.take_length, Nat.sub_add_cancel h1, posQ_len] at this
        omega
      have e2 : (t.length : Int) - (ws.getLastD []).length = (t.length - (ws.getLastD []).length : Nat) := by omega
      rw [e1, e2, ← List.map_dropLast]
      exact tail (fun w hw' => hw w (List.dropLast_subset _ hw')) (by omega)
    · rfl
include C in
theorem em_code (ht : ∀ a ∈ t, D a) {ps : List (List Nat)} (hp : ∀ w ∈ ps, ∀ a ∈ w, D a) : emP (ps.map (·.flatMap g)) (t.flatMap g) = emP ps t := by
  match ps with
  | [] => rfl
  | [p] =>
    show (p.flatMap g == t.flatMap g) = (p == t)
    rw [Bool.eq_iff_iff, beq_iff_eq, beq_iff_eq]
    have hp := hp p (.head _)
    constructor
    · intro h
      have h1 := (pre_code C.ne C.pre hp ht).mp (by rw [h]; exact List.prefix_refl _)
      have h2 := (pre_code C.ne C.pre ht hp).mp (by rw [h]; exact List.prefix_refl _)
      exact h1.eq_of_length_le h2.length_le
    · rintro rfl; rfl
  | w :: q :: r =>
    show (if w.flatMap g = [] then lastP (t.flatMap g) ((w :: q :: r).map (·.flatMap g)) 0 else if (w.flatMap g).isPrefixOf (t.flatMap g) then lastP (t.flatMap g) ((q :: r).map (·.flatMap g)) (w.flatMap g).length else false) =
      (if w = [] then lastP t (w :: q :: r) 0 else if w.isPrefixOf t then lastP t (q :: r) w.length else false)
    have hw := hp w (.head _)
    simp only [flat_nil C hw]
    split
    · exact last_code C ht (s := 0) hp (Nat.zero_le _)
    · have hb : (w.flatMap g).isPrefixOf (t.flatMap g) = w.isPrefixOf t := by
        rw [Bool.eq_iff_iff, List.isPrefixOf_iff_prefix, List.isPrefixOf_iff_prefix]; exact pre_code C.ne C.pre hw ht
      rw [hb]
      split
      · rename_i h
        rw [List.isPrefixOf_iff_prefix] at h
        have e : (w.flatMap g).length = posQ g t w.length := by
          unfold posQ; rw [← List.prefix_iff_eq_take.mp h]
        rw [e]
        exact last_code C ht (fun w' hw' => hp w' (.tail _ hw')) h.length_le
      · rfl
end
end
section
set_option Elab.async false
set_option linter.unusedVariables false
-- a word within another
-- the distance depends on which signs agree alone
theorem inS_congr {sub sub' : Nat → Int} {row0 : List Int} {base : Int} : ∀ {n : Nat}, (∀ i < n, sub i = sub' i) → inS sub row0 base n = inS sub' row0 base n
  | 0, _ => rfl
  | n + 1, h => by
    unfold inS
    rw [inS_congr (n := n) fun i hi => h i (Nat.lt_succ_of_lt hi), h n (Nat.lt_succ_self n)]
theorem outS_congr {sub sub' : Nat → Nat → Int} {n : Nat} : ∀ {m : Nat}, (∀ j < m, ∀ i < n, sub j i = sub' j i) → outS sub n m = outS sub' n m
  | 0, _ => rfl
  | m + 1, h => by
    unfold outS
    rw [outS_congr (m := m) fun j hj => h j (Nat.lt_succ_of_lt hj), inS_congr (h m (Nat.lt_succ_self m))]
theorem gridP_congr {sub sub' : Nat → Nat → Int} {n m : Nat} {mx : Int} (h : ∀ j < m, ∀ i < n, sub j i = sub' j i) : gridP sub n m mx = gridP sub' n m mx := by
  unfold gridP
  rw [outS_congr h]
  have : overS sub n mx m = overS sub' n mx m := by
    unfold overS
    rw [Bool.eq_iff_iff, List.any_eq_true, List.any_eq_true]
    have key : ∀ j < m, minS sub n j = minS sub' n j := fun j hj => by
      unfold minS
      rw [outS_congr (m := j) fun j' hj' => h j' (by omega), inS_congr (h j hj)]
    constructor
    · rintro ⟨j, hj, h'⟩; exact ⟨j, hj, by rw [← key j (List.mem_range.mp hj)]; exact h'⟩
    · rintro ⟨j, hj, h'⟩; exact ⟨j, hj, by rw [key j (List.mem_range.mp hj)]; exact h'⟩
  rw [this]
section
variable {f : Nat → Nat} {D : Nat → Prop} (inj : ∀ i j, D i → D j → f i = f j → i = j)
include inj
theorem map_inj_on : ∀ {a b : List Nat}, (∀ i ∈ a, D i) → (∀ i ∈ b, D i) → a.map f = b.map f → a = b
  | [], [], _, _, _ => rfl
  | [], _ :: _, _, _, h => by simp at h
  | _ :: _, [], _, _, h => by simp at h
  | x :: a, y :: b, ha, hb, h => by
    simp only [List.map_cons, List.cons.injEq] at h
    rw [inj x y (ha _ (.head _)) (hb _ (.head _)) h.1, map_inj_on (fun i hi => ha i (.tail _ hi)) (fun i hi => hb i (.tail _ hi)) h.2]
theorem cpl_map : ∀ {a b : List Nat}, (∀ i ∈ a, D i) → (∀ i ∈ b, D i) → cpl (a.map f) (b.map f) = cpl a b
  | [], b, _, _ => by cases b <;> rfl
  | _ :: _, [], _, _ => rfl
  | x :: a, y :: b, ha, hb => by
    rw [List.map_cons, List.map_cons]
    unfold cpl
    rw [cpl_map (fun i hi => ha i (.tail _ hi)) (fun i hi => hb i (.tail _ hi))]
    by_cases h : x = y
    · rw [if_pos h, if_pos (by rw [h])]
    · rw [if_neg h, if_neg fun e => h (inj x y (ha _ (.head _)) (hb _ (.head _)) e)]
theorem lev_map {sub sub' : Nat → Nat → Int} (hs : ∀ i j, D i → D j → sub (f i) (f j) = sub' i j) {a b : List Nat} (ha : ∀ i ∈ a, D i) (hb : ∀ i ∈ b, D i) (mx : Int) : levP sub (a.map f) (b.map f) mx = levP sub' a b mx := by
  have pair : ∀ {a b : List Nat}, (∀ i ∈ a, D i) → (∀ i ∈ b, D i) → pairP sub (a.map f) (b.map f) mx = pairP sub' a b mx := by
    intro a b ha hb
    unfold pairP
    rw [List.length_map, List.length_map]
    rw [gridP_congr (sub' := fun j i => sub' (b.getD j 0) (a.getD i 0))]
    intro j hj i hi
    show sub ((b.map f).getD j 0) ((a.map f).getD i 0) = sub' (b.getD j 0) (a.getD i 0)
    have e1 : (b.map f).getD j 0 = f (b.getD j 0) := by simp [hj]
    have e2 : (a.map f).getD i 0 = f (a.getD i 0) := by simp [hi]
    rw [e1, e2]
    exact hs _ _ (hb _ (by rw [List.getD_eq_getElem?_getD, List.getElem?_eq_getElem hj]; exact List.getElem_mem hj)) (ha _ (by rw [List.getD_eq_getElem?_getD, List.getElem?_eq_getElem hi]; exact List.getElem_mem hi))
  have core : ∀ {a b : List Nat}, (∀ i ∈ a, D i) → (∀ i ∈ b, D i) → coreP sub (a.map f) (b.map f) mx = coreP sub' a b mx := by
    intro a b ha hb
    unfold coreP
    simp only [List.map_eq_nil_iff, List.length_map, pair ha hb, pair hb ha]
  unfold levP
  have e0 : (a.map f = b.map f) ↔ (a = b) := ⟨map_inj_on inj ha hb, fun h => by rw [h]⟩
  simp only [e0, cpl_map inj ha hb, ← List.map_drop, ← List.map_reverse, List.length_map, ← List.map_take]
  rw [cpl_map inj (a := (a.drop (cpl a b)).reverse) (b := (b.drop (cpl a b)).reverse) (fun i hi => ha i (List.mem_of_mem_drop (List.mem_reverse.mp hi))) (fun i hi => hb i (List.mem_of_mem_drop (List.mem_reverse.mp hi)))]
  split
  · rfl
  · exact core (fun i hi => ha i (List.mem_of_mem_drop (List.mem_of_mem_take hi))) (fun i hi => hb i (List.mem_of_mem_drop (List.mem_of_mem_take hi)))
end
-- a text with a piece left out
end
section
set_option Elab.async false
set_option linter.unusedVariables false
-- a list cut at a sign
noncomputable def cutAt (s : Nat) : List Nat → List (List Nat)
  | [] => [[]]
  | t :: r => if t = s then [] :: cutAt s r else (t :: (cutAt s r).headD []) :: (cutAt s r).tail
theorem cut_ne (s : Nat) : ∀ l, cutAt s l ≠ []
  | [] => by simp [cutAt]
  | t :: r => by unfold cutAt; split <;> simp
theorem cut_join {g : Nat → List Nat} {sep : List Nat} {s : Nat} : ∀ l, joinP sep ((cutAt s l).map (·.flatMap g)) = l.flatMap fun t => if t = s then sep else g t
  | [] => rfl
  | t :: r => by
    have ih := cut_join (g := g) (sep := sep) (s := s) r
    obtain ⟨q, qs, hq⟩ := List.exists_cons_of_ne_nil (cut_ne s r)
    unfold cutAt
    rw [hq] at ih ⊢
    rw [List.flatMap_cons, ← ih]
    by_cases h : t = s
    · rw [if_pos h, if_pos h]
      show [] ++ sep ++ joinP sep _ = _
      simp
    · rw [if_neg h, if_neg h]
      cases qs with
      | nil => simp [joinP]
      | cons q2 qs => simp [joinP]
theorem cut_free {s : Nat} : ∀ {l : List Nat} {p : List Nat}, p ∈ cutAt s l → ∀ a ∈ p, a ∈ l ∧ a ≠ s
  | [], p, hp, a, ha => by simp [cutAt] at hp; subst hp; cases ha
  | t :: r, p, hp, a, ha => by
    obtain ⟨q, qs, hq⟩ := List.exists_cons_of_ne_nil (cut_ne s r)
    unfold cutAt at hp
    rw [hq] at hp
    have ih : ∀ {p : List Nat}, p ∈ q :: qs → ∀ a ∈ p, a ∈ r ∧ a ≠ s := fun {p} hp => cut_free (by rw [hq]; exact hp)
    split at hp
    · rcases List.mem_cons.mp hp with rfl | hp
      · cases ha
      · exact ⟨.tail _ (ih hp a ha).1, (ih hp a ha).2⟩
    · rename_i h
      rcases List.mem_cons.mp hp with rfl | hp
      · rcases List.mem_cons.mp ha with rfl | ha
        · exact ⟨.head _, h⟩
        · exact ⟨.tail _ (ih (.head _) a ha).1, (ih (.head _) a ha).2⟩
      · exact ⟨.tail _ (ih (.tail _ hp) a ha).1, (ih (.tail _ hp) a ha).2⟩
theorem cut_len (s : Nat) : ∀ l, (cutAt s l).length ≤ l.length + 1
  | [] => by simp [cutAt]
  | t :: r => by
    have ih := cut_len s r
    unfold cutAt
    split
    · simp; omega
    · simp; omega
-- a bound of one less
theorem core_less {sub : Nat → Nat → Int} {a b : List Nat} {d : Int} (h : coreP sub a b d = d) : coreP sub a b (d - 1) = d := by
  have grid : ∀ {sub : Nat → Nat → Int} {n m : Nat}, gridP sub n m d = d → gridP sub n m (d - 1) = d := by
    intro sub n m h
    unfold gridP at h ⊢
    split at h
    · omega
    · split
      · omega
      · exact h
  have pair : ∀ {a b : List Nat}, pairP sub a b d = d → pairP sub a b (d - 1) = d := by
    intro a b h
    unfold pairP at h ⊢
    split at h
    · omega
    · split
      · omega
      · exact grid h
  unfold coreP at h ⊢
  split at h
  · rename_i h0; rw [if_pos h0]; exact h
  · rename_i h0
    rw [if_neg h0]
    split at h
    · omega
    · rename_i h1
      rw [if_neg h1]
      split at h
      · rename_i h2; rw [if_pos h2]; exact pair h
      · rename_i h2; rw [if_neg h2]; exact pair h
theorem lev_less {sub : Nat → Nat → Int} {a b : List Nat} {d : Int} (h : levP sub a b d = d) : levP sub a b (d - 1) = d := by
  unfold levP at h ⊢
  split at h
  · rename_i h0; rw [if_pos h0]; exact h
  · rename_i h0; rw [if_neg h0]; exact core_less h
end
section
set_option Elab.async false
set_option linter.unusedVariables false
set_option maxRecDepth 100000
-- the distance, reckoned fast
noncomputable def mnN (a b : Nat) : Nat := cond (Nat.blt b a) b a
noncomputable def rowF : List Nat → List Nat → Nat → Nat → Nat → Nat × Nat × List Nat
  | s :: ss, x :: xs, d, r, m => match rowF ss xs x (mnN (mnN r x + 2) (d + s)) (mnN m (mnN (mnN r x + 2) (d + s))) with
    | (a, b, c) => (a, b, mnN (mnN r x + 2) (d + s) :: c)
  | _, _, d, r, m => (r, m, [])
noncomputable def gridF (sub : Nat → Nat → Nat) (a : List Nat) (mx : Nat) : List Nat → Nat → List Nat → Nat → Nat
  | [], _, _, res => res
  | b :: bs, j, row, _ => match rowF (a.map (sub b)) row (j * 2) (j * 2) 9223372036854775807 with
    | (r, m, row') => cond (Nat.blt mx m) (mx + 1) (gridF sub a mx bs (j + 1) row' r)
noncomputable def pairF (sub : Nat → Nat → Nat) (a b : List Nat) (mx : Nat) : Nat :=
  cond (Nat.blt (mx + a.length * 2) (b.length * 2)) (mx + 1) (gridF sub a mx b 0 ((List.range a.length).map fun i => 2 + i * 2) 0)
noncomputable def coreF (sub : Nat → Nat → Nat) (a b : List Nat) (mx : Nat) : Nat :=
  cond (a.isEmpty || b.isEmpty) (2 * (a.length + b.length)) (cond (Nat.blt 40 a.length || Nat.blt 40 b.length) (mx + 1) (cond (Nat.blt b.length a.length) (pairF sub b a mx) (pairF sub a b mx)))
noncomputable def levF (sub : Nat → Nat → Nat) (a b : List Nat) (mx : Nat) : Nat :=
  cond (a == b) 0 (match cpl a b with | k => match a.drop k, b.drop k with | a1, b1 => match cpl a1.reverse b1.reverse with | l => coreF sub (a1.take (a1.length - l)) (b1.take (b1.length - l)) mx)

theorem bltf {a b : Nat} (h : ¬ a < b) : Nat.blt a b = false := Bool.eq_false_iff.mpr (by rw [ne_eq, Nat.blt_eq]; exact h)
theorem bltt {a b : Nat} (h : a < b) : Nat.blt a b = true := by rw [Nat.blt_eq]; exact h
theorem mnN_eq (a b : Nat) : ((mnN a b : Nat) : Int) = mn2 a b := by
  unfold mnN mn2
  by_cases h : b < a
  · have : Nat.blt b a = true := bltt h
    rw [this, if_pos (by omega)]; rfl
  · have : Nat.blt b a = false := bltf h
    rw [this, if_neg (by omega)]; rfl
theorem rowF_cons (s x : Nat) (ss xs : List Nat) (d r m : Nat) : rowF (s :: ss) (x :: xs) d r m =
    ((rowF ss xs x (mnN (mnN r x + 2) (d + s)) (mnN m (mnN (mnN r x + 2) (d + s)))).1, (rowF ss xs x (mnN (mnN r x + 2) (d + s)) (mnN m (mnN (mnN r x + 2) (d + s)))).2.1,
      mnN (mnN r x + 2) (d + s) :: (rowF ss xs x (mnN (mnN r x + 2) (d + s)) (mnN m (mnN (mnN r x + 2) (d + s)))).2.2) := rfl
noncomputable def toI (l : List Nat) : List Int := l.map fun (n : Nat) => (n : Int)
theorem row_go (sub : Nat → Nat) (row : List Nat) (base n : Nat) (hn : row.length = n) : ∀ i ≤ n, ∃ (d r m : Nat) (nw : List Nat), nw.length = i ∧ inS (fun i => (sub i : Int)) (toI row) base i = ((d : Int), (r : Int), (m : Int), toI (nw ++ row.drop i)) ∧
    rowF ((List.range n).map sub) row base base 9223372036854775807 = ((rowF (((List.range n).map sub).drop i) (row.drop i) d r m).1, (rowF (((List.range n).map sub).drop i) (row.drop i) d r m).2.1, nw ++ (rowF (((List.range n).map sub).drop i) (row.drop i) d r m).2.2)
  | 0, _ => ⟨base, base, 9223372036854775807, [], rfl, by simp [inS], by simp⟩
  | i + 1, hi => by
    obtain ⟨d, r, m, nw, h1, h2, h3⟩ := row_go sub row base n hn i (by omega)
    have hir : i < row.length := by omega
    have e1 : row.drop i = row[i] :: row.drop (i + 1) := List.drop_eq_getElem_cons hir
    have e2 : ((List.range n).map sub).drop i = sub i :: ((List.range n).map sub).drop (i + 1) := by
      rw [List.drop_eq_getElem_cons (by simp; omega)]; simp
    rw [e1, e2, rowF_cons] at h3
    refine ⟨row[i], mnN (mnN r row[i] + 2) (d + sub i), mnN m (mnN (mnN r row[i] + 2) (d + sub i)), nw ++ [mnN (mnN r row[i] + 2) (d + sub i)], by simp [h1], ?_, ?_⟩
    · unfold inS
      rw [h2]
      have g : (toI (nw ++ row.drop i)).getD i 0 = (row[i] : Int) := by
        unfold toI
        rw [e1, List.map_append, List.map_cons, List.getD_eq_getElem?_getD, List.getElem?_append_right (by simp; omega)]
        simp [h1]
      dsimp only
      rw [g]
      have er : mn2 (mn2 (r : Int) (row[i] : Int) + 2) ((d : Int) + (sub i : Int)) = ((mnN (mnN r row[i] + 2) (d + sub i) : Nat) : Int) := by
        rw [mnN_eq, Int.natCast_add, Int.natCast_add, mnN_eq]; rfl
      rw [er]
      generalize mnN (mnN r row[i] + 2) (d + sub i) = r'
      refine Prod.ext rfl (Prod.ext rfl (Prod.ext ?_ ?_))
      · show (if (r' : Int) < m then (r' : Int) else m) = _
        rw [mnN_eq]; rfl
      · show (toI (nw ++ row.drop i)).set i (r' : Int) = _
        unfold toI
        rw [e1]
        rw [List.map_append, List.map_cons, List.set_append_right _ _ (by simp; omega)]
        simp [h1]
    · rw [h3]
      simp
theorem row_eq (sub : Nat → Nat) (row : List Nat) (base n : Nat) (hn : row.length = n) : ∃ d : Int, inS (fun i => (sub i : Int)) (toI row) base n = (d, ((rowF ((List.range n).map sub) row base base 9223372036854775807).1 : Int), ((rowF ((List.range n).map sub) row base base 9223372036854775807).2.1 : Int), toI (rowF ((List.range n).map sub) row base base 9223372036854775807).2.2) := by
  obtain ⟨d, r, m, nw, h1, h2, h3⟩ := row_go sub row base n hn n (Nat.le_refl _)
  have e1 : row.drop n = [] := by rw [List.drop_eq_nil_iff]; omega
  have e2 : ((List.range n).map sub).drop n = [] := by rw [List.drop_eq_nil_iff]; simp
  rw [e1, e2] at h3
  have e3 : rowF [] [] d r m = (r, m, []) := rfl
  rw [e3] at h3
  refine ⟨d, ?_⟩
  rw [h2, h3, e1]
theorem grid_go (sub : Nat → Nat → Nat) (a b : List Nat) (mx : Nat) : ∀ (bs : List Nat) (j : Nat) (row : List Nat) (res : Nat), b.drop j = bs → j + bs.length = b.length → row.length = a.length →
    outS (fun j i => (sub (b.getD j 0) (a.getD i 0) : Int)) a.length j = ((res : Int), toI row) →
    (gridF sub a mx bs j row res : Int) = if (List.range' j bs.length).any (fun j => decide ((mx : Int) < minS (fun j i => (sub (b.getD j 0) (a.getD i 0) : Int)) a.length j)) then (mx : Int) + 1 else (outS (fun j i => (sub (b.getD j 0) (a.getD i 0) : Int)) a.length b.length).1
  | [], j, row, res, h1, h2, h3, h4 => by
    have : j = b.length := by simpa using h2
    subst this
    rw [h4]; rfl
  | c :: bs, j, row, res, h1, h2, h3, h4 => by
    have hj : j < b.length := by simp at h2; omega
    have hc : b.getD j 0 = c := by
      have := congrArg (fun l => l[0]?) h1
      simp only [List.getElem?_drop, Nat.add_zero, List.getElem?_cons_zero] at this
      rw [List.getD_eq_getElem?_getD, this]; rfl
    have hsub : (a.map (sub c)) = (List.range a.length).map fun i => sub (b.getD j 0) (a.getD i 0) := by
      rw [hc]
      apply List.ext_getElem
      · simp
      · intro i h1 h2
        simp at h1
        simp [h1]
    obtain ⟨d, hrow⟩ := row_eq (fun i => sub (b.getD j 0) (a.getD i 0)) row (j * 2) a.length h3
    rw [← hsub] at hrow
    have hlen := outS_len (fun j i => (sub (b.getD j 0) (a.getD i 0) : Int)) a.length (j + 1)
    have hmin : minS (fun j i => (sub (b.getD j 0) (a.getD i 0) : Int)) a.length j = ((rowF (a.map (sub c)) row (j * 2) (j * 2) 9223372036854775807).2.1 : Int) := by
      unfold minS
      rw [h4]
      show (inS (fun i => (sub (b.getD j 0) (a.getD i 0) : Int)) (toI row) ((j : Int) * 2) a.length).2.2.1 = _
      have : ((j : Int) * 2) = ((j * 2 : Nat) : Int) := by push_cast; rfl
      rw [this, hrow]
    have hout : outS (fun j i => (sub (b.getD j 0) (a.getD i 0) : Int)) a.length (j + 1) = (((rowF (a.map (sub c)) row (j * 2) (j * 2) 9223372036854775807).1 : Int), toI (rowF (a.map (sub c)) row (j * 2) (j * 2) 9223372036854775807).2.2) := by
      show ((inS (fun i => (sub (b.getD j 0) (a.getD i 0) : Int)) (outS _ a.length j).2 ((j : Int) * 2) a.length).2.1, (inS (fun i => (sub (b.getD j 0) (a.getD i 0) : Int)) (outS _ a.length j).2 ((j : Int) * 2) a.length).2.2.2) = _
      rw [h4]
      show ((inS (fun i => (sub (b.getD j 0) (a.getD i 0) : Int)) (toI row) ((j : Int) * 2) a.length).2.1, (inS (fun i => (sub (b.getD j 0) (a.getD i 0) : Int)) (toI row) ((j : Int) * 2) a.length).2.2.2) = _
      have : ((j : Int) * 2) = ((j * 2 : Nat) : Int) := by push_cast; rfl
      rw [this, hrow]
    show ((match rowF (a.map (sub c)) row (j * 2) (j * 2) 9223372036854775807 with | (r, m, row') => cond (Nat.blt mx m) (mx + 1) (gridF sub a mx bs (j + 1) row' r) : Nat) : Int) = _
    rw [List.length_cons, List.range'_succ, List.any_cons, hmin]
    rw [hout] at hlen
    generalize rowF (a.map (sub c)) row (j * 2) (j * 2) 9223372036854775807 = t at hout hlen ⊢
    obtain ⟨r, m, row'⟩ := t
    dsimp only at hout hlen ⊢
    by_cases hm : mx < m
    · have e : Nat.blt mx m = true := bltt hm
      have e2 : decide ((mx : Int) < (m : Int)) = true := by simpa using hm
      rw [e, e2, Bool.true_or, if_pos rfl]; rfl
    · have e : Nat.blt mx m = false := bltf hm
      have e2 : decide ((mx : Int) < (m : Int)) = false := by simpa using hm
      rw [e, e2, Bool.false_or]
      refine grid_go sub a b mx bs (j + 1) row' r ?_ (by simp at h2; omega) (by simpa [toI] using hlen) hout
      rw [← List.drop_drop, h1]; rfl
theorem pair_eq (sub : Nat → Nat → Nat) (a b : List Nat) (mx : Nat) : pairP (fun i j => (sub i j : Int)) a b mx = (pairF sub a b mx : Int) := by
  unfold pairP pairF
  by_cases h : ((b.length : Int) - a.length) * 2 > mx
  · have e : Nat.blt (mx + a.length * 2) (b.length * 2) = true := bltt (by omega)
    rw [if_pos h, e]; rfl
  · have e : Nat.blt (mx + a.length * 2) (b.length * 2) = false := bltf (by omega)
    rw [if_neg h, e]
    show _ = ((gridF sub a mx b 0 ((List.range a.length).map fun i => 2 + i * 2) 0 : Nat) : Int)
    rw [grid_go sub a b mx b 0 _ 0 rfl (by simp) (by simp) (by
      show ((0 : Int), (List.range a.length).map fun i => ((2 + i * 2 : Nat) : Int)) = _
      unfold toI
      rw [List.map_map]; rfl)]
    unfold gridP overS
    rw [List.range_eq_range']
theorem core_eq (sub : Nat → Nat → Nat) (a b : List Nat) (mx : Nat) : coreP (fun i j => (sub i j : Int)) a b mx = (coreF sub a b mx : Int) := by
  unfold coreP coreF
  by_cases h0 : a = [] ∨ b = []
  · have e : (a.isEmpty || b.isEmpty) = true := by rcases h0 with h | h <;> simp [h]
    rw [if_pos h0, e]
    show _ = ((2 * (a.length + b.length) : Nat) : Int)
    push_cast; rfl
  · have e : (a.isEmpty || b.isEmpty) = false := by
      rw [not_or] at h0
      cases a with
      | nil => exact absurd rfl h0.1
      | cons _ _ => cases b with
        | nil => exact absurd rfl h0.2
        | cons _ _ => rfl
    rw [if_neg h0, e]
    by_cases h1 : a.length > 40 ∨ b.length > 40
    · have e1 : (Nat.blt 40 a.length || Nat.blt 40 b.length) = true := by rw [Bool.or_eq_true, Nat.blt_eq, Nat.blt_eq]; omega
      rw [if_pos h1]
      show _ = ((cond (Nat.blt 40 a.length || Nat.blt 40 b.length) _ _ : Nat) : Int)
      rw [e1]; rfl
    · have e1 : (Nat.blt 40 a.length || Nat.blt 40 b.length) = false := by rw [bltf (by omega), bltf (by omega)]; rfl
      rw [if_neg h1]
      show _ = ((cond (Nat.blt 40 a.length || Nat.blt 40 b.length) _ _ : Nat) : Int)
      rw [e1]
      by_cases h2 : b.length < a.length
      · have e2 : Nat.blt b.length a.length = true := bltt h2
        rw [if_pos h2, pair_eq]
        show _ = ((cond (Nat.blt b.length a.length) _ _ : Nat) : Int)
        rw [e2]; rfl
      · have e2 : Nat.blt b.length a.length = false := bltf h2
        rw [if_neg h2, pair_eq]
        show _ = ((cond (Nat.blt b.length a.length) _ _ : Nat) : Int)
        rw [e2]; rfl
theorem lev_eq (sub : Nat → Nat → Nat) (a b : List Nat) (mx : Nat) : levP (fun i j => (sub i j : Int)) a b mx = (levF sub a b mx : Int) := by
  unfold levP levF
  by_cases h : a = b
  · rw [if_pos h, (beq_iff_eq (a := a) (b := b)).mpr h]; rfl
  · rw [if_neg h, beq_false_of_ne h]
    exact core_eq sub _ _ mx
end
section
set_option Elab.async false
set_option linter.unusedVariables false
set_option maxRecDepth 100000
-- law 02: rows, wants, rests by tokens: 0 1 2 figures, 3 and 4 the strokes, 5 the =, 6 the dots (a figure not asked)
noncomputable def pairQ (q i j : Nat) : Bool := q != 0 && Nat.blt i 3 && Nat.blt j 3 && Nat.beq (i + j) q
noncomputable def subQ (q i j : Nat) : Nat := cond (Nat.beq i j) 0 (cond (pairQ q i j) 1 2)
noncomputable def lineT (r : List Nat) : List Nat := [r.getD 0 0, 3, r.getD 1 0, 4, r.getD 2 0]
noncomputable def pieceT (t : Nat) : List Nat := if t = 6 then [] else [t]
noncomputable def restT (p : List Nat) : List Nat := pieceT (p.getD 0 0) ++ ([3] ++ (pieceT (p.getD 1 0) ++ ([4] ++ pieceT (p.getD 2 0))))
noncomputable def lessQ (q a b : Nat) : Nat := cond (Nat.beq b 6) 0 (cond (Nat.beq a b) 2 (cond (pairQ q a b) 1 0))
noncomputable def dueQ (q : Nat) (r p : List Nat) : Nat := 6 - (lessQ q (r.getD 0 0) (p.getD 0 0) + lessQ q (r.getD 1 0) (p.getD 1 0) + lessQ q (r.getD 2 0) (p.getD 2 0))
noncomputable def allN (l : List Nat) : List (List Nat) := l.flatMap fun a => l.flatMap fun b => l.map fun c => [a, b, c]
theorem allN_mem {l : List Nat} {a b c : Nat} (ha : a ∈ l) (hb : b ∈ l) (hc : c ∈ l) : [a, b, c] ∈ allN l := by
  unfold allN
  exact List.mem_flatMap.mpr ⟨a, ha, List.mem_flatMap.mpr ⟨b, hb, List.mem_map.mpr ⟨c, hc, rfl⟩⟩⟩
theorem allN_of {l r : List Nat} (h : r ∈ allN l) : ∃ a b c, r = [a, b, c] ∧ a ∈ l ∧ b ∈ l ∧ c ∈ l := by
  unfold allN at h
  obtain ⟨a, ha, h⟩ := List.mem_flatMap.mp h
  obtain ⟨b, hb, h⟩ := List.mem_flatMap.mp h
  obtain ⟨c, hc, rfl⟩ := List.mem_map.mp h
  exact ⟨a, b, c, rfl, ha, hb, hc⟩
noncomputable abbrev figs : List Nat := [0, 1, 2]
noncomputable abbrev asks : List Nat := [0, 1, 2, 6]
noncomputable def okT (a b : Nat) : Bool := Nat.beq b 6 || Nat.beq a b
noncomputable def heldT (r p : List Nat) : Bool := okT (r.getD 0 0) (p.getD 0 0) && okT (r.getD 1 0) (p.getD 1 0) && okT (r.getD 2 0) (p.getD 2 0)
noncomputable def factE (a : Nat) : Bool := figs.all fun b => figs.all fun c => (allN asks).all fun p => emP (cutAt 6 (lineT p)) (lineT [a, b, c]) == heldT [a, b, c] p
theorem fE0 : factE 0 = true := by decide +kernel
theorem fE1 : factE 1 = true := by decide +kernel
theorem fE2 : factE 2 = true := by decide +kernel
theorem em_row {r p : List Nat} (hr : r ∈ allN figs) (hp : p ∈ allN asks) : emP (cutAt 6 (lineT p)) (lineT r) = heldT r p := by
  obtain ⟨a, b, c, rfl, ha, hb, hc⟩ := allN_of hr
  have h : factE a = true := by
    simp only [List.mem_cons, List.not_mem_nil, or_false] at ha
    rcases ha with rfl | rfl | rfl
    · exact fE0
    · exact fE1
    · exact fE2
  exact eq_of_beq (List.all_eq_true.mp (List.all_eq_true.mp (List.all_eq_true.mp h b hb) c hc) p hp)
-- the distance of a line and a rest
noncomputable def factL (q : Nat) (r : List Nat) : Bool := (allN asks).all fun p => Nat.beq (levF (subQ q) (lineT r) (restT p) (dueQ q r p)) (dueQ q r p)
theorem fL00 : factL 0 [0, 0, 0] = true := by decide +kernel
theorem fL01 : factL 0 [0, 0, 1] = true := by decide +kernel
theorem fL02 : factL 0 [0, 1, 0] = true := by decide +kernel
theorem fL03 : factL 0 [0, 1, 1] = true := by decide +kernel
theorem fL04 : factL 0 [0, 1, 2] = true := by decide +kernel
theorem fL10 : factL 1 [0, 0, 0] = true := by decide +kernel
theorem fL11 : factL 1 [0, 0, 1] = true := by decide +kernel
theorem fL12 : factL 1 [0, 1, 0] = true := by decide +kernel
theorem fL13 : factL 1 [0, 1, 1] = true := by decide +kernel
theorem fL14 : factL 1 [0, 1, 2] = true := by decide +kernel
theorem fL20 : factL 2 [0, 0, 0] = true := by decide +kernel
theorem fL21 : factL 2 [0, 0, 1] = true := by decide +kernel
theorem fL22 : factL 2 [0, 1, 0] = true := by decide +kernel
theorem fL23 : factL 2 [0, 1, 1] = true := by decide +kernel
theorem fL24 : factL 2 [0, 1, 2] = true := by decide +kernel
theorem fL30 : factL 3 [0, 0, 0] = true := by decide +kernel
theorem fL31 : factL 3 [0, 0, 1] = true := by decide +kernel
theorem fL32 : factL 3 [0, 1, 0] = true := by decide +kernel
theorem fL33 : factL 3 [0, 1, 1] = true := by decide +kernel
theorem fL34 : factL 3 [0, 1, 2] = true := by decide +kernel
theorem all5 {P : List Nat → Bool} {a b c d e : List Nat} (h1 : P a = true) (h2 : P b = true) (h3 : P c = true) (h4 : P d = true) (h5 : P e = true) : ∀ r ∈ [a, b, c, d, e], P r = true := by
  intro r hr
  simp only [List.mem_cons, List.not_mem_nil, or_false] at hr
  rcases hr with rfl | rfl | rfl | rfl | rfl
  · exact h1
  · exact h2
  · exact h3
  · exact h4
  · exact h5
theorem lev_norm {q : Nat} (hq : q < 4) : ∀ r ∈ [[0, 0, 0], [0, 0, 1], [0, 1, 0], [0, 1, 1], [0, 1, 2]], factL q r = true := by
  match q, hq with
  | 0, _ => exact all5 fL00 fL01 fL02 fL03 fL04
  | 1, _ => exact all5 fL10 fL11 fL12 fL13 fL14
  | 2, _ => exact all5 fL20 fL21 fL22 fL23 fL24
  | 3, _ => exact all5 fL30 fL31 fL32 fL33 fL34
-- the figures' names turned
noncomputable def perms : List (List Nat) := [[0, 1, 2], [0, 2, 1], [1, 0, 2], [1, 2, 0], [2, 0, 1], [2, 1, 0]]
noncomputable def permF (π : List Nat) (t : Nat) : Nat := cond (Nat.blt t 3) (π.getD t 0) t
noncomputable def qP (π : List Nat) (q : Nat) : Nat := match q with
  | 0 => 0
  | 1 => π.getD 0 0 + π.getD 1 0
  | 2 => π.getD 0 0 + π.getD 2 0
  | _ => π.getD 1 0 + π.getD 2 0
theorem perm_norm : ((allN figs).all fun r => perms.any fun π => [[0, 0, 0], [0, 0, 1], [0, 1, 0], [0, 1, 1], [0, 1, 2]].contains (r.map (permF π))) = true := by decide +kernel
noncomputable def permB (π : List Nat) (q : Nat) : Bool := Nat.blt (qP π q) 4 && (List.range 7).all fun i => (List.range 7).all fun j =>
  Nat.beq (subQ (qP π q) (permF π i) (permF π j)) (subQ q i j) && Nat.beq (lessQ (qP π q) (permF π i) (permF π j)) (lessQ q i j) && (Nat.beq i j || !(Nat.beq (permF π i) (permF π j)))
theorem perm_ok : (perms.all fun π => (List.range 4).all fun q => permB π q) = true := by decide +kernel
theorem perm_in : (perms.all fun π => figs.all fun t => figs.contains (permF π t)) = true := by decide +kernel
theorem permF_ge {π : List Nat} {t : Nat} (h : 3 ≤ t) : permF π t = t := by
  unfold permF; rw [bltf (by omega)]; rfl
theorem line_map (f : Nat → Nat) (r : List Nat) (h3 : f 3 = 3) (h4 : f 4 = 4) {a b c : Nat} (hr : r = [a, b, c]) : (lineT r).map f = lineT (r.map f) := by
  subst hr; simp [lineT, h3, h4]
theorem lev_rest {q : Nat} (hq : q < 4) {r p : List Nat} (hr : r ∈ allN figs) (hp : p ∈ allN asks) : levP (fun i j => (subQ q i j : Int)) (lineT r) (restT p) (dueQ q r p : Nat) = (dueQ q r p : Nat) := by
  have h1 := List.all_eq_true.mp perm_norm r hr
  obtain ⟨π, hπ, h2⟩ := List.any_eq_true.mp h1
  have h3 := List.all_eq_true.mp (List.all_eq_true.mp perm_ok π hπ) q (List.mem_range.mpr hq)
  unfold permB at h3
  rw [Bool.and_eq_true] at h3
  obtain ⟨h3, h4⟩ := h3
  have h4' : ∀ i < 7, ∀ j < 7, subQ (qP π q) (permF π i) (permF π j) = subQ q i j ∧ lessQ (qP π q) (permF π i) (permF π j) = lessQ q i j ∧ (permF π i = permF π j → i = j) := by
    intro i hi j hj
    have h5 := List.all_eq_true.mp (List.all_eq_true.mp h4 i (List.mem_range.mpr hi)) j (List.mem_range.mpr hj)
    simp only [Bool.and_eq_true, Bool.or_eq_true, Bool.not_eq_true'] at h5
    obtain ⟨⟨h6, h7⟩, h8⟩ := h5
    refine ⟨Nat.eq_of_beq_eq_true h6, Nat.eq_of_beq_eq_true h7, fun e => ?_⟩
    rcases h8 with h8 | h8
    · exact Nat.eq_of_beq_eq_true h8
    · rw [e] at h8
      have := Nat.beq_refl (permF π j)
      rw [this] at h8; cases h8
  have hq' : qP π q < 4 := by rw [Nat.blt_eq] at h3; exact h3
  have hin : ∀ t ∈ figs, permF π t ∈ figs := fun t ht => by
    have := List.all_eq_true.mp (List.all_eq_true.mp perm_in π hπ) t ht
    exact List.contains_iff_mem.mp this
  have h33 : permF π 3 = 3 := permF_ge (by omega)
  have h34 : permF π 4 = 4 := permF_ge (by omega)
  have h36 : permF π 6 = 6 := permF_ge (by omega)
  have lt3 : ∀ t ∈ figs, t < 7 := by decide
  have lt6 : ∀ t ∈ asks, t < 7 := by decide
  have hask : ∀ t ∈ asks, t ∈ figs ∨ t = 6 := by decide
  have hp' : p.map (permF π) ∈ allN asks := by
    obtain ⟨a, b, c, rfl, ha, hb, hc⟩ := allN_of hp
    have key : ∀ t ∈ asks, permF π t ∈ asks := fun t ht => by
      rcases hask t ht with h | rfl
      · exact (by decide : ∀ t ∈ figs, t ∈ asks) _ (hin t h)
      · rw [h36]; decide
    exact allN_mem (key a ha) (key b hb) (key c hc)
  have hf := List.all_eq_true.mp (lev_norm hq' _ (List.contains_iff_mem.mp h2)) _ hp'
  replace hf := Nat.eq_of_beq_eq_true hf
  have hdue : dueQ (qP π q) (r.map (permF π)) (p.map (permF π)) = dueQ q r p := by
    obtain ⟨a, b, c, rfl, ha, hb, hc⟩ := allN_of hr
    obtain ⟨x, y, z, rfl, hx, hy, hz⟩ := allN_of hp
    unfold dueQ
    simp only [List.map_cons, List.map_nil, List.getD_cons_zero, List.getD_cons_succ]
    rw [(h4' a (lt3 a ha) x (lt6 x hx)).2.1, (h4' b (lt3 b hb) y (lt6 y hy)).2.1, (h4' c (lt3 c hc) z (lt6 z hz)).2.1]
  rw [hdue] at hf
  have hl : (lineT r).map (permF π) = lineT (r.map (permF π)) := by
    obtain ⟨a, b, c, rfl, ha, hb, hc⟩ := allN_of hr
    exact line_map _ _ h33 h34 rfl
  have hrest : (restT p).map (permF π) = restT (p.map (permF π)) := by
    obtain ⟨x, y, z, rfl, hx, hy, hz⟩ := allN_of hp
    have key : ∀ t ∈ asks, (pieceT t).map (permF π) = pieceT (permF π t) := fun t ht => by
      rcases hask t ht with h | rfl
      · have h1 := hin t h
        have n1 : t ≠ 6 := by rintro rfl; revert h; decide
        have n2 : permF π t ≠ 6 := by intro e; rw [e] at h1; revert h1; decide
        unfold pieceT
        rw [if_neg n1, if_neg n2]; rfl
      · rw [h36]; rfl
    unfold restT
    simp only [List.map_append, List.map_cons, List.map_nil, List.getD_cons_zero, List.getD_cons_succ, h33, h34, key x hx, key y hy, key z hz]
  have hl7 : ∀ t ∈ lineT r, t < 7 := by
    obtain ⟨a, b, c, rfl, ha, hb, hc⟩ := allN_of hr
    intro t ht
    simp only [lineT, List.getD_cons_zero, List.getD_cons_succ, List.mem_cons, List.not_mem_nil, or_false] at ht
    rcases ht with rfl | rfl | rfl | rfl | rfl
    · exact lt3 _ ha
    · decide
    · exact lt3 _ hb
    · decide
    · exact lt3 _ hc
  have hr7 : ∀ t ∈ restT p, t < 7 := by
    obtain ⟨x, y, z, rfl, hx, hy, hz⟩ := allN_of hp
    have key : ∀ u ∈ asks, ∀ t ∈ pieceT u, t < 7 := by decide
    intro t ht
    simp only [restT, List.getD_cons_zero, List.getD_cons_succ, List.mem_append, List.mem_singleton] at ht
    rcases ht with h | rfl | h | rfl | h
    · exact key _ hx t h
    · decide
    · exact key _ hy t h
    · decide
    · exact key _ hz t h
  have hm := lev_map (f := permF π) (D := (· < 7)) (fun i j hi hj => (h4' i hi j hj).2.2) (sub := fun i j => (subQ (qP π q) i j : Int)) (sub' := fun i j => (subQ q i j : Int)) (fun i j hi hj => by show ((subQ (qP π q) (permF π i) (permF π j) : Nat) : Int) = _; rw [(h4' i hi j hj).1]) hl7 hr7 (dueQ q r p : Nat)
  rw [← hm, hl, hrest, lev_eq, hf]
-- the other distances
noncomputable def factH (q : Nat) (r : List Nat) : Bool := Nat.beq (levF (subQ q) (lineT r) [r.getD 0 0, 3] 4) 6 && Nat.beq (levF (subQ q) (lineT r) [4, r.getD 2 0] 4) 6 && Nat.beq (levF (subQ q) [r.getD 0 0, 3, 5] [5, r.getD 0 0, 3] 4) 4
theorem fH : ((List.range 4).all fun q => (allN figs).all fun r => factH q r) = true := by decide +kernel
end
section
set_option Elab.async false
set_option linter.unusedVariables false
set_option maxRecDepth 100000
-- rows as the law makes them
noncomputable def rowT (n b : Nat) : List Nat := [n % b, n / b % b, n / b / b % b]
noncomputable def mixT (b : Nat) (f s : List Nat) (x y : Nat) : List Nat := [(x * f.getD 0 0 + y * s.getD 0 0) % b, (x * f.getD 1 0 + y * s.getD 1 0) % b, (x * f.getD 2 0 + y * s.getD 2 0) % b]
noncomputable def addT (L : List (List Nat)) (r : List Nat) : List (List Nat) := if L.contains r then L else L ++ [r]
noncomputable def lotJ (b : Nat) (f s : List Nat) (x : Nat) (L : List (List Nat)) (j : Nat) : List (List Nat) := (List.range j).foldl (fun L y => addT L (mixT b f s x y)) L
noncomputable def lotI (b : Nat) (f s : List Nat) (i : Nat) : List (List Nat) := (List.range i).foldl (fun L x => lotJ b f s x L b) []
noncomputable def lotT (b : Nat) (f s : List Nat) : List (List Nat) := lotI b f s b
noncomputable def dotT (b : Nat) (u r : List Nat) : Nat := (u.getD 0 0 * r.getD 0 0 + u.getD 1 0 * r.getD 1 0 + u.getD 2 0 * r.getD 2 0) % b
noncomputable def acrossI (b : Nat) (f s : List Nat) (i : Nat) : List (List Nat) := ((List.range i).map fun n => rowT n b).filter fun r => dotT b f r == 0 && dotT b s r == 0
noncomputable def acrossT (b : Nat) (f s : List Nat) : List (List Nat) := acrossI b f s (b ^ 3)
noncomputable def placesT (ch : Nat) : List Nat := (List.range 3).filter fun k => ch / 2 ^ k % 2 == 1
noncomputable def askT (m : List Nat) (ch : Nat) : List Nat := [if ch % 2 = 1 then m.getD 0 0 else 6, if ch / 2 % 2 = 1 then m.getD 1 0 else 6, if ch / 4 % 2 = 1 then m.getD 2 0 else 6]
noncomputable def cntT (rows : List (List Nat)) (m : List Nat) (ch : Nat) : Nat := (rows.filter fun r => heldT r (askT m ch)).length
-- the same by numbers
noncomputable def mixN (b F s x y : Nat) : Nat :=
  Nat.add (Nat.mod (Nat.add (Nat.mul x (Nat.mod F b)) (Nat.mul y (Nat.mod s b))) b) (Nat.add (Nat.mul b (Nat.mod (Nat.add (Nat.mul x (Nat.mod (Nat.div F b) b)) (Nat.mul y (Nat.mod (Nat.div s b) b))) b))
    (Nat.mul (Nat.mul b b) (Nat.mod (Nat.add (Nat.mul x (Nat.mod (Nat.div (Nat.div F b) b) b)) (Nat.mul y (Nat.mod (Nat.div (Nat.div s b) b) b))) b)))
noncomputable def dotN (b u r : Nat) : Nat :=
  Nat.mod (Nat.add (Nat.add (Nat.mul (Nat.mod u b) (Nat.mod r b)) (Nat.mul (Nat.mod (Nat.div u b) b) (Nat.mod (Nat.div r b) b))) (Nat.mul (Nat.mod (Nat.div (Nat.div u b) b) b) (Nat.mod (Nat.div (Nat.div r b) b) b))) b
noncomputable def maskL : List Nat → Nat
  | [] => 0
  | c :: l => Nat.lor (Nat.pow 2 c) (maskL l)
noncomputable def bitN (m n : Nat) : Bool := Nat.beq (Nat.mod (Nat.shiftRight m n) 2) 1
noncomputable def mixes (b F s : Nat) : List Nat := (List.range b).flatMap fun x => (List.range b).map fun y => mixN b F s x y
noncomputable def spanM (b F s : Nat) : Nat := maskL (mixes b F s)
noncomputable def acrL (b F s : Nat) : List Nat := (List.range (b ^ 3)).filter fun n => Nat.beq (dotN b F n) 0 && Nat.beq (dotN b s n) 0
noncomputable def acrM (b F s : Nat) : Nat := maskL (acrL b F s)
theorem bit_mask : ∀ (l : List Nat) (n : Nat), bitN (maskL l) n = l.contains n
  | [], n => by
    unfold bitN maskL
    show Nat.beq (Nat.mod (0 >>> n) 2) 1 = _
    rw [Nat.zero_shiftRight]; rfl
  | c :: l, n => by
    have ih := bit_mask l n
    have e : ∀ m, bitN m n = m.testBit n := fun m => by
      unfold bitN
      rw [Nat.testBit_eq_decide_div_mod_eq]
      show Nat.beq ((m >>> n) % 2) 1 = _
      rw [Nat.shiftRight_eq_div_pow, Bool.eq_iff_iff, decide_eq_true_iff]
      exact ⟨Nat.eq_of_beq_eq_true, fun h => by rw [h]; rfl⟩
    rw [e] at ih ⊢
    unfold maskL
    show ((2 ^ c) ||| maskL l).testBit n = _
    rw [Nat.testBit_or, ih, Nat.testBit_two_pow, List.contains_cons]
    have h : decide (c = n) = (n == c) := by
      by_cases h : c = n
      · rw [decide_eq_true h, h, beq_self_eq_true]
      · rw [decide_eq_false h, beq_false_of_ne fun e => h e.symm]
    rw [h]
noncomputable def codes2 : List (Nat × Nat) := [(3, 85), (5, 51), (9, 153), (15, 17), (17, 15), (33, 165), (51, 5), (65, 195), (85, 3), (105, 129), (129, 105), (153, 9), (165, 33), (195, 65)]
noncomputable def codes3 : List (Nat × Nat) := [(7, 19173961), (73, 1838599), (161, 71705361), (273, 42287777), (511, 262657), (262657, 511), (526337, 76620873), (1049601, 38422601), (1838599, 73), (2129921, 117469191), (4325377, 22156449), (8454145, 25762065), (14909447, 16781313), (16781313, 14909447), (19173961, 7), (22156449, 4325377), (25762065, 8454145), (33570817, 36750609), (36750609, 33570817), (38422601, 1049601), (42287777, 273), (67117057, 69773473), (69773473, 67117057), (71705361, 161), (76620873, 526337), (117469191, 2129921)]
noncomputable def codesB (b : Nat) : List (Nat × Nat) := match b with
  | 2 => codes2
  | _ => codes3
noncomputable def spanB (b F s : Nat) : Bool := match spanM b F s, acrM b F s with
  | lm, am => (codesB b).any fun c => Nat.beq lm c.1 && Nat.beq am c.2
theorem span2 : ((List.range 7).all fun F => (List.range 8).all fun s => spanB 2 (F + 1) s) = true := by decide +kernel
theorem span3a : ((List.range 9).all fun F => (List.range 27).all fun s => spanB 3 (F + 1) s) = true := by decide +kernel
theorem span3b : ((List.range 9).all fun F => (List.range 27).all fun s => spanB 3 (F + 10) s) = true := by decide +kernel
theorem span3c : ((List.range 8).all fun F => (List.range 27).all fun s => spanB 3 (F + 19) s) = true := by decide +kernel
noncomputable def heldN (b n m k : Nat) : Bool := (Nat.beq (Nat.mod k 2) 0 || Nat.beq (Nat.mod n b) (Nat.mod m b)) && ((Nat.beq (Nat.mod (Nat.div k 2) 2) 0 || Nat.beq (Nat.mod (Nat.div n b) b) (Nat.mod (Nat.div m b) b)) &&
  (Nat.beq (Nat.mod (Nat.div k 4) 2) 0 || Nat.beq (Nat.mod (Nat.div (Nat.div n b) b) b) (Nat.mod (Nat.div (Nat.div m b) b) b)))
noncomputable def mem27 (b m : Nat) : List Nat := (List.range (b ^ 3)).filter fun n => bitN m n
noncomputable def cntN (b : Nat) (l : List Nat) (m k : Nat) : Nat := (l.filter fun n => heldN b n m k).length
noncomputable def sizeN (b k : Nat) : Nat := b ^ (placesT k).length
noncomputable def macC (b : Nat) (c : Nat × Nat) : Bool := match mem27 b c.1, mem27 b c.2 with
  | lot, acr => (List.range 8).all fun k => match cntN b lot 0 k, cntN b acr 0 k, cntN b acr 0 (7 - k) with
    | z, zk, zc => Nat.beq (Nat.mul z (sizeN b k)) (Nat.mul lot.length zc) && (lot.all fun m => Nat.beq (cntN b lot m k) z) && acr.all fun m => Nat.beq (cntN b acr m k) zk
theorem mac2 : (codes2.all fun c => macC 2 c) = true := by decide +kernel
theorem mac3 : (codes3.all fun c => macC 3 c) = true := by decide +kernel
end
section
set_option Elab.async false
set_option linter.unusedVariables false
set_option maxRecDepth 100000
theorem base_or {b : Nat} (h : b = 2 ∨ b = 3) : 0 < b ∧ b ≤ 3 := by omega
theorem rowT_num {b u v w : Nat} (hb : b = 2 ∨ b = 3) (hu : u < b) (hv : v < b) (hw : w < b) : rowT (u + (b * v + b * b * w)) b = [u, v, w] := by
  have h0 : 0 < b := Nat.lt_of_le_of_lt (Nat.zero_le _) hu
  have e : u + (b * v + b * b * w) = u + b * (v + b * w) := by rw [Nat.mul_add, Nat.mul_assoc]
  unfold rowT
  rw [e, Nat.add_mul_mod_self_left, Nat.mod_eq_of_lt hu, Nat.add_mul_div_left _ _ h0, Nat.div_eq_of_lt hu, Nat.zero_add, Nat.add_mul_mod_self_left, Nat.mod_eq_of_lt hv, Nat.add_mul_div_left _ _ h0, Nat.div_eq_of_lt hv, Nat.zero_add, Nat.mod_eq_of_lt hw]
theorem num_lt {b u v w : Nat} (hb : b = 2 ∨ b = 3) (hu : u < b) (hv : v < b) (hw : w < b) : u + (b * v + b * b * w) < b ^ 3 := by
  rcases hb with rfl | rfl <;> omega
theorem mix_num {b : Nat} (hb : b = 2 ∨ b = 3) (F s x y : Nat) : mixT b (rowT F b) (rowT s b) x y = rowT (mixN b F s x y) b := by
  have h0 := (base_or hb).1
  unfold mixN
  exact (rowT_num hb (Nat.mod_lt _ h0) (Nat.mod_lt _ h0) (Nat.mod_lt _ h0)).symm
theorem mix_lt {b : Nat} (hb : b = 2 ∨ b = 3) (F s x y : Nat) : mixN b F s x y < b ^ 3 := by
  have h0 := (base_or hb).1
  unfold mixN
  exact num_lt hb (Nat.mod_lt _ h0) (Nat.mod_lt _ h0) (Nat.mod_lt _ h0)
theorem rowT_inj {b : Nat} (hb : b = 2 ∨ b = 3) {m n : Nat} (hm : m < b ^ 3) (hn : n < b ^ 3) (h : rowT m b = rowT n b) : m = n := by
  have e3 : b ^ 3 = b * b * b := by rw [Nat.pow_succ, Nat.pow_succ, Nat.pow_one]
  have key : ∀ k, k < b ^ 3 → k = k % b + b * (k / b % b + b * (k / b / b % b)) := fun k hk => by
    have h3 : k / b / b < b := by rw [Nat.div_div_eq_div_mul]; exact Nat.div_lt_of_lt_mul (by rw [← e3]; exact hk)
    rw [Nat.mod_eq_of_lt h3, Nat.mod_add_div, Nat.mod_add_div]
  unfold rowT at h
  simp only [List.cons.injEq, and_true] at h
  obtain ⟨h1, h2, h3⟩ := h
  rw [key m hm, key n hn, h1, h2, h3]
theorem rowT_mod {b : Nat} (hb : b = 2 ∨ b = 3) (n : Nat) : rowT n b = rowT (n % b ^ 3) b := by
  have h0 : 0 < b := by rcases hb with rfl | rfl <;> decide
  have e3 : b ^ 3 = b * (b * b) := by rw [Nat.pow_succ, Nat.pow_succ, Nat.pow_one, Nat.mul_comm]
  have e1 : n % b ^ 3 % b = n % b := Nat.mod_mod_of_dvd n ⟨b * b, e3⟩
  have e2 : n % b ^ 3 / b = n / b % (b * b) := by rw [e3, Nat.mod_mul_right_div_self]
  have e4 : n / b % (b * b) % b = n / b % b := Nat.mod_mod_of_dvd _ ⟨b, rfl⟩
  have e5 : n / b % (b * b) / b % b = n / b / b % b := by rw [Nat.mod_mul_right_div_self, Nat.mod_mod]
  unfold rowT
  rw [e1, e2, e4, e5]
-- a list filled without repeats
theorem addT_mem {L : List (List Nat)} {r q : List Nat} : q ∈ addT L r ↔ q ∈ L ∨ q = r := by
  unfold addT
  split
  · rename_i h
    rw [List.contains_iff_mem] at h
    constructor
    · exact .inl
    · rintro (h' | rfl)
      · exact h'
      · exact h
  · simp
theorem addT_nodup {L : List (List Nat)} {r : List Nat} (h : L.Nodup) : (addT L r).Nodup := by
  unfold addT
  split
  · exact h
  · rename_i hc
    rw [List.contains_iff_mem] at hc
    rw [List.nodup_append]
    refine ⟨h, by simp, ?_⟩
    intro a ha b hb e
    rw [List.mem_singleton] at hb
    subst hb e
    exact hc ha
theorem lotJ_mem {b : Nat} {f s : List Nat} {x : Nat} {q : List Nat} : ∀ {j : Nat} {L : List (List Nat)}, q ∈ lotJ b f s x L j ↔ q ∈ L ∨ ∃ y < j, q = mixT b f s x y
  | 0, L => by simp [lotJ]
  | j + 1, L => by
    have e : lotJ b f s x L (j + 1) = addT (lotJ b f s x L j) (mixT b f s x j) := by unfold lotJ; rw [List.range_succ, List.foldl_append]; rfl
    rw [e, addT_mem, lotJ_mem]
    constructor
    · rintro ((h | ⟨y, h1, h2⟩) | h)
      · exact .inl h
      · exact .inr ⟨y, by omega, h2⟩
      · exact .inr ⟨j, by omega, h⟩
    · rintro (h | ⟨y, h1, h2⟩)
      · exact .inl (.inl h)
      · rcases Nat.lt_succ_iff_lt_or_eq.mp h1 with h3 | rfl
        · exact .inl (.inr ⟨y, h3, h2⟩)
        · exact .inr h2
theorem lotJ_nodup {b : Nat} {f s : List Nat} {x : Nat} : ∀ {j : Nat} {L : List (List Nat)}, L.Nodup → (lotJ b f s x L j).Nodup
  | 0, L, h => h
  | j + 1, L, h => by
    have e : lotJ b f s x L (j + 1) = addT (lotJ b f s x L j) (mixT b f s x j) := by unfold lotJ; rw [List.range_succ, List.foldl_append]; rfl
    rw [e]; exact addT_nodup (lotJ_nodup h)
theorem lotI_mem {b : Nat} {f s : List Nat} {q : List Nat} : ∀ {i : Nat}, q ∈ lotI b f s i ↔ ∃ x < i, ∃ y < b, q = mixT b f s x y
  | 0 => by simp [lotI]
  | i + 1 => by
    have e : lotI b f s (i + 1) = lotJ b f s i (lotI b f s i) b := by unfold lotI; rw [List.range_succ, List.foldl_append]; rfl
    rw [e, lotJ_mem, lotI_mem]
    constructor
    · rintro (⟨x, h1, h2⟩ | h)
      · exact ⟨x, by omega, h2⟩
      · exact ⟨i, by omega, h⟩
    · rintro ⟨x, h1, h2⟩
      rcases Nat.lt_succ_iff_lt_or_eq.mp h1 with h3 | rfl
      · exact .inl ⟨x, h3, h2⟩
      · exact .inr h2
theorem lotI_nodup {b : Nat} {f s : List Nat} : ∀ {i : Nat}, (lotI b f s i).Nodup
  | 0 => by simp [lotI]
  | i + 1 => by
    have e : lotI b f s (i + 1) = lotJ b f s i (lotI b f s i) b := by unfold lotI; rw [List.range_succ, List.foldl_append]; rfl
    rw [e]; exact lotJ_nodup lotI_nodup
theorem perm_of_mem {α : Type} {l m : List α} (hl : l.Nodup) (hm : m.Nodup) (h : ∀ a, a ∈ l ↔ a ∈ m) : l.Perm m := (List.perm_ext_iff_of_nodup hl hm).mpr h
theorem nodup_map {α β : Type} {f : α → β} {l : List α} (hl : l.Nodup) (hi : ∀ a ∈ l, ∀ b ∈ l, f a = f b → a = b) : (l.map f).Nodup := by
  induction l with
  | nil => simp
  | cons a l ih =>
    rw [List.nodup_cons] at hl
    rw [List.map_cons, List.nodup_cons]
    refine ⟨fun hm => ?_, ih hl.2 fun x hx y hy => hi x (.tail _ hx) y (.tail _ hy)⟩
    obtain ⟨c, hc, e⟩ := List.mem_map.mp hm
    have := hi c (.tail _ hc) a (.head _) e
    subst this
    exact hl.1 hc
theorem lot_perm {b F s : Nat} (hb : b = 2 ∨ b = 3) : (lotT b (rowT F b) (rowT s b)).Perm ((mem27 b (spanM b F s)).map fun n => rowT n b) := by
  have hN : (mem27 b (spanM b F s)).Nodup := List.Pairwise.filter _ List.nodup_range
  have hlt : ∀ n ∈ mem27 b (spanM b F s), n < b ^ 3 := fun n hn => List.mem_range.mp (List.mem_filter.mp hn).1
  refine perm_of_mem lotI_nodup (nodup_map hN fun m hm n hn e => rowT_inj hb (hlt m hm) (hlt n hn) e) fun q => ?_
  unfold lotT
  rw [lotI_mem, List.mem_map]
  constructor
  · rintro ⟨x, hx, y, hy, rfl⟩
    refine ⟨mixN b F s x y, ?_, (mix_num hb F s x y).symm⟩
    unfold mem27
    rw [List.mem_filter]
    refine ⟨List.mem_range.mpr (mix_lt hb F s x y), ?_⟩
    unfold spanM
    rw [bit_mask, List.contains_iff_mem]
    unfold mixes
    exact List.mem_flatMap.mpr ⟨x, List.mem_range.mpr hx, List.mem_map.mpr ⟨y, List.mem_range.mpr hy, rfl⟩⟩
  · rintro ⟨n, hn, rfl⟩
    unfold mem27 at hn
    rw [List.mem_filter] at hn
    have h2 := hn.2
    unfold spanM at h2
    rw [bit_mask, List.contains_iff_mem] at h2
    unfold mixes at h2
    obtain ⟨x, hx, h2⟩ := List.mem_flatMap.mp h2
    obtain ⟨y, hy, rfl⟩ := List.mem_map.mp h2
    exact ⟨x, List.mem_range.mp hx, y, List.mem_range.mp hy, (mix_num hb F s x y).symm⟩
theorem dot_num {b : Nat} (u n : Nat) : dotT b (rowT u b) (rowT n b) = dotN b u n := rfl
theorem acr_eq {b F s : Nat} : acrossT b (rowT F b) (rowT s b) = (mem27 b (acrM b F s)).map fun n => rowT n b := by
  unfold acrossT acrossI mem27
  rw [List.filter_map]
  congr 1
  apply List.filter_congr
  intro n hn
  show (dotT b (rowT F b) (rowT n b) == 0 && dotT b (rowT s b) (rowT n b) == 0) = _
  rw [dot_num, dot_num]
  unfold acrM
  rw [bit_mask]
  unfold acrL
  have e : ∀ x : Nat, (x == 0) = Nat.beq x 0 := fun x => by rw [Bool.eq_iff_iff, beq_iff_eq]; exact ⟨fun h => by rw [h]; rfl, Nat.eq_of_beq_eq_true⟩
  rw [e, e, Bool.eq_iff_iff, List.contains_iff_mem, List.mem_filter]
  constructor
  · intro h; exact ⟨hn, h⟩
  · intro h; exact h.2
theorem held_num {b n m k : Nat} (hb : b = 2 ∨ b = 3) (hk : k < 8) : heldT (rowT n b) (askT (rowT m b) k) = heldN b n m k := by
  have h0 := base_or hb
  have ne : ∀ x, Nat.beq (x % b) 6 = false := fun x => by
    have := Nat.mod_lt x h0.1
    exact Bool.eq_false_iff.mpr fun h => by have := Nat.eq_of_beq_eq_true h; omega
  have bit : ∀ (c u v : Nat), okT (v % b) (if c % 2 = 1 then u % b else 6) = (Nat.beq (c % 2) 0 || Nat.beq (v % b) (u % b)) := by
    intro c u v
    have : c % 2 = 0 ∨ c % 2 = 1 := by omega
    unfold okT
    rcases this with h | h
    · rw [if_neg (by omega), h]; rfl
    · rw [if_pos h, h, ne]; rfl
  exact congr (congrArg and (congr (congrArg and (bit k m n)) (bit (k / 2) (m / b) (n / b)))) (bit (k / 4) (m / b / b) (n / b / b)) |>.trans (Bool.and_assoc _ _ _)
theorem cnt_num {b m k : Nat} {l : List Nat} (hb : b = 2 ∨ b = 3) (hk : k < 8) : cntT (l.map fun n => rowT n b) (rowT m b) k = cntN b l m k := by
  unfold cntT cntN
  rw [List.filter_map, List.length_map]
  congr 1
  apply List.filter_congr
  intro n _
  exact held_num hb hk
theorem cnt_perm {l l' : List (List Nat)} (h : l.Perm l') (m : List Nat) (k : Nat) : cntT l m k = cntT l' m k := (h.filter _).length_eq
theorem span_code {b F s : Nat} (hb : b = 2 ∨ b = 3) (hF : 1 ≤ F) (hF2 : F < b ^ 3) (hs : s < b ^ 3) : ∃ c, macC b c = true ∧ spanM b F s = c.1 ∧ acrM b F s = c.2 := by
  have key : spanB b F s = true ∧ ∀ c ∈ codesB b, macC b c = true := by
    rcases hb with rfl | rfl
    · refine ⟨?_, fun c hc => List.all_eq_true.mp mac2 c hc⟩
      have := List.all_eq_true.mp (List.all_eq_true.mp span2 (F - 1) (List.mem_range.mpr (by omega))) s (List.mem_range.mpr (by omega))
      rwa [Nat.sub_add_cancel hF] at this
    · refine ⟨?_, fun c hc => List.all_eq_true.mp mac3 c hc⟩
      have h27 : (3 : Nat) ^ 3 = 27 := rfl
      rw [h27] at hF2 hs
      by_cases h1 : F < 10
      · have := List.all_eq_true.mp (List.all_eq_true.mp span3a (F - 1) (List.mem_range.mpr (by omega))) s (List.mem_range.mpr (by omega))
        rwa [Nat.sub_add_cancel hF] at this
      · by_cases h2 : F < 19
        · have := List.all_eq_true.mp (List.all_eq_true.mp span3b (F - 10) (List.mem_range.mpr (by omega))) s (List.mem_range.mpr (by omega))
          rwa [Nat.sub_add_cancel (by omega)] at this
        · have := List.all_eq_true.mp (List.all_eq_true.mp span3c (F - 19) (List.mem_range.mpr (by omega))) s (List.mem_range.mpr (by omega))
          rwa [Nat.sub_add_cancel (by omega)] at this
  obtain ⟨c, hc, h⟩ := List.any_eq_true.mp key.1
  rw [Bool.and_eq_true] at h
  exact ⟨c, key.2 c hc, Nat.eq_of_beq_eq_true h.1, Nat.eq_of_beq_eq_true h.2⟩
theorem mac {b F s : Nat} (hb : b = 2 ∨ b = 3) (hF : 1 ≤ F) (hF2 : F < b ^ 3) (hs : s < b ^ 3) {m m' : List Nat} (hm : m ∈ lotT b (rowT F b) (rowT s b)) (hm' : m' ∈ acrossT b (rowT F b) (rowT s b)) {k : Nat} (hk : k < 8) :
    cntT (lotT b (rowT F b) (rowT s b)) m k * b ^ (placesT k).length = (lotT b (rowT F b) (rowT s b)).length * cntT (acrossT b (rowT F b) (rowT s b)) m' (7 - k) := by
  obtain ⟨c, hc, h1, h2⟩ := span_code hb hF hF2 hs
  have hp := lot_perm (F := F) (s := s) hb
  rw [cnt_perm hp, hp.length_eq, List.length_map]
  have hm2 := hp.mem_iff.mp hm
  rw [acr_eq] at hm' ⊢
  rw [h1] at hm2 ⊢
  rw [h2] at hm' ⊢
  obtain ⟨n, hn, rfl⟩ := List.mem_map.mp hm2
  obtain ⟨n', hn', rfl⟩ := List.mem_map.mp hm'
  rw [cnt_num hb hk, cnt_num hb (by omega)]
  have hc : ((List.range 8).all fun k => Nat.beq (Nat.mul (cntN b (mem27 b c.1) 0 k) (sizeN b k)) (Nat.mul (mem27 b c.1).length (cntN b (mem27 b c.2) 0 (7 - k))) && ((mem27 b c.1).all fun m => Nat.beq (cntN b (mem27 b c.1) m k) (cntN b (mem27 b c.1) 0 k)) && (mem27 b c.2).all fun m => Nat.beq (cntN b (mem27 b c.2) m k) (cntN b (mem27 b c.2) 0 k)) = true := hc
  have k1 := List.all_eq_true.mp hc k (List.mem_range.mpr hk)
  have k2 := List.all_eq_true.mp hc (7 - k) (List.mem_range.mpr (by omega))
  rw [Bool.and_eq_true, Bool.and_eq_true] at k1 k2
  have e1 := Nat.eq_of_beq_eq_true (List.all_eq_true.mp k1.1.2 n hn)
  have e2 := Nat.eq_of_beq_eq_true (List.all_eq_true.mp k2.2 n' hn')
  have e3 := Nat.eq_of_beq_eq_true k1.1.1
  rw [e1, e2]
  exact e3
theorem lot_rows {b F s : Nat} (hb : b = 2 ∨ b = 3) : ∀ r ∈ lotT b (rowT F b) (rowT s b), ∃ n, r = rowT n b := by
  intro r hr
  obtain ⟨x, _, y, _, rfl⟩ := lotI_mem.mp hr
  exact ⟨_, mix_num hb F s x y⟩
theorem acr_rows {b F s : Nat} : ∀ r ∈ acrossT b (rowT F b) (rowT s b), ∃ n, r = rowT n b := by
  intro r hr
  rw [acr_eq] at hr
  obtain ⟨n, _, rfl⟩ := List.mem_map.mp hr
  exact ⟨n, rfl⟩
theorem mem27_len (b m : Nat) : (mem27 b m).length ≤ b ^ 3 := by
  unfold mem27
  exact Nat.le_trans (List.length_filter_le _ _) (by simp)
theorem lot_len {b F s : Nat} (hb : b = 2 ∨ b = 3) : 0 < (lotT b (rowT F b) (rowT s b)).length ∧ (lotT b (rowT F b) (rowT s b)).length ≤ 27 := by
  refine ⟨?_, ?_⟩
  · have h0 := (base_or hb).1
    exact List.length_pos_of_mem (lotI_mem.mpr ⟨0, h0, 0, h0, rfl⟩)
  · rw [(lot_perm hb).length_eq, List.length_map]
    refine Nat.le_trans (mem27_len _ _) ?_
    rcases hb with rfl | rfl <;> decide
theorem acr_len {b F s : Nat} (hb : b = 2 ∨ b = 3) : 0 < (acrossT b (rowT F b) (rowT s b)).length ∧ (acrossT b (rowT F b) (rowT s b)).length ≤ 27 := by
  refine ⟨?_, ?_⟩
  · refine List.length_pos_of_mem (a := rowT 0 b) ?_
    unfold acrossT acrossI
    rw [List.mem_filter, List.mem_map]
    refine ⟨⟨0, List.mem_range.mpr (by rcases hb with rfl | rfl <;> decide), rfl⟩, ?_⟩
    unfold dotT rowT
    simp
  · rw [acr_eq, List.length_map]
    refine Nat.le_trans (mem27_len _ _) ?_
    rcases hb with rfl | rfl <;> decide
end
section
open PySem PySem.W PyProof.Rows
set_option Elab.async false
set_option linter.unusedVariables false
set_option maxRecDepth 100000

noncomputable def stAt (v : Program) (i : Nat) : Stmt := v.main.body.getD i default
noncomputable def recOf : Stmt → DefRec
  | .FunctionDef n a b _ _ _ sc _ _ p => ⟨n, a, b, sc, p⟩
  | _ => ⟨default, default, [], default, default⟩
noncomputable def dAt (i : Nat) : DefRec := recOf (stAt hd.view_39 i)

structure IsT (T : TC) : Prop where
  view : T.view = hd.view_39
  loose : T.loose = looseW hd.view_39 []

theorem GlobIs.fn {T : TC} (i : Nat) {x : Str} (hm : dAt i ∈ recsOf hd.view_39) (hx : (dAt i).name = x) (hd : (x == ("__debug__" : Str)) = false) (hT : IsT T) : GlobIs T x (.fn x) := by
  refine ⟨hd, ?_⟩
  obtain ⟨a, o, pm, code, doc, h1, _⟩ := T.top.fn (dAt i) (by rw [hT.view]; exact hm)
  rw [hx] at h1
  exact ⟨_, .inl h1, fun s U => by unfold Rep; exact ⟨a, rfl, h1⟩⟩
theorem GlobIs.int {T : TC} {x : Str} {i : Int} (hv : valOf hd.view_39 x = some (.int i)) (hd : (x == ("__debug__" : Str)) = false) (hT : IsT T) : GlobIs T x (.int i) := by
  refine ⟨hd, ?_⟩
  obtain ⟨v, h1, h2⟩ := T.top.const x _ (by rw [hT.view]; exact hv)
  refine ⟨v, .inl h1, fun s U => ?_⟩
  have := h2 T.h₀
  cases this
  exact Rep.int_
theorem GlobIs.str {T : TC} {x y : Str} {l : List Nat} (hv : valOf hd.view_39 x = some (.str y)) (hy : y = S l) (hL : l.length ≤ 1048576) (hd : (x == ("__debug__" : Str)) = false) (hT : IsT T) : GlobIs T x (.str l) := by
  refine ⟨hd, ?_⟩
  obtain ⟨v, h1, h2⟩ := T.top.const x _ (by rw [hT.view]; exact hv)
  refine ⟨v, .inl h1, fun s U => ?_⟩
  have := h2 T.h₀
  subst hy
  cases this
  exact Rep.str_ hL
theorem GlobIs.raw {T : TC} {x : Str} {v : Value} (hb : bootBuiltins x = some v) (hn : x ≠ "__name__")
    (hf : (decide (x ∉ startupNames) && decide (x ∉ looseW hd.view_39 []) && decide (x ∉ (recsOf hd.view_39).map (·.name)) && decide (x ∉ (litsOf hd.view_39).map (·.1)) && decide (x ∉ (clssOf hd.view_39 (looseW hd.view_39 [])).map (·.name))) = true)
    (hd : (x == ("__debug__" : Str)) = false) (hT : IsT T) : GlobIs T x (.raw v) := by
  refine ⟨hd, v, .inr ⟨?_, (T.top.builtins x hn).trans hb⟩, fun s U => by unfold Rep; rfl⟩
  simp only [Bool.and_eq_true, decide_eq_true_eq] at hf
  obtain ⟨⟨⟨⟨h1, h2⟩, h3⟩, h4⟩, h5⟩ := hf
  refine T.top.free x h1 ?_ ?_ ?_ ?_
  · rw [hT.loose]; exact h2
  · rw [hT.view]; exact h3
  · rw [hT.view]; exact h4
  · rw [hT.view, hT.loose]; exact h5

theorem len1 {α : Type} {P : List α → Prop} (h : ∀ a0, P [a0]) : ∀ l : List α, l.length = 1 → P l
  | [a0], _ => h a0
theorem len2 {α : Type} {P : List α → Prop} (h : ∀ a0 a1, P [a0, a1]) : ∀ l : List α, l.length = 2 → P l
  | [a0, a1], _ => h a0 a1
theorem len3 {α : Type} {P : List α → Prop} (h : ∀ a0 a1 a2, P [a0, a1, a2]) : ∀ l : List α, l.length = 3 → P l
  | [a0, a1, a2], _ => h a0 a1 a2
theorem len4 {α : Type} {P : List α → Prop} (h : ∀ a0 a1 a2 a3, P [a0, a1, a2, a3]) : ∀ l : List α, l.length = 4 → P l
  | [a0, a1, a2, a3], _ => h a0 a1 a2 a3
theorem len6 {α : Type} {P : List α → Prop} (h : ∀ a0 a1 a2 a3 a4 a5, P [a0, a1, a2, a3, a4, a5]) : ∀ l : List α, l.length = 6 → P l
  | [a0, a1, a2, a3, a4, a5], _ => h a0 a1 a2 a3 a4 a5
-- a list of them
inductive Globs (T : TC) (nm : List (Str × NameKind)) : List (Str × V) → Prop
  | nil : Globs T nm []
  | cons {x p G} : GlobIs T x p → nm.lookup x = some .globalImplicit → Globs T nm G → Globs T nm ((x, p) :: G)
theorem Globs.of {T : TC} {nm G x p} (h : Globs T nm G) (a : AtG G x p) : (x == ("__debug__" : Str)) = false ∧ nm.lookup x = some .globalImplicit ∧ ∃ v, (T.mg x = some v ∨ (T.mg x = none ∧ T.mb x = some v)) ∧ ∀ s U, Rep T s U v p := by
  induction h with
  | nil => cases a
  | cons h1 h2 _ ih =>
    cases a with
    | here => exact ⟨h1.1, h2, h1.2⟩
    | there a => exact ih a

-- the marks of a function, by computation
noncomputable def fnB (d : DefRec) (N : List Str) : Bool :=
  decide N.Nodup && (N.all fun x => !(x == ("__debug__" : Str))) && (N.all fun x => d.scope.names.lookup x == some .local || d.scope.names.lookup x == some .cell) && d.scope.kind == .function && !d.scope.isCoroutine && !d.scope.isGenerator
theorem FnCx.of {T : TC} {i d : Nat} {G params rest} (hT : IsT T) (hm : dAt i ∈ recsOf hd.view_39) (hb : fnB (dAt i) (params ++ rest) = true) (hg : Globs T (dAt i).scope.names G)
    (hbind : ∀ pm code doc vals, vals.length = params.length → bindArgs (Calls.docDef (dAt i).name (dAt i).params (dAt i).body (dAt i).scope pm code doc) ⟨vals, []⟩ = pure (params.zip vals)) :
    FnCx T (dAt i) ⟨d, (dAt i).scope.names, params ++ rest, G⟩ params rest := by
  unfold fnB at hb
  simp only [Bool.and_eq_true, decide_eq_true_eq, List.all_eq_true, Bool.not_eq_true', beq_iff_eq, Bool.or_eq_true] at hb
  obtain ⟨⟨⟨⟨⟨h1, h2⟩, h3⟩, h4⟩, h5⟩, h6⟩ := hb
  exact ⟨by rw [hT.view]; exact hm, rfl, rfl, h1, h2, h3, h4, h5, h6, fun x p a => hg.of a, hbind⟩
theorem mem_view (i : Nat) (h1 : hd.view_39.main.body[i]? = some (stAt hd.view_39 i)) (h2 : (match stAt hd.view_39 i with
  | .FunctionDef name _ _ _ _ _ _ _ _ pos => (match (hd.view_39).theDef name with
    | some (a, b, sc) => (match a.defaults, kwLiteralsOf? a.kwonlyargs a.kw_defaults with
      | [], some [] => some (⟨name, a, b, sc, pos⟩ : DefRec)
      | _, _ => none)
    | none => none)
  | _ => none) = some (dAt i)) : dAt i ∈ recsOf hd.view_39 := by
  unfold recsOf
  rw [List.mem_filterMap]
  exact ⟨_, List.mem_of_getElem? h1, h2⟩
theorem m6 : dAt 6 ∈ recsOf hd.view_39 := mem_view 6 (by kernel_rfl) (by kernel_rfl)
theorem m3 : dAt 3 ∈ recsOf hd.view_39 := mem_view 3 (by kernel_rfl) (by kernel_rfl)
theorem m4 : dAt 4 ∈ recsOf hd.view_39 := mem_view 4 (by kernel_rfl) (by kernel_rfl)
theorem n6 : (dAt 6).name = Str.ofString "_ellipsis_match" := by kernel_rfl
theorem n3 : (dAt 3).name = Str.ofString "_substitution_cost" := by kernel_rfl
theorem n4 : (dAt 4).name = Str.ofString "_levenshtein_distance" := by kernel_rfl

theorem g_case {T} (hT : IsT T) : GlobIs T "_CASE_COST" (.int 1) := GlobIs.int (by kernel_rfl) (by decide +kernel) hT
theorem g_move {T} (hT : IsT T) : GlobIs T "_MOVE_COST" (.int 2) := GlobIs.int (by kernel_rfl) (by decide +kernel) hT
theorem g_max {T} (hT : IsT T) : GlobIs T "_MAX_STRING_SIZE" (.int 40) := GlobIs.int (by kernel_rfl) (by decide +kernel) hT
theorem g_ell {T} (hT : IsT T) : GlobIs T "ELLIPSIS_MARKER" (.str [46, 46, 46]) := GlobIs.str (y := Str.ofString "...") (by kernel_rfl) (by decide +kernel) (by decide) (by decide +kernel) hT
theorem g_len {T} (hT : IsT T) : GlobIs T "len" (.raw (.builtin "len")) := GlobIs.raw (by decide +kernel) (by decide +kernel) (by decide +kernel) (by decide +kernel) hT
theorem g_min {T} (hT : IsT T) : GlobIs T "min" (.raw (.builtin "min")) := GlobIs.raw (by decide +kernel) (by decide +kernel) (by decide +kernel) (by decide +kernel) hT
theorem g_range {T} (hT : IsT T) : GlobIs T "range" (.raw (.type "range")) := GlobIs.raw (by decide +kernel) (by decide +kernel) (by decide +kernel) (by decide +kernel) hT
theorem g_list {T} (hT : IsT T) : GlobIs T "list" (.raw (.type "list")) := GlobIs.raw (by decide +kernel) (by decide +kernel) (by decide +kernel) (by decide +kernel) hT
theorem g_sub {T} (hT : IsT T) : GlobIs T "_substitution_cost" (.fn "_substitution_cost") := GlobIs.fn 3 m3 n3 (by decide +kernel) hT
end
local macro_rules | `(tactic| walk_at "at") => `(tactic| with_reducible first
  | exact At.here | exact Upd.here | exact AtG.here | exact At.h1 | exact Upd.h1 | exact AtG.h1 | exact At.h2 | exact Upd.h2 | exact AtG.h2 | exact At.h3 | exact Upd.h3 | exact AtG.h3 | ((first | apply At.j4 | apply Upd.j4 | apply AtG.j4); walk_at "at"))
local macro_rules | `(tactic| walk_at "ev") => `(tactic| first
  | ((with_reducible refine' Ev.name ?a); case a => walk_at "at") | ((with_reducible refine' Ev.glob ?a); case a => walk_at "at")
  | with_reducible first | exact Ev.int | exact Ev.none | exact Ev.bool
  | ((with_reducible first | refine' Ev.bin ?_ ?_ ?_ | refine' Ev.cmp ?_ ?_ ?_ ?_ | refine' Tr.cmp ?_ ?_ ?_ ?_ | refine' Ev.neg ?_) <;> (try walk_at "ev"); done)
  | first | exact Op2.add | exact Op2.sub | exact Cm2.eq | exact Cm2.ne | exact Cm2.lt | exact Cm2.gt | exact Cm2.ge | exact Cm2.eqs | exact Cm2.nes | (refine Op2.mulr ?_; omega) | (refine Op2.mod' ?_; omega) | (refine Op2.div' ?_ ?_ <;> omega)
  | (refine' Ev.callb ?_ (EvL.cons ?_ EvL.nil) Bcl.lens <;> (try walk_at "ev"); done) | with_unfolding_all rfl)
local macro_rules | `(tactic| walk_at "wk") => `(tactic| repeat (with_reducible first | exact Weak.nil | apply Weak.keep | apply Weak.drop))
section
open PySem PySem.W PyProof.Rows
set_option Elab.async false
set_option linter.unusedVariables false
set_option maxRecDepth 100000
variable {T : TC}


noncomputable def subP (x y : Nat) : Int := if x = y then 0 else if lowP x = lowP y then 1 else 2
@[reducible] noncomputable def cSub : Cx := ⟨0, (dAt 3).scope.names, [Str.ofString "ch_a", Str.ofString "ch_b"], [(Str.ofString "_CASE_COST", .int 1), (Str.ofString "_MOVE_COST", .int 2)]⟩
theorem fSub (hT : IsT T) : FnCx T (dAt 3) cSub [Str.ofString "ch_a", Str.ofString "ch_b"] [] :=
  FnCx.of (params := [Str.ofString "ch_a", Str.ofString "ch_b"]) (rest := []) hT m3 (by decide +kernel) (.cons (g_case hT) (by decide +kernel) (.cons (g_move hT) (by decide +kernel) .nil)) (fun _ _ _ => len2 fun _ _ => rfl)
theorem cal_sub {dd : Nat} (hT : IsT T) (hd : 1 ≤ dd) {x y : Nat} (hx : x < 128) (hy : y < 128) : Cal T dd "_substitution_cost" [.str [x], .str [y]] (.int (subP x y)) := by
  rw [← n3]
  refine Cal.of (fSub hT) rfl hd ?_
  show Ex T cSub [.val (.str [x]), .val (.str [y])] (dAt 3).body (.ret (.int (subP x y)))
  unfold subP
  by_cases h : x = y
  · refine Ex.castr (p := .int 0) (Ex.ret (Ex1.if_ (b := true) (Tr.cast (Tr.cmp (Ev.name (by walk_at "at")) (Ev.name (by walk_at "at")) Cm2.eqs) (by simp [h])) (fun _ => Ex.ret (Ex1.return_ Ev.int)) (by simp))) (by simp [h])
  · refine Ex.cons (Ex1.skip (Tr.cast (Tr.cmp (Ev.name (by walk_at "at")) (Ev.name (by walk_at "at")) Cm2.eqs) (by simp [h]))) ?_
    by_cases h2 : lowP x = lowP y
    · refine Ex.castr (p := .int 1) (Ex.ret (Ex1.if_ (b := true) (Tr.cast (Tr.cmp (Ev.meth0 (Ev.name (by walk_at "at")) (Mth.lower hx)) (Ev.meth0 (Ev.name (by walk_at "at")) (Mth.lower hy)) Cm2.eqs) (by simp [h2])) (fun _ => Ex.ret (Ex1.return_ (Ev.glob (by walk_at "at")))) (by simp))) (by simp [h, h2])
    · refine Ex.cons (Ex1.skip (Tr.cast (Tr.cmp (Ev.meth0 (Ev.name (by walk_at "at")) (Mth.lower hx)) (Ev.meth0 (Ev.name (by walk_at "at")) (Mth.lower hy)) Cm2.eqs) (by simp [h2]))) ?_
      exact Ex.castr (p := .int 2) (Ex.ret (Ex1.return_ (Ev.glob (by walk_at "at")))) (by simp [h, h2])
end
section
open PySem PySem.W PyProof.Rows
set_option Elab.async false
set_option linter.unusedVariables false
set_option maxRecDepth 100000
variable {T : TC}


@[reducible] noncomputable def nLev : List Str := [Str.ofString "a", Str.ofString "b", Str.ofString "max_cost", Str.ofString "pre", Str.ofString "post", Str.ofString "row", Str.ofString "result", Str.ofString "bindex", Str.ofString "bchar", Str.ofString "distance", Str.ofString "minimum", Str.ofString "index", Str.ofString "substitute", Str.ofString "insert_delete"]
@[reducible] noncomputable def cLev : Cx := ⟨5, (dAt 4).scope.names, nLev,
  [(Str.ofString "_MOVE_COST", .int 2), (Str.ofString "_MAX_STRING_SIZE", .int 40), (Str.ofString "len", .raw (.builtin "len")), (Str.ofString "min", .raw (.builtin "min")), (Str.ofString "range", .raw (.type "range")), (Str.ofString "list", .raw (.type "list")), (Str.ofString "_substitution_cost", .fn "_substitution_cost")]⟩
theorem fLev (hT : IsT T) : FnCx T (dAt 4) cLev [Str.ofString "a", Str.ofString "b", Str.ofString "max_cost"] (nLev.drop 3) :=
  FnCx.of (params := [Str.ofString "a", Str.ofString "b", Str.ofString "max_cost"]) (rest := nLev.drop 3) hT m4 (by decide +kernel)
    (.cons (g_move hT) (by decide +kernel) (.cons (g_max hT) (by decide +kernel) (.cons (g_len hT) (by decide +kernel) (.cons (g_min hT) (by decide +kernel) (.cons (g_range hT) (by decide +kernel) (.cons (g_list hT) (by decide +kernel) (.cons (g_sub hT) (by decide +kernel) .nil)))))))
    (fun _ _ _ => len3 fun _ _ _ => rfl)

@[reducible] noncomputable def sLev (a b mx pre post row res bi bc di mi ix su id : Slot) : List Slot := [a, b, mx, pre, post, row, res, bi, bc, di, mi, ix, su, id]
@[reducible] noncomputable def vs (x : List Nat) : Slot := .val (.str x)
@[reducible] noncomputable def vi (i : Int) : Slot := .val (.int i)
noncomputable abbrev D : Slot := .dead

theorem part_post {c : Cx} {σ : List Slot} {x pos p1 k p2} {i : Nat} (h : Ev T c σ (.Name x pos) (.int (-(i : Int)))) : Part T c σ (some (.BoolOp .Or [.Name x pos, .Constant .none k p2] p1)) (if i = 0 then none else some (-(i : Int))) := by
  have h1 := Ev.or2 (pos := p1) h Tv.int (fun _ => Ev.none (k := k) (pos := p2))
  by_cases h0 : i = 0
  · subst h0
    exact .non h1
  · rw [if_neg h0]
    refine .int (Ev.cast h1 ?_)
    rw [if_pos]
    simp; omega
theorem slice_post {x : List Nat} {i : Nat} (h : i ≤ x.length) : sliceP x none (if i = 0 then none else some (-(i : Int))) = x.take (x.length - i) := by
  by_cases h0 : i = 0
  · subst h0
    rw [if_pos rfl, sliceP_all]; simp
  · rw [if_neg h0, sliceP_to_neg (by omega) (by omega)]
    congr 1
    omega
theorem rev_at {x : List Nat} {i ch : Nat} (h : x.reverse[i]? = some ch) : i < x.length ∧ x[x.length - 1 - i]? = some ch := by
  have hi : i < x.length := by
    rcases Nat.lt_or_ge i x.length with h' | h'
    · exact h'
    · rw [List.getElem?_eq_none (by simpa using h')] at h; cases h
  rw [List.getElem?_reverse hi] at h
  exact ⟨hi, h⟩
theorem neg_at {x : List Nat} {i ch : Nat} (h : x.reverse[i]? = some ch) : x[((-(i : Int) - 1) + (x.length : Int)).toNat]? = some ch := by
  obtain ⟨h1, h2⟩ := rev_at h
  rw [show ((-(i : Int) - 1) + (x.length : Int)).toNat = x.length - 1 - i by omega]
  exact h2
noncomputable def forAll : Stmt → List Stmt
  | .For _ _ b _ _ => b
  | _ => []
noncomputable def forBody (st : Stmt) (i : Nat) : Stmt := (forAll st).getD i default
noncomputable def forIter : Stmt → Expr
  | .For _ i _ _ _ => i
  | _ => default
noncomputable def forPx : Stmt → Pos
  | .For (.Name _ p) _ _ _ _ => p
  | _ => default
noncomputable def forPos : Stmt → Pos
  | .For _ _ _ _ p => p
  | _ => default
theorem g_rec (hT : IsT T) {i : Nat} (hm : dAt i ∈ recsOf hd.view_39) {x : Str} (hx : (dAt i).name = x) : ∃ d, d ∈ recsOf T.view ∧ d.name = x := ⟨dAt i, by rw [hT.view]; exact hm, hx⟩
theorem getD_at {x : List Nat} {i : Nat} (h : i < x.length) : x[i]? = some (x.getD i 0) := by simp [h]
theorem getD_mem {x : List Nat} {i : Nat} (h : i < x.length) : x.getD i 0 ∈ x := by simp [h]
theorem map_at {α : Type} {f : α → V} {l : List α} {i : Nat} {d : α} (h : i < l.length) : (l.map f)[i]? = some (f (l.getD i d)) := by simp [h]
theorem range_at {n i : Nat} {q : V} (h : ((List.range n).map fun (i : Nat) => V.int (0 + (i : Int) * 1))[i]? = some q) : q = .int i ∧ i < n := by
  have hi : i < n := by
    rcases Nat.lt_or_ge i n with h' | h'
    · exact h'
    · rw [List.getElem?_eq_none (by simpa using h')] at h; cases h
  rw [List.getElem?_map, List.getElem?_range hi] at h
  simp at h
  exact ⟨h.symm, hi⟩
theorem small1 {n : Nat} (h : n ≤ 1048576) : Builtin.Range.small 0 (n : Int) 1 = true ∧ Builtin.Range.rangeSize 0 (n : Int) 1 = (n : Nat) := by
  have hrn : Builtin.Range.rangeSize 0 (n : Int) 1 = (n : Nat) := by
    unfold Builtin.Range.rangeSize
    rw [if_pos (by decide)]
    split <;> omega
  refine ⟨?_, hrn⟩
  unfold Builtin.Range.small
  rw [hrn]
  unfold Builtin.Range.rangeFitsLong
  simp; omega
-- one turn of the inner loop
theorem lev_turn (hT : IsT T) {a b : List Nat} {mx : Int} {p q : Slot} {row0 : List Int} {j : Nat} {ch : Nat} {base : Int} (ha : ∀ x ∈ a, x < 128) (hch : ch < 128) (hrow : row0.length = a.length) (hal : a.length ≤ 40) {i : Nat} (hi : i < a.length) {su : Nat → Int} (hsu : su = fun i => subP ch (a.getD i 0)) :
    Ex T cLev (sLev (vs a) (vs b) (vi mx) p q (.own ((inS su row0 base i).2.2.2.map .int)) (vi (inS su row0 base i).2.1) (vi j) (vs [ch]) (vi (inS su row0 base i).1) (vi (inS su row0 base i).2.2.1) (vi i) D D)
      (forAll (forBody ((dAt 4).body.getD 15 default) 3))
      (.next (sLev (vs a) (vs b) (vi mx) p q (.own ((inS su row0 base (i + 1)).2.2.2.map .int)) (vi (inS su row0 base (i + 1)).2.1) (vi j) (vs [ch]) (vi (inS su row0 base (i + 1)).1) (vi (inS su row0 base (i + 1)).2.2.1) D D D)) := by
  have hlen := inS_len su row0 base i
  have e : inS su row0 base (i + 1) = ((inS su row0 base i).2.2.2.getD i 0, mn2 (mn2 (inS su row0 base i).2.1 ((inS su row0 base i).2.2.2.getD i 0) + 2) ((inS su row0 base i).1 + su i),
    (if mn2 (mn2 (inS su row0 base i).2.1 ((inS su row0 base i).2.2.2.getD i 0) + 2) ((inS su row0 base i).1 + su i) < (inS su row0 base i).2.2.1 then mn2 (mn2 (inS su row0 base i).2.1 ((inS su row0 base i).2.2.2.getD i 0) + 2) ((inS su row0 base i).1 + su i) else (inS su row0 base i).2.2.1), (inS su row0 base i).2.2.2.set i (mn2 (mn2 (inS su row0 base i).2.1 ((inS su row0 base i).2.2.2.getD i 0) + 2) ((inS su row0 base i).1 + su i))) := rfl
  rw [e]
  generalize inS su row0 base i = st at hlen
  obtain ⟨d, r, m, row⟩ := st
  simp only at hlen ⊢
  rw [hrow] at hlen
  refine Ex.cons (Ex1.assign (p := .int (d + su i)) (Ev.bin (by walk_at "ev") (Ev.call (by walk_at "ev") (g_rec hT m3 n3 ) (EvL.cons (by walk_at "ev") (EvL.cons (Ev.weak (Ev.sub (by walk_at "ev") (by walk_at "ev") (Sb.str (ch := a.getD i 0) (by omega) (by omega) (by simpa using getD_at hi)))) EvL.nil)) (cal_sub hT (by decide) hch (ha _ (getD_mem hi)))) (by subst hsu; exact Op2.add)) (by walk_at "at")) ?_
  refine Ex.cons (Ex1.assign (p := .int (row.getD i 0)) (Ev.subo (EvO.name (by walk_at "at")) (by walk_at "ev") (Sbo.at (by omega) (by rw [Int.toNat_natCast]; exact map_at (f := V.int) (l := row) (d := 0) (by omega)))) (by walk_at "at")) ?_
  refine Ex.cons (Ex1.assign (p := .int (mn2 r (row.getD i 0) + 2)) (Ev.bin (Ev.callb (by walk_at "ev") (EvL.cons (by walk_at "ev") (EvL.cons (by walk_at "ev") EvL.nil)) Bcl.min) (by walk_at "ev") Op2.add) (by walk_at "at")) ?_
  refine Ex.cons (Ex1.assign (p := .int (mn2 (mn2 r (row.getD i 0) + 2) (d + su i))) (Ev.callb (by walk_at "ev") (EvL.cons (by walk_at "ev") (EvL.cons (by walk_at "ev") EvL.nil)) Bcl.min) (by walk_at "at")) ?_
  refine Ex.cons (Ex1.setitem (by walk_at "ev") (by walk_at "at") (by walk_at "ev") (by omega) (by simp; omega) (by walk_at "at")) ?_
  generalize mn2 (mn2 r (row.getD i 0) + 2) (d + su i) = r'
  refine Ex.cons (Ex1.weak (Ex1.if_ (b := decide (r' < m)) (o := .next (sLev (vs a) (vs b) (vi mx) p q (.own ((row.set i r').map .int)) (vi r') (vi j) (vs [ch]) (vi (row.getD i 0)) (vi (if r' < m then r' else m)) (vi i) (vi (d + su i)) (vi (mn2 r (row.getD i 0) + 2)))) (by walk_at "ev") (fun h => ?_) (fun h => ?_)) (.keep (.keep (.keep (.keep (.keep (.keep (.keep (.keep (.keep (.keep (.keep (.drop (.drop (.drop .nil))))))))))))))) Ex.nil
  · rw [decide_eq_true_iff] at h
    refine Ex.castn (Ex.cons (Ex1.assign (by walk_at "ev") (by walk_at "at")) Ex.nil) ?_
    simp [h, List.map_set]
  · rw [decide_eq_false_iff_not] at h
    refine Ex.castn Ex.nil ?_
    simp [h, List.map_set]
-- the rows
theorem lev_rows (hT : IsT T) {a b : List Nat} {mx : Int} {p q : Slot} (ha : ∀ x ∈ a, x < 128) (hb : ∀ x ∈ b, x < 128) (hal : a.length ≤ 40) (hbl : b.length ≤ 40) (ha0 : a ≠ []) (hb0 : b ≠ []) :
    Ex T cLev (sLev (vs a) (vs b) (vi mx) p q D D D D D D D D D) ((dAt 4).body.drop 12) (.ret (.int (pairP subP a b mx))) := by
  unfold pairP
  by_cases hc : ((b.length : Int) - a.length) * 2 > mx
  · rw [if_pos hc]
    refine Ex.ret (Ex1.if_ (b := true) (Tr.cast (Tr.cmp (by walk_at "ev") (by walk_at "ev") (by walk_at "ev")) (by simpa using hc)) (fun _ => Ex.ret (Ex1.return_ (by walk_at "ev"))) (by simp))
  rw [if_neg hc]
  refine Ex.cons (Ex1.skip (Tr.cast (Tr.cmp (by walk_at "ev") (by walk_at "ev") (by walk_at "ev")) (by simpa using hc))) ?_
  have hal0 : 0 < a.length := List.length_pos_iff.mpr ha0
  have hrn : Builtin.Range.rangeSize 2 (2 * ((a.length : Int) + 1)) 2 = (a.length : Nat) := by
    unfold Builtin.Range.rangeSize
    rw [if_pos (by decide), if_pos (by omega)]
    omega
  refine Ex.cons (Ex1.assign_new (EvN.listrange (n := a.length) (by walk_at "ev") (Rn.three (n := 2 * ((a.length : Int) + 1)) (by decide) (PyProof.noPylong_small (by decide)) (by walk_at "ev") (by walk_at "ev") (by walk_at "ev") (by walk_at "ev")) ?_ hrn (by omega)) (by walk_at "at")) ?_
  · unfold Builtin.Range.small
    rw [hrn]
    unfold Builtin.Range.rangeFitsLong
    simp; omega
  refine Ex.cons (Ex1.assign (by walk_at "ev") (by walk_at "at")) ?_
  obtain ⟨hs1, hs2⟩ := small1 (n := b.length) (by omega)
  obtain ⟨ht1, ht2⟩ := small1 (n := a.length) (by omega)
  generalize hsub : (fun (j i : Nat) => subP (b.getD j 0) (a.getD i 0)) = sub
  have hfor := Ex1.for_ (T := T) (c := cLev) (σ := sLev (vs a) (vs b) (vi mx) p q (.own ((outS sub a.length 0).2.map .int)) (vi (outS sub a.length 0).1) D D D D D D D) (x := Str.ofString "bindex") (px := forPx ((dAt 4).body.getD 15 default)) (iter := forIter ((dAt 4).body.getD 15 default))
    (body := forAll ((dAt 4).body.getD 15 default)) (pos := forPos ((dAt 4).body.getD 15 default))
    (fun j => sLev (vs a) (vs b) (vi mx) p q (.own ((outS sub a.length j).2.map .int)) (vi (outS sub a.length j).1) D D D D D D D)
    (fun j => if mx < minS sub a.length j then some (.int (mx + 1)) else none)
    (It.range (n := b.length) (Rn.one (by walk_at "ev") (by walk_at "ev")) hs1 hs2) (Weak.refl _) ?_
  · have hB : firstB (fun j => if mx < minS sub a.length j then some (V.int (mx + 1)) else none) b.length = if overS sub a.length mx b.length then some (.int (mx + 1)) else none := by
      unfold overS
      generalize b.length = m
      induction m with
      | zero => rfl
      | succ m ih =>
        unfold firstB
        rw [ih, List.range_succ, List.any_append]
        by_cases h : (List.range m).any (fun j => decide (mx < minS sub a.length j)) = true
        · rw [if_pos h, h]; simp
        · rw [Bool.not_eq_true] at h
          rw [h]; simp
    rw [show (List.map (fun (i : Nat) => V.int (0 + (i : Int) * 1)) (List.range b.length)).length = b.length by simp, hB] at hfor
    rw [show (List.range a.length).map (fun (i : Nat) => V.int (2 + (i : Int) * 2)) = (outS sub a.length 0).2.map .int by simp [outS]]
    unfold gridP
    cases ho : overS sub a.length mx b.length with
    | true =>
      rw [ho] at hfor
      refine Ex.ret ?_
      rw [if_pos rfl]
      exact hfor
    | false =>
      rw [ho] at hfor
      rw [if_neg (by decide)]
      refine Ex.cons hfor ?_
      exact Ex.ret (Ex1.return_ (by walk_at "ev"))
  · intro j q' hq hB
    obtain ⟨rfl, hj⟩ := range_at hq
    refine ⟨_, by walk_at "at", ?_⟩
    have hch : b.getD j 0 < 128 := hb _ (getD_mem hj)
    have hlen := outS_len sub a.length j
    have hinS : outS sub a.length (j + 1) = ((inS (sub j) (outS sub a.length j).2 (j * 2) a.length).2.1, (inS (sub j) (outS sub a.length j).2 (j * 2) a.length).2.2.2) := rfl
    have hmin : minS sub a.length j = (inS (sub j) (outS sub a.length j).2 (j * 2) a.length).2.2.1 := rfl
    rw [hinS, hmin]
    generalize (outS sub a.length j).2 = row0 at hlen
    generalize (outS sub a.length j).1 = res0
    refine Ex.cons (Ex1.assign (p := .str [b.getD j 0]) (Ev.weak (Ev.sub (by walk_at "ev") (by walk_at "ev") (Sb.str (ch := b.getD j 0) (by omega) (by omega) (by simpa using getD_at hj)))) (by walk_at "at")) ?_
    refine Ex.cons (Ex1.assign2 (by walk_at "ev") (by walk_at "at") (by walk_at "at")) ?_
    refine Ex.cons (Ex1.assign (by walk_at "ev") (by walk_at "at")) ?_
    refine Ex.cons (σ1 := sLev (vs a) (vs b) (vi mx) p q (.own ((inS (sub j) row0 (j * 2) a.length).2.2.2.map .int)) (vi (inS (sub j) row0 (j * 2) a.length).2.1) (vi j) (vs [b.getD j 0]) (vi (inS (sub j) row0 (j * 2) a.length).1) (vi (inS (sub j) row0 (j * 2) a.length).2.2.1) D D D) ?_ ?_
    · have h := Ex1.forAll (T := T) (c := cLev) (σ := sLev (vs a) (vs b) (vi mx) p q (.own ((inS (sub j) row0 (j * 2) 0).2.2.2.map .int)) (vi (inS (sub j) row0 (j * 2) 0).2.1) (vi j) (vs [b.getD j 0]) (vi (inS (sub j) row0 (j * 2) 0).1) (vi (inS (sub j) row0 (j * 2) 0).2.2.1) D D D) (x := Str.ofString "index") (px := forPx (forBody ((dAt 4).body.getD 15 default) 3)) (iter := forIter (forBody ((dAt 4).body.getD 15 default) 3))
        (body := forAll (forBody ((dAt 4).body.getD 15 default) 3)) (pos := forPos (forBody ((dAt 4).body.getD 15 default) 3))
        (fun i => sLev (vs a) (vs b) (vi mx) p q (.own ((inS (sub j) row0 (j * 2) i).2.2.2.map .int)) (vi (inS (sub j) row0 (j * 2) i).2.1) (vi j) (vs [b.getD j 0]) (vi (inS (sub j) row0 (j * 2) i).1) (vi (inS (sub j) row0 (j * 2) i).2.2.1) D D D)
        (It.range (n := a.length) (Rn.one (by walk_at "ev") (by walk_at "ev")) ht1 ht2) (Weak.refl _) (fun i q' hq => by
          obtain ⟨rfl, hi⟩ := range_at hq
          exact ⟨_, by walk_at "at", lev_turn hT ha hch hlen hal hi (by rw [← hsub])⟩)
      rw [show (List.map (fun (i : Nat) => V.int (0 + (i : Int) * 1)) (List.range a.length)).length = a.length by simp] at h
      exact h
    · generalize inS (sub j) row0 (j * 2) a.length = st
      by_cases hm : mx < st.2.2.1
      · rw [if_pos hm]
        refine Ex.ret (Ex1.if_ (b := true) (Tr.cast (by walk_at "ev") (by simpa using hm)) (fun _ => Ex.ret (Ex1.return_ (by walk_at "ev"))) (by simp))
      · rw [if_neg hm]
        refine Ex.cons (Ex1.skip (Tr.cast (by walk_at "ev") (by simpa using hm))) ?_
        exact Ex.weakout Ex.nil (.keep (.keep (.keep (.keep (.keep (.keep (.keep (.drop (.drop (.drop (.drop (.keep (.keep (.keep .nil))))))))))))))
theorem lev_core (hT : IsT T) {a b : List Nat} {mx : Int} {p q : Slot} (ha : ∀ x ∈ a, x < 128) (hb : ∀ x ∈ b, x < 128) (hal : a.length ≤ 1048576) (hbl : b.length ≤ 1048576) :
    Ex T cLev (sLev (vs a) (vs b) (vi mx) p q D D D D D D D D D) ((dAt 4).body.drop 9) (.ret (.int (coreP subP a b mx))) := by
  unfold coreP
  by_cases h0 : a = [] ∨ b = []
  · rw [if_pos h0]
    refine Ex.ret (Ex1.if_ (b := true) (Tr.cast (Tr.boolop (TrL.or_cons (Tr.not (Tr.val (by walk_at "ev") Tv.str)) fun _ => TrL.or_cons (Tr.not (Tr.val (by walk_at "ev") Tv.str)) fun _ => TrL.or_nil)) ?_) (fun _ => Ex.ret (Ex1.return_ (by walk_at "ev"))) (by simp))
    rcases h0 with h | h <;> simp [h]
  rw [if_neg h0]
  rw [not_or] at h0
  refine Ex.cons (Ex1.skip (Tr.cast (Tr.boolop (TrL.or_cons (Tr.not (Tr.val (by walk_at "ev") Tv.str)) fun _ => TrL.or_cons (Tr.not (Tr.val (by walk_at "ev") Tv.str)) fun _ => TrL.or_nil)) (by simp [h0.1, h0.2]))) ?_
  by_cases h1 : a.length > 40 ∨ b.length > 40
  · rw [if_pos h1]
    refine Ex.ret (Ex1.if_ (b := true) (Tr.cast (Tr.boolop (TrL.or_cons (Tr.cmp (by walk_at "ev") (by walk_at "ev") (by walk_at "ev")) fun _ => TrL.or_cons (Tr.cmp (by walk_at "ev") (by walk_at "ev") (by walk_at "ev")) fun _ => TrL.or_nil)) ?_) (fun _ => Ex.ret (Ex1.return_ (by walk_at "ev"))) (by simp))
    simp; omega
  rw [if_neg h1]
  refine Ex.cons (Ex1.skip (Tr.cast (Tr.boolop (TrL.or_cons (Tr.cmp (by walk_at "ev") (by walk_at "ev") (by walk_at "ev")) fun _ => TrL.or_cons (Tr.cmp (by walk_at "ev") (by walk_at "ev") (by walk_at "ev")) fun _ => TrL.or_nil)) (by simp; omega))) ?_
  by_cases h2 : b.length < a.length
  · rw [if_pos h2]
    refine Ex.cons (Ex1.if_ (b := true) (Tr.cast (Tr.cmp (by walk_at "ev") (by walk_at "ev") (by walk_at "ev")) (by simpa using h2)) (fun _ => Ex.cons (Ex1.tuple2 (by walk_at "ev") (by walk_at "ev") (by walk_at "at") (by walk_at "at") ?_) Ex.nil) (by simp)) ?_
    · intro env hk hn
      unfold swappedStores Env.blockKind Env.kindOf
      rw [hk, hn]
      kernel_rfl
    · exact lev_rows hT hb ha (by omega) (by omega) h0.2 h0.1
  · rw [if_neg h2]
    refine Ex.cons (Ex1.skip (Tr.cast (Tr.cmp (by walk_at "ev") (by walk_at "ev") (by walk_at "ev")) (by simpa using h2))) ?_
    exact lev_rows hT ha hb (by omega) (by omega) h0.1 h0.2

theorem cal_lev {dd : Nat} (hT : IsT T) (hd : 6 ≤ dd) {a b : List Nat} {mx : Int} (ha : ∀ x ∈ a, x < 128) (hb : ∀ x ∈ b, x < 128) (hal : a.length ≤ 1048576) (hbl : b.length ≤ 1048576) : Cal T dd "_levenshtein_distance" [.str a, .str b, .int mx] (.int (levP subP a b mx)) := by
  rw [← n4]
  refine Cal.of (fLev hT) rfl hd ?_
  show Ex T cLev (sLev (vs a) (vs b) (vi mx) D D D D D D D D D D D) (dAt 4).body (.ret (.int (levP subP a b mx)))
  by_cases h : a = b
  · refine Ex.castr (p := .int 0) (Ex.ret (Ex1.if_ (b := true) (Tr.cast (Tr.cmp (by walk_at "ev") (by walk_at "ev") (by walk_at "ev")) (by simp [h])) (fun _ => Ex.ret (Ex1.return_ (by walk_at "ev"))) (by simp))) (by simp [levP, h])
  refine Ex.cons (Ex1.skip (Tr.cast (Tr.cmp (by walk_at "ev") (by walk_at "ev") (by walk_at "ev")) (by simp [h]))) ?_
  refine Ex.cons (Ex1.assign (by walk_at "ev") (by walk_at "at")) ?_
  have hk := cpl_le a b
  refine Ex.cons (Ex1.while_ (fun i => sLev (vs a) (vs b) (vi mx) (vi i) D D D D D D D D D D) (cpl a b) rfl ?_ ?_ ?_) ?_
  · intro i hi
    obtain ⟨ch, h1, h2⟩ := cpl_same a b i hi
    have e1 : a.drop i ≠ [] := by intro e; have := List.drop_eq_nil_iff.mp e; omega
    have e2 : b.drop i ≠ [] := by intro e; have := List.drop_eq_nil_iff.mp e; omega
    refine Tr.cast (Tr.boolop (TrL.and_cons (Tr.val (Ev.strslice (by walk_at "ev") (.int (by walk_at "ev")) .none) Tv.str) fun _ => TrL.and_cons (Tr.val (Ev.strslice (by walk_at "ev") (.int (by walk_at "ev")) .none) Tv.str) fun _ =>
      TrL.and_cons (Tr.cmp (Ev.weak (Ev.sub (by walk_at "ev") (by walk_at "ev") (Sb.str (ch := ch) (by omega) hal (by simpa using h1)))) (Ev.weak (Ev.sub (by walk_at "ev") (by walk_at "ev") (Sb.str (ch := ch) (by omega) hbl (by simpa using h2)))) (by walk_at "ev")) fun _ => TrL.and_nil)) ?_
    rw [sliceP_from (by omega) (by omega), sliceP_from (by omega) (by omega)]
    simp [e1, e2]
  · intro i hi
    refine Ex.cons (Ex1.aug (by walk_at "at") (by walk_at "ev") Ip2.add (by walk_at "at")) (Ex.castn Ex.nil ?_)
    simp
  · rcases cpl_end a b with e | e | ⟨x, y, h1, h2, h3⟩
    · refine Tr.cast (b := false && true) (Tr.boolop (TrL.and_cons (Tr.cast (Tr.val (Ev.strslice (by walk_at "ev") (.int (by walk_at "ev")) .none) Tv.str) ?_) fun h => nomatch h)) rfl
      rw [sliceP_from (by omega) (by omega)]
      simpa using e
    · by_cases e0 : a.drop (cpl a b) = []
      · refine Tr.cast (b := false && true) (Tr.boolop (TrL.and_cons (Tr.cast (Tr.val (Ev.strslice (by walk_at "ev") (.int (by walk_at "ev")) .none) Tv.str) ?_) fun h => nomatch h)) rfl
        rw [sliceP_from (by omega) (by omega)]
        simpa using e0
      · refine Tr.cast (b := true && (false && true)) (Tr.boolop (TrL.and_cons (Tr.cast (Tr.val (Ev.strslice (by walk_at "ev") (.int (by walk_at "ev")) .none) Tv.str) ?_) fun _ => TrL.and_cons (Tr.cast (Tr.val (Ev.strslice (by walk_at "ev") (.int (by walk_at "ev")) .none) Tv.str) ?_) fun h => nomatch h)) rfl
        · rw [sliceP_from (by omega) (by omega)]
          simpa using e0
        · rw [sliceP_from (by omega) (by omega)]
          simpa using e
    · have e1 : a.drop (cpl a b) ≠ [] := by intro e; have := List.drop_eq_nil_iff.mp e; rw [List.getElem?_eq_none (by omega)] at h1; cases h1
      have e2 : b.drop (cpl a b) ≠ [] := by intro e; have := List.drop_eq_nil_iff.mp e; rw [List.getElem?_eq_none (by omega)] at h2; cases h2
      refine Tr.cast (Tr.boolop (TrL.and_cons (Tr.val (Ev.strslice (by walk_at "ev") (.int (by walk_at "ev")) .none) Tv.str) fun _ => TrL.and_cons (Tr.val (Ev.strslice (by walk_at "ev") (.int (by walk_at "ev")) .none) Tv.str) fun _ =>
        TrL.and_cons (Tr.cmp (Ev.weak (Ev.sub (by walk_at "ev") (by walk_at "ev") (Sb.str (ch := x) (by omega) hal (by simpa using h1)))) (Ev.weak (Ev.sub (by walk_at "ev") (by walk_at "ev") (Sb.str (ch := y) (by omega) hbl (by simpa using h2)))) (by walk_at "ev")) fun _ => TrL.and_nil)) ?_
      rw [sliceP_from (by omega) (by omega), sliceP_from (by omega) (by omega)]
      simp [h3]
  refine Ex.cons (Ex1.assign (p := .str (a.drop (cpl a b))) (Ev.cast (Ev.strslice (by walk_at "ev") (.int (by walk_at "ev")) .none) (by rw [sliceP_from (by omega) (by omega)]; simp)) (by walk_at "at")) ?_
  refine Ex.cons (Ex1.assign (p := .str (b.drop (cpl a b))) (Ev.cast (Ev.strslice (by walk_at "ev") (.int (by walk_at "ev")) .none) (by rw [sliceP_from (by omega) (by omega)]; simp)) (by walk_at "at")) ?_
  refine Ex.cons (Ex1.assign (by walk_at "ev") (by walk_at "at")) ?_
  have hlev : levP subP a b mx = coreP subP ((a.drop (cpl a b)).take ((a.drop (cpl a b)).length - cpl (a.drop (cpl a b)).reverse (b.drop (cpl a b)).reverse)) ((b.drop (cpl a b)).take ((b.drop (cpl a b)).length - cpl (a.drop (cpl a b)).reverse (b.drop (cpl a b)).reverse)) mx := by
    unfold levP; rw [if_neg h]
  rw [hlev]
  have ha1 : ∀ x ∈ a.drop (cpl a b), x < 128 := fun x hx => ha x (List.mem_of_mem_drop hx)
  have hb1 : ∀ x ∈ b.drop (cpl a b), x < 128 := fun x hx => hb x (List.mem_of_mem_drop hx)
  have hal1 : (a.drop (cpl a b)).length ≤ 1048576 := by simp; omega
  have hbl1 : (b.drop (cpl a b)).length ≤ 1048576 := by simp; omega
  have hlev : True := trivial
  generalize hk0 : cpl a b = k at *
  generalize a.drop k = a1 at *
  generalize b.drop k = b1 at *
  clear hlev hk ha hb hal hbl hk0 h
  have hl := cpl_le a1.reverse b1.reverse
  simp only [List.length_reverse] at hl
  refine Ex.cons (Ex1.while_ (fun (i : Nat) => sLev (vs a1) (vs b1) (vi mx) (vi k) (vi (-(i : Int))) D D D D D D D D D) (cpl a1.reverse b1.reverse) rfl ?_ ?_ ?_) ?_
  · intro i hi
    obtain ⟨ch, h1, h2⟩ := cpl_same _ _ i hi
    have e1 : a1.take (a1.length - i) ≠ [] := by intro e; rw [List.take_eq_nil_iff] at e; rcases e with e | e; omega; subst e; simp [cpl] at hi
    have e2 : b1.take (b1.length - i) ≠ [] := by intro e; rw [List.take_eq_nil_iff] at e; rcases e with e | e; omega; subst e; have h0 := hl.2; simp only [List.length_nil] at h0; omega
    refine Tr.cast (Tr.boolop (TrL.and_cons (Tr.val (Ev.strslice (by walk_at "ev") .none (part_post (by walk_at "ev"))) Tv.str) fun _ => TrL.and_cons (Tr.val (Ev.strslice (by walk_at "ev") .none (part_post (by walk_at "ev"))) Tv.str) fun _ =>
      TrL.and_cons (Tr.cmp (Ev.weak (Ev.sub (by walk_at "ev") (by walk_at "ev") (Sb.strneg (ch := ch) (by omega) (by omega) hal1 (neg_at h1)))) (Ev.weak (Ev.sub (by walk_at "ev") (by walk_at "ev") (Sb.strneg (ch := ch) (by omega) (by omega) hbl1 (neg_at h2)))) (by walk_at "ev")) fun _ => TrL.and_nil)) ?_
    rw [slice_post (by omega), slice_post (by omega)]
    simp [e1, e2]
  · intro i hi
    refine Ex.cons (Ex1.aug (by walk_at "at") (by walk_at "ev") Ip2.sub (by walk_at "at")) (Ex.castn Ex.nil ?_)
    simp; omega
  · rcases cpl_end a1.reverse b1.reverse with e | e | ⟨x, y, h1, h2, h3⟩
    · have e := List.drop_eq_nil_iff.mp e
      rw [List.length_reverse] at e
      refine Tr.cast (b := false && true) (Tr.boolop (TrL.and_cons (Tr.cast (Tr.val (Ev.strslice (by walk_at "ev") .none (part_post (by walk_at "ev"))) Tv.str) ?_) fun h => nomatch h)) rfl
      rw [slice_post (by omega), show a1.length - cpl a1.reverse b1.reverse = 0 by omega]
      simp
    · have e := List.drop_eq_nil_iff.mp e
      rw [List.length_reverse] at e
      by_cases e0 : a1.take (a1.length - cpl a1.reverse b1.reverse) = []
      · refine Tr.cast (b := false && true) (Tr.boolop (TrL.and_cons (Tr.cast (Tr.val (Ev.strslice (by walk_at "ev") .none (part_post (by walk_at "ev"))) Tv.str) ?_) fun h => nomatch h)) rfl
        rw [slice_post (by omega), e0]
        simp
      · refine Tr.cast (b := true && (false && true)) (Tr.boolop (TrL.and_cons (Tr.cast (Tr.val (Ev.strslice (by walk_at "ev") .none (part_post (by walk_at "ev"))) Tv.str) ?_) fun _ => TrL.and_cons (Tr.cast (Tr.val (Ev.strslice (by walk_at "ev") .none (part_post (by walk_at "ev"))) Tv.str) ?_) fun h => nomatch h)) rfl
        · rw [slice_post (by omega)]
          simpa using e0
        · rw [slice_post (by omega), show b1.length - cpl a1.reverse b1.reverse = 0 by omega]
          simp
    · have r1 := (rev_at h1).1
      have r2 := (rev_at h2).1
      have e1 : a1.take (a1.length - cpl a1.reverse b1.reverse) ≠ [] := by intro e; rw [List.take_eq_nil_iff] at e; rcases e with e | e; omega; subst e; simp at r1
      have e2 : b1.take (b1.length - cpl a1.reverse b1.reverse) ≠ [] := by intro e; rw [List.take_eq_nil_iff] at e; rcases e with e | e; omega; subst e; simp at r2
      refine Tr.cast (Tr.boolop (TrL.and_cons (Tr.val (Ev.strslice (by walk_at "ev") .none (part_post (by walk_at "ev"))) Tv.str) fun _ => TrL.and_cons (Tr.val (Ev.strslice (by walk_at "ev") .none (part_post (by walk_at "ev"))) Tv.str) fun _ =>
        TrL.and_cons (Tr.cmp (Ev.weak (Ev.sub (by walk_at "ev") (by walk_at "ev") (Sb.strneg (ch := x) (by omega) (by omega) hal1 (neg_at h1)))) (Ev.weak (Ev.sub (by walk_at "ev") (by walk_at "ev") (Sb.strneg (ch := y) (by omega) (by omega) hbl1 (neg_at h2)))) (by walk_at "ev")) fun _ => TrL.and_nil)) ?_
      rw [slice_post (by omega), slice_post (by omega)]
      simp [h3]
  refine Ex.cons (Ex1.assign (p := .str (a1.take (a1.length - cpl a1.reverse b1.reverse))) (Ev.cast (Ev.strslice (by walk_at "ev") .none (part_post (by walk_at "ev"))) (by rw [slice_post (by omega)])) (by walk_at "at")) ?_
  refine Ex.cons (Ex1.assign (p := .str (b1.take (b1.length - cpl a1.reverse b1.reverse))) (Ev.cast (Ev.strslice (by walk_at "ev") .none (part_post (by walk_at "ev"))) (by rw [slice_post (by omega)])) (by walk_at "at")) ?_
  exact lev_core hT (fun x hx => ha1 x (List.mem_of_mem_take hx)) (fun x hx => hb1 x (List.mem_of_mem_take hx)) (by simp; omega) (by simp; omega)
end
section
open PySem PySem.W PyProof.Rows
set_option Elab.async false
set_option linter.unusedVariables false
set_option maxRecDepth 100000
variable {T : TC}



@[reducible] noncomputable def nEm : List Str := [Str.ofString "want", Str.ofString "got", Str.ofString "ws", Str.ofString "startpos", Str.ofString "endpos", Str.ofString "w"]
@[reducible] noncomputable def cEm : Cx := ⟨0, (dAt 6).scope.names, nEm, [(Str.ofString "ELLIPSIS_MARKER", .str [46, 46, 46]), (Str.ofString "len", .raw (.builtin "len"))]⟩
theorem fEm (hT : IsT T) : FnCx T (dAt 6) cEm [Str.ofString "want", Str.ofString "got"] (nEm.drop 2) :=
  FnCx.of (params := [Str.ofString "want", Str.ofString "got"]) (rest := nEm.drop 2) hT m6 (by decide +kernel)
    (.cons (g_ell hT) (by decide +kernel) (.cons (g_len hT) (by decide +kernel) .nil))
    (fun _ _ _ => len2 fun _ _ => rfl)
@[reducible] noncomputable def sEm (a b ws s e w : Slot) : List Slot := [a, b, ws, s, e, w]

theorem em_tail (hT : IsT T) {want got : List Nat} {ws : List (List Nat)} {s e : Int} {w : Slot} (hs : 0 ≤ s) (he : 0 ≤ e) (hL : ws.length ≤ 1048576) :
    Ex T cEm (sEm (vs want) (vs got) (.own (ws.map .str)) (vi s) (vi e) w) ((dAt 6).body.drop 8) (.ret (.bool (tailP got ws s e))) := by
  unfold tailP
  by_cases h : s > e
  · rw [if_pos h]
    refine Ex.ret (Ex1.if_ (b := true) (Tr.cast (by walk_at "ev") (by simpa using h)) (fun _ => Ex.ret (Ex1.return_ (by walk_at "ev"))) (by simp))
  rw [if_neg h]
  refine Ex.cons (Ex1.skip (Tr.cast (by walk_at "ev") (by simpa using h))) ?_
  refine Ex.freeze (by walk_at "at") (by walk_at "at") ?_
  have hB : firstB (fun k => if 0 ≤ findI got (ws.getD k []) (posP got e ws s k) e then none else some (V.bool false)) ws.length = if scanP got e ws s then none else some (.bool false) := by
    rw [← allP_scan]
    unfold allP
    generalize ws.length = m
    induction m with
    | zero => rfl
    | succ m ih =>
      unfold firstB
      rw [ih, List.range_succ, List.all_append]
      by_cases h : (List.range m).all (fun k => decide (0 ≤ findI got (ws.getD k []) (posP got e ws s k) e)) = true
      · rw [if_pos h, h]; simp
      · rw [if_neg h]; rw [Bool.not_eq_true] at h; rw [h]; simp
  refine Ex.for_ (fun k => sEm (vs want) (vs got) (.val (.list (ws.map .str))) (vi (posP got e ws s k)) (vi e) D)
    (fun k => if 0 ≤ findI got (ws.getD k []) (posP got e ws s k) e then none else some (.bool false))
    (It.list (by walk_at "ev")) (.keep (.keep (.keep (.keep (.keep (.drop .nil)))))) ?_ ?_ ?_
  · intro k q hq hB
    have hk : k < ws.length := by
      rcases Nat.lt_or_ge k ws.length with h' | h'
      · exact h'
      · rw [List.getElem?_eq_none (by simpa using h')] at hq; cases hq
    have hq' : q = .str (ws.getD k []) := by
      have := map_at (f := V.str) (d := []) hk
      rw [this] at hq; cases hq; rfl
    subst hq'
    have hp : 0 ≤ posP got e ws s k := by
      cases k with
      | zero => exact hs
      | succ k =>
        have := hB k (Nat.lt_succ_self k)
        split at this
        · show 0 ≤ findI got (ws.getD k []) (posP got e ws s k) e + _
          omega
        · cases this
    refine ⟨_, by walk_at "at", ?_⟩
    have hpos : posP got e ws s (k + 1) = findI got (ws.getD k []) (posP got e ws s k) e + (ws.getD k []).length := rfl
    rw [hpos]
    generalize posP got e ws s k = p at *
    generalize ws.getD k [] = wk at *
    refine Ex.cons (Ex1.assign (Ev.meth (by walk_at "ev") (EvL.cons (by walk_at "ev") (EvL.cons (by walk_at "ev") (EvL.cons (by walk_at "ev") EvL.nil))) (Mth.find hp he)) (by walk_at "at")) ?_
    by_cases hf : 0 ≤ findI got wk p e
    · rw [if_pos hf]
      refine Ex.cons (Ex1.skip (Tr.cast (by walk_at "ev") (by simpa using hf))) ?_
      refine Ex.cons (Ex1.aug (by walk_at "at") (by walk_at "ev") Ip2.add (by walk_at "at")) ?_
      exact Ex.weakout Ex.nil (.keep (.keep (.keep (.keep (.keep (.drop .nil))))))
    · rw [if_neg hf]
      refine Ex.ret (Ex1.if_ (b := true) (Tr.cast (by walk_at "ev") (by simpa using hf)) (fun _ => Ex.ret (Ex1.return_ (by walk_at "ev"))) (by simp))
  · rw [List.length_map, hB]
    intro h
    have : scanP got e ws s = true := by
      cases h' : scanP got e ws s with
      | true => rfl
      | false => rw [h'] at h; cases h
    rw [this]
    exact Ex.ret (Ex1.return_ (by walk_at "ev"))
  · rw [List.length_map, hB]
    intro p h
    have : scanP got e ws s = false := by
      cases h' : scanP got e ws s with
      | false => rfl
      | true => rw [h'] at h; cases h
    rw [this] at h ⊢
    cases h; rfl

theorem em_last (hT : IsT T) {want got : List Nat} {ws : List (List Nat)} {s : Int} {w : Slot} (hs : 0 ≤ s) (hne : ws ≠ []) (hL : ws.length ≤ 1048576) :
    Ex T cEm (sEm (vs want) (vs got) (.own (ws.map .str)) (vi s) (vi got.length) w) ((dAt 6).body.drop 6) (.ret (.bool (lastP got ws s))) := by
  have hlen : 0 < ws.length := List.length_pos_iff.mpr hne
  have hlast : ws.getLastD [] = ws.getD (ws.length - 1) [] := by
    rw [List.getLastD_eq_getLast?, List.getLast?_eq_getElem?]; simp [List.getD]
  refine Ex.cons (Ex1.assign (p := .str (ws.getLastD [])) (Ev.subo (EvO.name (by walk_at "at")) (Ev.neg Ev.int) (Sbo.neg (by decide) (by simp; omega) (by
    rw [hlast, show ((-1 : Int) + ((ws.map V.str).length : Nat)).toNat = ws.length - 1 by simp; omega]
    exact map_at (f := V.str) (by omega)))) (by walk_at "at")) ?_
  unfold lastP
  generalize hw : ws.getLastD [] = wl
  dsimp only
  by_cases h0 : wl = []
  · rw [if_pos h0]
    refine Ex.cons (Ex1.skip (Tr.cast (Tr.val (by walk_at "ev") Tv.str) (by simp [h0]))) ?_
    exact em_tail hT hs (by omega) hL
  rw [if_neg h0]
  by_cases h1 : wl.isSuffixOf got = true
  · rw [if_pos h1]
    have hle : wl.length ≤ got.length := (List.isSuffixOf_iff_suffix.mp h1).length_le
    refine Ex.cons (σ1 := sEm (vs want) (vs got) (.own (ws.dropLast.map .str)) (vi s) (vi ((got.length : Int) - wl.length)) (vs wl)) (Ex1.if_ (b := true) (Tr.cast (Tr.val (by walk_at "ev") Tv.str) (by simp [h0])) (fun _ => ?_) (by simp)) ?_
    · refine Ex.cons (Ex1.if_ (b := true) (Tr.cast (Tr.val (Ev.meth (by walk_at "ev") (EvL.cons (by walk_at "ev") EvL.nil) Mth.endswith) Tv.bool) h1) (fun _ => ?_) (by simp)) Ex.nil
      refine Ex.cons (Ex1.aug (by walk_at "at") (by walk_at "ev") Ip2.sub (by walk_at "at")) ?_
      refine Ex.cons (Ex1.delitem (j := ws.length - 1) (by walk_at "at") (Ev.neg Ev.int) ?_ (by simp; omega) (by decide) (by walk_at "at")) ?_
      · rw [List.length_map]
        have := StrLaws.seqIndex_neg (i := -1) (n := ws.length) (by decide) (by omega)
        rw [this]
        congr 1
        omega
      · refine Ex.castn Ex.nil ?_
        simp [List.dropLast_eq_take, List.eraseIdx_eq_take_drop_succ, List.drop_eq_nil_of_le, show ws.length - 1 + 1 = ws.length by omega, List.map_take]
    · exact em_tail hT hs (by omega) (by simp; omega)
  · rw [if_neg h1]
    rw [Bool.not_eq_true] at h1
    refine Ex.ret (Ex1.if_ (b := true) (Tr.cast (Tr.val (by walk_at "ev") Tv.str) (by simp [h0])) (fun _ => ?_) (by simp))
    exact Ex.ret (Ex1.if_ (b := false) (Tr.cast (Tr.val (Ev.meth (by walk_at "ev") (EvL.cons (by walk_at "ev") EvL.nil) Mth.endswith) Tv.bool) h1) (by simp) (fun _ => Ex.ret (Ex1.return_ (by walk_at "ev"))))
end
section
open PySem PySem.W PyProof.Rows
set_option Elab.async false
set_option linter.unusedVariables false
set_option maxRecDepth 100000
variable {T : TC}


theorem has_no {p : List Nat} {a : Nat} {ys : List Nat} (h : a ∉ p) : hasP p (a :: ys) = false := by
  unfold hasP
  rw [List.any_eq_false]
  intro i hi hc
  rw [Bool.and_eq_true] at hc
  exact h (List.mem_of_getElem? (at_head rfl hc.2))
theorem has_yes {w q : List Nat} {r : List (List Nat)} {y : List Nat} : hasP (joinP y (w :: q :: r)) y = true := by
  unfold hasP
  rw [List.any_eq_true]
  refine ⟨w.length, List.mem_range.mpr (by simp [joinP]; omega), ?_⟩
  rw [Bool.and_eq_true, decide_eq_true_iff]
  refine ⟨by simp [joinP], ?_⟩
  unfold atP
  rw [beq_iff_eq]
  show (List.drop w.length (w ++ y ++ joinP y (q :: r))).take y.length = y
  rw [List.append_assoc, List.drop_left, List.take_left]

theorem cal_em {dd : Nat} (hT : IsT T) (hd : 1 ≤ dd) {ps : List (List Nat)} {got : List Nat} (hne : ps ≠ []) (hp : ∀ p ∈ ps, 46 ∉ p) (hL : (joinP [46, 46, 46] ps).length ≤ 1048576) (hps : ps.length ≤ 1048576) : Cal T dd "_ellipsis_match" [.str (joinP [46, 46, 46] ps), .str got] (.bool (emP ps got)) := by
  rw [← n6]
  refine Cal.of (fEm hT) rfl hd ?_
  show Ex T cEm (sEm (vs (joinP [46, 46, 46] ps)) (vs got) D D D D) (dAt 6).body (.ret (.bool (emP ps got)))
  match ps, hne, hp, hL, hps with
  | [p], _, hp, hL, _ =>
    show Ex T cEm (sEm (vs p) (vs got) D D D D) (dAt 6).body (.ret (.bool (p == got)))
    exact Ex.ret (Ex1.if_ (b := true) (Tr.cast (Tr.cmp (by walk_at "ev") (by walk_at "ev") Cm2.notins) (by rw [has_no (hp p (.head _))]; rfl)) (fun _ => Ex.ret (Ex1.return_ (by walk_at "ev"))) (by simp))
  | w :: q :: r, _, hp, hL, hps =>
    have hj : (joinP [46, 46, 46] (w :: q :: r)) = joinP [46, 46, 46] (w :: q :: r) := rfl
    refine Ex.cons (Ex1.skip (Tr.cast (Tr.cmp (by walk_at "ev") (by walk_at "ev") Cm2.notins) (by rw [has_yes]; rfl))) ?_
    refine Ex.cons (Ex1.assign_new (EvN.split (by walk_at "ev") (by walk_at "ev") (by simp) hp (by decide) hL hps) (by walk_at "at")) ?_
    refine Ex.cons (Ex1.assert (Tr.cast (Tr.cmp (Ev.callo (by walk_at "ev") (EvO.name (by walk_at "at")) Bco.len) (by walk_at "ev") (by walk_at "ev")) (by simp; omega))) ?_
    refine Ex.cons (Ex1.tuple2 (by walk_at "ev") (by walk_at "ev") (by walk_at "at") (by walk_at "at") ?_) ?_
    · intro env hk hn
      unfold swappedStores Env.blockKind Env.kindOf
      rw [hk, hn]
      kernel_rfl
    refine Ex.cons (Ex1.assign (p := .str w) (Ev.subo (EvO.name (by walk_at "at")) (by walk_at "ev") (Sbo.at (by decide) rfl)) (by walk_at "at")) ?_
    show Ex T cEm _ _ (.ret (.bool (if w = [] then lastP got (w :: q :: r) 0 else if w.isPrefixOf got then lastP got (q :: r) w.length else false)))
    by_cases h0 : w = []
    · rw [if_pos h0]
      refine Ex.cons (Ex1.skip (Tr.cast (Tr.val (by walk_at "ev") Tv.str) (by simp [h0]))) ?_
      exact em_last hT (by decide) (by simp) hps
    rw [if_neg h0]
    by_cases h1 : w.isPrefixOf got = true
    · rw [if_pos h1]
      refine Ex.cons (σ1 := sEm (vs (joinP [46, 46, 46] (w :: q :: r))) (vs got) (.own ((q :: r).map .str)) (vi w.length) (vi got.length) (vs w)) (Ex1.if_ (b := true) (Tr.cast (Tr.val (by walk_at "ev") Tv.str) (by simp [h0])) (fun _ => ?_) (by simp)) ?_
      · refine Ex.cons (Ex1.if_ (b := true) (Tr.cast (Tr.val (Ev.meth (by walk_at "ev") (EvL.cons (by walk_at "ev") EvL.nil) Mth.startswith) Tv.bool) h1) (fun _ => ?_) (by simp)) Ex.nil
        refine Ex.cons (Ex1.assign (by walk_at "ev") (by walk_at "at")) ?_
        refine Ex.cons (Ex1.delitem (j := 0) (by walk_at "at") (by walk_at "ev") ?_ (by simp) (by decide) (by walk_at "at")) ?_
        · have := StrLaws.seqIndex_nonneg (i := 0) (n := ((w :: q :: r).map V.str).length) (by decide) (by simp; omega)
          exact this
        · exact Ex.castn Ex.nil rfl
      · exact em_last hT (by omega) (by simp) (by simp at hps ⊢; omega)
    · rw [if_neg h1]
      rw [Bool.not_eq_true] at h1
      refine Ex.ret (Ex1.if_ (b := true) (Tr.cast (Tr.val (by walk_at "ev") Tv.str) (by simp [h0])) (fun _ => ?_) (by simp))
      exact Ex.ret (Ex1.if_ (b := false) (Tr.cast (Tr.val (Ev.meth (by walk_at "ev") (EvL.cons (by walk_at "ev") EvL.nil) Mth.startswith) Tv.bool) h1) (by simp) (fun _ => Ex.ret (Ex1.return_ (by walk_at "ev"))))
end
section
open PySem PySem.W PyProof.Rows
set_option Elab.async false
set_option linter.unusedVariables false
set_option maxRecDepth 100000
variable {T : TC}


-- the escapes
noncomputable def cd (l : List (Nat × List Nat)) (k : Nat) : List Nat := l.foldl (fun x e => repP e.1 e.2 x) [k]
theorem cd_snoc (l : List (Nat × List Nat)) (a : Nat) (z : List Nat) (k : Nat) : repP a z (cd l k) = cd (l ++ [(a, z)]) k := by unfold cd; rw [List.foldl_append]; rfl
theorem repP_one {a k : Nat} {z : List Nat} (h : k ≠ a) : repP a z [k] = [k] := by simp [repP, h]
theorem cd_other : ∀ (l : List (Nat × List Nat)) (k : Nat), k ∉ l.map (·.1) → cd l k = [k]
  | [], k, _ => rfl
  | (a, z) :: l, k, h => by
    rw [List.map_cons, List.mem_cons, not_or] at h
    show l.foldl (fun x e => repP e.1 e.2 x) (repP a z [k]) = _
    rw [repP_one h.1]
    exact cd_other l k h.2
theorem cd_len {l : List (Nat × List Nat)} (h : ((l.map (·.1)).all fun k => decide ((cd l k).length ≤ 6)) = true) (k : Nat) : (cd l k).length ≤ 6 := by
  by_cases hk : k ∈ l.map (·.1)
  · exact of_decide_eq_true (List.all_eq_true.mp h k hk)
  · rw [cd_other l k hk]; simp
theorem flat_len {y : List Nat} {g : Nat → List Nat} (hg : ∀ k, (g k).length ≤ 6) : (y.flatMap g).length ≤ 6 * y.length := by
  induction y with
  | nil => simp
  | cons k y ih =>
    rw [List.flatMap_cons, List.length_append, List.length_cons]
    have := hg k
    omega
theorem rep_flat {a : Nat} {z : List Nat} {g : Nat → List Nat} : ∀ y : List Nat, repP a z (y.flatMap g) = y.flatMap fun k => repP a z (g k)
  | [] => rfl
  | k :: y => by rw [List.flatMap_cons, repP_append, rep_flat y, List.flatMap_cons]
theorem esc_step {c : Cx} (hN : c.N = [Str.ofString "text"]) {A Z : Str} {k1 k2 k3 p1 p2 p3 p4 p5 p6 p7 p8 p9 p10 p11 rest o} {y : List Nat} {l : List (Nat × List Nat)} {a : Nat} {z : List Nat} (hy : y.length ≤ 1000) (hA : A = S [a]) (hZ : Z = S z) (hz : z.length ≤ 14) (hne : [a] ≠ z)
    (hl : (((l ++ [(a, z)]).map (·.1)).all fun k => decide ((cd (l ++ [(a, z)]) k).length ≤ 6)) = true) (hline : (p6.endLine == p9.line) = true) (h : Ex T c [vs (y.flatMap (cd (l ++ [(a, z)])))] rest o) :
    Ex T c [vs (y.flatMap (cd l))] (.If (.Compare (.Constant (.str A) k1 p1) [.In] [.Name (Str.ofString "text") p2] p3) [.Assign [.Name (Str.ofString "text") p4] (.Call (.Attribute (.Name (Str.ofString "text") p5) (Str.ofString "replace") p6) [.Constant (.str A) k2 p7, .Constant (.str Z) k3 p8] [] p9) p10] [] p11 :: rest) o := by
  have e : repP a z (y.flatMap (cd l)) = y.flatMap (cd (l ++ [(a, z)])) := by
    rw [rep_flat]; congr 1; funext k; exact cd_snoc l a z k
  have hL : (repP a z (y.flatMap (cd l))).length ≤ 1048576 := by
    rw [e]; have := flat_len (y := y) (cd_len hl); omega
  have hat : At c.N [vs (y.flatMap (cd l))] (Str.ofString "text") (.val (.str (y.flatMap (cd l)))) := by rw [hN]; exact .here
  refine Ex.cons (σ1 := [vs (y.flatMap (cd (l ++ [(a, z)])))]) (Ex1.if_ (b := hasP (y.flatMap (cd l)) [a]) (Tr.cmp (Ev.str hA (by simp)) (Ev.name hat) Cm2.ins) (fun hb => ?_) (fun hb => ?_)) h
  · rw [← e]
    refine Ex.cons (Ex1.assign (Ev.replace (Ev.name hat) (Ev.strt hA (by simp)) hZ hz hne hL (hline := hline)) (by rw [hN]; exact .here)) Ex.nil
  · rw [hasP_one] at hb
    rw [← e, repP_free (by simpa using hb)]
    exact Ex.nil
noncomputable def escL : Nat → List (Nat × List Nat)
  | 0 => [(38, [38, 97, 109, 112, 59]), (60, [38, 108, 116, 59]), (62, [38, 103, 116, 59])]
  | 1 => [(38, [38, 97, 109, 112, 59]), (60, [38, 108, 116, 59]), (62, [38, 103, 116, 59]), (34, [38, 113, 117, 111, 116, 59]), (13, [38, 35, 49, 51, 59]), (10, [38, 35, 49, 48, 59]), (9, [38, 35, 48, 57, 59])]
  | 2 => [(38, [38, 97, 109, 112, 59]), (62, [38, 103, 116, 59]), (34, [38, 113, 117, 111, 116, 59])]
  | 3 => [(38, [38, 97, 109, 112, 59]), (60, [38, 108, 116, 59]), (62, [38, 103, 116, 59]), (13, [38, 35, 120, 68, 59])]
  | _ => [(38, [38, 97, 109, 112, 59]), (60, [38, 108, 116, 59]), (34, [38, 113, 117, 111, 116, 59]), (9, [38, 35, 120, 57, 59]), (10, [38, 35, 120, 65, 59]), (13, [38, 35, 120, 68, 59])]
noncomputable def escP (h : Nat) (y : List Nat) : List Nat := y.flatMap (cd (escL h))

theorem m8 : dAt 8 ∈ recsOf hd.view_39 := mem_view 8 (by kernel_rfl) (by kernel_rfl)
theorem m9 : dAt 9 ∈ recsOf hd.view_39 := mem_view 9 (by kernel_rfl) (by kernel_rfl)
theorem m10 : dAt 10 ∈ recsOf hd.view_39 := mem_view 10 (by kernel_rfl) (by kernel_rfl)
theorem m11 : dAt 11 ∈ recsOf hd.view_39 := mem_view 11 (by kernel_rfl) (by kernel_rfl)
theorem m12 : dAt 12 ∈ recsOf hd.view_39 := mem_view 12 (by kernel_rfl) (by kernel_rfl)
theorem n8 : (dAt 8).name = Str.ofString "_escape_cdata" := by kernel_rfl
theorem n9 : (dAt 9).name = Str.ofString "_escape_attrib" := by kernel_rfl
theorem n10 : (dAt 10).name = Str.ofString "_escape_attrib_html" := by kernel_rfl
theorem n11 : (dAt 11).name = Str.ofString "_escape_cdata_c14n" := by kernel_rfl
theorem n12 : (dAt 12).name = Str.ofString "_escape_attrib_c14n" := by kernel_rfl
theorem flat_one (y : List Nat) : y.flatMap (cd []) = y := by
  induction y with
  | nil => rfl
  | cons k y ih => rw [List.flatMap_cons, ih]; rfl
theorem esc_start {c : Cx} {y ss o} (h : Ex T c [vs (y.flatMap (cd []))] ss o) : Ex T c [vs y] ss o := by rw [flat_one] at h; exact h
theorem esc0 (hT : IsT T) {dd : Nat} (hd : 1 ≤ dd) {y : List Nat} (hy : y.length ≤ 1000) : Cal T dd "_escape_cdata" [.str y] (.str (escP 0 y)) := by
  rw [← n8]
  refine Cal.of (FnCx.of (params := [Str.ofString "text"]) (rest := []) (d := 0) (G := []) hT m8 (by decide +kernel) .nil (fun _ _ _ => len1 fun _ => rfl)) rfl hd ?_
  refine Ex.ret (Ex1.try_ (esc_start ?_))
  refine esc_step (a := 38) (z := [38, 97, 109, 112, 59]) rfl hy (by decide +kernel) (by decide +kernel) (by decide) (by decide) (by decide +kernel) rfl ?_
  refine esc_step (a := 60) (z := [38, 108, 116, 59]) rfl hy (by decide +kernel) (by decide +kernel) (by decide) (by decide) (by decide +kernel) rfl ?_
  refine esc_step (a := 62) (z := [38, 103, 116, 59]) rfl hy (by decide +kernel) (by decide +kernel) (by decide) (by decide) (by decide +kernel) rfl ?_
  exact Ex.ret (Ex1.return_ (Ev.name .here))
theorem esc1 (hT : IsT T) {dd : Nat} (hd : 1 ≤ dd) {y : List Nat} (hy : y.length ≤ 1000) : Cal T dd "_escape_attrib" [.str y] (.str (escP 1 y)) := by
  rw [← n9]
  refine Cal.of (FnCx.of (params := [Str.ofString "text"]) (rest := []) (d := 0) (G := []) hT m9 (by decide +kernel) .nil (fun _ _ _ => len1 fun _ => rfl)) rfl hd ?_
  refine Ex.ret (Ex1.try_ (esc_start ?_))
  refine esc_step (a := 38) (z := [38, 97, 109, 112, 59]) rfl hy (by decide +kernel) (by decide +kernel) (by decide) (by decide) (by decide +kernel) rfl ?_
  refine esc_step (a := 60) (z := [38, 108, 116, 59]) rfl hy (by decide +kernel) (by decide +kernel) (by decide) (by decide) (by decide +kernel) rfl ?_
  refine esc_step (a := 62) (z := [38, 103, 116, 59]) rfl hy (by decide +kernel) (by decide +kernel) (by decide) (by decide) (by decide +kernel) rfl ?_
  refine esc_step (a := 34) (z := [38, 113, 117, 111, 116, 59]) rfl hy (by decide +kernel) (by decide +kernel) (by decide) (by decide) (by decide +kernel) rfl ?_
  refine esc_step (a := 13) (z := [38, 35, 49, 51, 59]) rfl hy (by decide +kernel) (by decide +kernel) (by decide) (by decide) (by decide +kernel) rfl ?_
  refine esc_step (a := 10) (z := [38, 35, 49, 48, 59]) rfl hy (by decide +kernel) (by decide +kernel) (by decide) (by decide) (by decide +kernel) rfl ?_
  refine esc_step (a := 9) (z := [38, 35, 48, 57, 59]) rfl hy (by decide +kernel) (by decide +kernel) (by decide) (by decide) (by decide +kernel) rfl ?_
  exact Ex.ret (Ex1.return_ (Ev.name .here))
theorem esc2 (hT : IsT T) {dd : Nat} (hd : 1 ≤ dd) {y : List Nat} (hy : y.length ≤ 1000) : Cal T dd "_escape_attrib_html" [.str y] (.str (escP 2 y)) := by
  rw [← n10]
  refine Cal.of (FnCx.of (params := [Str.ofString "text"]) (rest := []) (d := 0) (G := []) hT m10 (by decide +kernel) .nil (fun _ _ _ => len1 fun _ => rfl)) rfl hd ?_
  refine Ex.ret (Ex1.try_ (esc_start ?_))
  refine esc_step (a := 38) (z := [38, 97, 109, 112, 59]) rfl hy (by decide +kernel) (by decide +kernel) (by decide) (by decide) (by decide +kernel) rfl ?_
  refine esc_step (a := 62) (z := [38, 103, 116, 59]) rfl hy (by decide +kernel) (by decide +kernel) (by decide) (by decide) (by decide +kernel) rfl ?_
  refine esc_step (a := 34) (z := [38, 113, 117, 111, 116, 59]) rfl hy (by decide +kernel) (by decide +kernel) (by decide) (by decide) (by decide +kernel) rfl ?_
  exact Ex.ret (Ex1.return_ (Ev.name .here))
theorem esc3 (hT : IsT T) {dd : Nat} (hd : 1 ≤ dd) {y : List Nat} (hy : y.length ≤ 1000) : Cal T dd "_escape_cdata_c14n" [.str y] (.str (escP 3 y)) := by
  rw [← n11]
  refine Cal.of (FnCx.of (params := [Str.ofString "text"]) (rest := []) (d := 0) (G := []) hT m11 (by decide +kernel) .nil (fun _ _ _ => len1 fun _ => rfl)) rfl hd ?_
  refine Ex.ret (Ex1.try_ (esc_start ?_))
  refine esc_step (a := 38) (z := [38, 97, 109, 112, 59]) rfl hy (by decide +kernel) (by decide +kernel) (by decide) (by decide) (by decide +kernel) rfl ?_
  refine esc_step (a := 60) (z := [38, 108, 116, 59]) rfl hy (by decide +kernel) (by decide +kernel) (by decide) (by decide) (by decide +kernel) rfl ?_
  refine esc_step (a := 62) (z := [38, 103, 116, 59]) rfl hy (by decide +kernel) (by decide +kernel) (by decide) (by decide) (by decide +kernel) rfl ?_
  refine esc_step (a := 13) (z := [38, 35, 120, 68, 59]) rfl hy (by decide +kernel) (by decide +kernel) (by decide) (by decide) (by decide +kernel) rfl ?_
  exact Ex.ret (Ex1.return_ (Ev.name .here))
theorem esc4 (hT : IsT T) {dd : Nat} (hd : 1 ≤ dd) {y : List Nat} (hy : y.length ≤ 1000) : Cal T dd "_escape_attrib_c14n" [.str y] (.str (escP 4 y)) := by
  rw [← n12]
  refine Cal.of (FnCx.of (params := [Str.ofString "text"]) (rest := []) (d := 0) (G := []) hT m12 (by decide +kernel) .nil (fun _ _ _ => len1 fun _ => rfl)) rfl hd ?_
  refine Ex.ret (Ex1.try_ (esc_start ?_))
  refine esc_step (a := 38) (z := [38, 97, 109, 112, 59]) rfl hy (by decide +kernel) (by decide +kernel) (by decide) (by decide) (by decide +kernel) rfl ?_
  refine esc_step (a := 60) (z := [38, 108, 116, 59]) rfl hy (by decide +kernel) (by decide +kernel) (by decide) (by decide) (by decide +kernel) rfl ?_
  refine esc_step (a := 34) (z := [38, 113, 117, 111, 116, 59]) rfl hy (by decide +kernel) (by decide +kernel) (by decide) (by decide) (by decide +kernel) rfl ?_
  refine esc_step (a := 9) (z := [38, 35, 120, 57, 59]) rfl hy (by decide +kernel) (by decide +kernel) (by decide) (by decide) (by decide +kernel) rfl ?_
  refine esc_step (a := 10) (z := [38, 35, 120, 65, 59]) rfl hy (by decide +kernel) (by decide +kernel) (by decide) (by decide) (by decide +kernel) rfl ?_
  refine esc_step (a := 13) (z := [38, 35, 120, 68, 59]) rfl hy (by decide +kernel) (by decide +kernel) (by decide) (by decide) (by decide +kernel) rfl ?_
  exact Ex.ret (Ex1.return_ (Ev.name .here))
end
section
open PySem PySem.W PyProof.Rows
set_option Elab.async false
set_option linter.unusedVariables false
set_option maxRecDepth 100000
set_option maxHeartbeats 4000000
variable {T : TC}


-- the spelling
noncomputable def signs : List Nat := [38, 60, 62, 34, 13, 10, 9, 98, 66]
noncomputable def turnsP : Nat → List Nat
  | 0 => [38, 60, 62]
  | 1 => [38, 60, 62, 34, 13, 10, 9]
  | 2 => [38, 62, 34]
  | 3 => [38, 60, 62, 13]
  | _ => [38, 60, 34, 13, 10, 9]
theorem m13 : dAt 13 ∈ recsOf hd.view_39 := mem_view 13 (by kernel_rfl) (by kernel_rfl)
theorem m14 : dAt 14 ∈ recsOf hd.view_39 := mem_view 14 (by kernel_rfl) (by kernel_rfl)
theorem m15 : dAt 15 ∈ recsOf hd.view_39 := mem_view 15 (by kernel_rfl) (by kernel_rfl)
theorem m16 : dAt 16 ∈ recsOf hd.view_39 := mem_view 16 (by kernel_rfl) (by kernel_rfl)
theorem m17 : dAt 17 ∈ recsOf hd.view_39 := mem_view 17 (by kernel_rfl) (by kernel_rfl)
theorem m18 : dAt 18 ∈ recsOf hd.view_39 := mem_view 18 (by kernel_rfl) (by kernel_rfl)
theorem m19 : dAt 19 ∈ recsOf hd.view_39 := mem_view 19 (by kernel_rfl) (by kernel_rfl)
theorem n13 : (dAt 13).name = Str.ofString "_law_spelling" := by kernel_rfl
theorem n14 : (dAt 14).name = Str.ofString "_law_tells" := by kernel_rfl
theorem n15 : (dAt 15).name = Str.ofString "_law_row" := by kernel_rfl
theorem n16 : (dAt 16).name = Str.ofString "_law_line" := by kernel_rfl
theorem n17 : (dAt 17).name = Str.ofString "_law_places" := by kernel_rfl
theorem n18 : (dAt 18).name = Str.ofString "_law_seen" := by kernel_rfl
theorem n19 : (dAt 19).name = Str.ofString "law" := by kernel_rfl
@[reducible] noncomputable def cSp (d : Nat) : Cx := ⟨d, (dAt 13).scope.names, [Str.ofString "hand", Str.ofString "sign"], []⟩
theorem fSp (d : Nat) (hT : IsT T) : FnCx T (dAt 13) (cSp d) [Str.ofString "hand", Str.ofString "sign"] [] :=
  FnCx.of (params := [Str.ofString "hand", Str.ofString "sign"]) (rest := []) hT m13 (by decide +kernel) .nil (fun _ _ _ => len2 fun _ _ => rfl)
theorem cst {c : Cx} {σ : List Slot} {x : Str} {k pos} (l : List Nat) (e : x = S l := by decide +kernel) (h : l.length ≤ 1048576 := by decide) : Ev T c σ (.Constant (.str x) k pos) (.str l) := Ev.str e h
theorem sp_keep : ∀ h < 5, ∀ k ∈ signs, (turnsP h).contains k = false → cd (escL h) k = [k] := by decide +kernel
noncomputable def spTab : Nat → List (List Nat)
  | 0 => [[38, 35, 49, 51, 59], [38, 35, 49, 48, 59], [38, 35, 48, 57, 59]]
  | _ => [[38, 35, 120, 68, 59], [38, 35, 120, 65, 59], [38, 35, 120, 57, 59]]
theorem sp_white : ∀ h < 5, ∀ k ∈ signs, (turnsP h).contains k = true → [13, 10, 9].contains k = true →
    (spTab (h / 3))[[13, 10, 9].findIdx (· == k)]? = some (cd (escL h) k) ∧ findP [13, 10, 9] [k] 0 3 = some ([13, 10, 9].findIdx (· == k)) := by decide +kernel
theorem sp_rest : ∀ h < 5, ∀ k ∈ signs, (turnsP h).contains k = true → [13, 10, 9].contains k = false →
    ([([38], [38, 97, 109, 112, 59]), ([60], [38, 108, 116, 59]), ([62], [38, 103, 116, 59]), ([34], [38, 113, 117, 111, 116, 59])] : List (List Nat × List Nat)).lookup [k] = some (cd (escL h) k) := by decide +kernel
theorem cal_spell {dd : Nat} (hT : IsT T) (hd : 1 ≤ dd) {h k : Nat} (hh : h < 5) (hk : k ∈ signs) : Cal T dd "_law_spelling" [.int h, .str [k]] (.str (cd (escL h) k)) := by
  rw [← n13]
  refine Cal.of (fSp 0 hT) rfl hd ?_
  show Ex T (cSp 0) [.val (.int h), .val (.str [k])] (dAt 13).body (.ret (.str (cd (escL h) k)))
  have g1 : ([.str [38, 60, 62], .str [38, 60, 62, 34, 13, 10, 9], .str [38, 62, 34], .str [38, 60, 62, 13], .str [38, 60, 34, 13, 10, 9]] : List V)[((h : Nat) : Int).toNat]? = some (.str (turnsP h)) := by
    match h, hh with
    | 0, _ => rfl
    | 1, _ => rfl
    | 2, _ => rfl
    | 3, _ => rfl
    | 4, _ => rfl
  by_cases hc : (turnsP h).contains k = true
  · refine Ex.cons (Ex1.skip (Tr.cast (Tr.cmp (Ev.name (by walk_at "at")) (Ev.sub (Ev.list (EvL.cons (cst [38, 60, 62]) (EvL.cons (cst [38, 60, 62, 34, 13, 10, 9]) (EvL.cons (cst [38, 62, 34])
      (EvL.cons (cst [38, 60, 62, 13]) (EvL.cons (cst [38, 60, 34, 13, 10, 9]) EvL.nil)))))) (Ev.name (by walk_at "at")) (Sbo.of (Sbo.at (by omega) g1))) Cm2.notins) (by rw [hasP_one, hc]; rfl))) ?_
    by_cases hw : ([13, 10, 9] : List Nat).contains k = true
    · obtain ⟨w1, w2⟩ := sp_white h hh k hk hc hw
      refine Ex.ret (Ex1.if_ (b := true) ?t1 (fun _ => ?t2) (fun e => nomatch e))
      case t1 => exact (Tr.cast (Tr.cmp (Ev.name (by walk_at "at")) (cst [13, 10, 9]) Cm2.ins) (by rw [hasP_one, hw]))
      refine Ex.ret ?_
      refine Ex1.return_ ?_
      have g2 : ([.list ((spTab 0).map .str), .list ((spTab 1).map .str)] : List V)[((h : Int) / 3).toNat]? = some (.list ((spTab (h / 3)).map .str)) := by
        match h, hh with
        | 0, _ => rfl
        | 1, _ => rfl
        | 2, _ => rfl
        | 3, _ => rfl
        | 4, _ => rfl
      refine Ev.sub (Ev.sub ?u1 ?u2 (Sbo.of (Sbo.at ?u3 g2))) ?u4 (Sbo.of (Sbo.at (k := (([13, 10, 9].findIdx (· == k) : Nat) : Int)) ?u5 ?u6))
      case u1 =>
        refine Ev.list (EvL.cons ?v1 (EvL.cons ?v2 EvL.nil))
        case v1 => exact Ev.list (EvL.cons (cst [38, 35, 49, 51, 59]) (EvL.cons (cst [38, 35, 49, 48, 59]) (EvL.cons (cst [38, 35, 48, 57, 59]) EvL.nil)))
        case v2 => exact Ev.list (EvL.cons (cst [38, 35, 120, 68, 59]) (EvL.cons (cst [38, 35, 120, 65, 59]) (EvL.cons (cst [38, 35, 120, 57, 59]) EvL.nil)))
      case u2 => walk_at "ev"
      case u3 => omega
      case u4 => exact Ev.meth (cst [13, 10, 9]) (EvL.cons (Ev.name (by walk_at "at")) EvL.nil) (Mth.index w2)
      case u5 => exact Int.natCast_nonneg _
      case u6 => rw [Int.toNat_natCast, List.getElem?_map, w1]; rfl
    · have hw : ([13, 10, 9] : List Nat).contains k = false := by simpa using hw
      have w1 := sp_rest h hh k hk hc hw
      refine Ex.cons (Ex1.skip (Tr.cast (Tr.cmp (Ev.name (by walk_at "at")) (cst [13, 10, 9]) Cm2.ins) (by rw [hasP_one, hw]))) ?_
      refine Ex.ret ?_
      refine Ex1.return_ ?_
      refine Ev.sub ?u1 ?u2 (Sb.dict w1)
      case u2 => exact Ev.name (by walk_at "at")
      refine Ev.dict ?u3 ?u4
      case u4 => decide
      refine EvD.cons ?a1 ?a2 (EvD.cons ?b1 ?b2 (EvD.cons ?c1 ?c2 (EvD.cons ?d1 ?d2 EvD.nil)))
      case a1 => exact cst [38]
      case a2 => exact cst [38, 97, 109, 112, 59]
      case b1 => exact cst [60]
      case b2 => exact cst [38, 108, 116, 59]
      case c1 => exact cst [62]
      case c2 => exact cst [38, 103, 116, 59]
      case d1 => exact cst [34]
      case d2 => exact cst [38, 113, 117, 111, 116, 59]
  · have hc : (turnsP h).contains k = false := by simpa using hc
    rw [sp_keep h hh k hk hc]
    exact Ex.ret (Ex1.if_ (b := true) (Tr.cast (Tr.cmp (Ev.name (by walk_at "at")) (Ev.sub (Ev.list (EvL.cons (cst [38, 60, 62]) (EvL.cons (cst [38, 60, 62, 34, 13, 10, 9]) (EvL.cons (cst [38, 62, 34])
      (EvL.cons (cst [38, 60, 62, 13]) (EvL.cons (cst [38, 60, 34, 13, 10, 9]) EvL.nil)))))) (Ev.name (by walk_at "at")) (Sbo.of (Sbo.at (by omega) g1))) Cm2.notins) (by rw [hasP_one, hc]; rfl)) (fun _ => Ex.ret (Ex1.return_ (Ev.name (by walk_at "at")))) (fun e => nomatch e))
end
section
open PySem PySem.W PyProof.Rows
set_option Elab.async false
set_option linter.unusedVariables false
set_option maxRecDepth 100000
set_option maxHeartbeats 4000000
variable {T : TC}


theorem g_type {T} (hT : IsT T) : GlobIs T "type" (.raw (.type "type")) := GlobIs.raw (by decide +kernel) (by decide +kernel) (by decide +kernel) (by decide +kernel) hT
theorem g_bool {T} (hT : IsT T) : GlobIs T "bool" (.raw (.type "bool")) := GlobIs.raw (by decide +kernel) (by decide +kernel) (by decide +kernel) (by decide +kernel) hT
theorem g_int {T} (hT : IsT T) : GlobIs T "int" (.raw (.type "int")) := GlobIs.raw (by decide +kernel) (by decide +kernel) (by decide +kernel) (by decide +kernel) hT
theorem g_sum {T} (hT : IsT T) : GlobIs T "sum" (.raw (.builtin "sum")) := GlobIs.raw (by decide +kernel) (by decide +kernel) (by decide +kernel) (by decide +kernel) hT
theorem g_em {T} (hT : IsT T) : GlobIs T "_ellipsis_match" (.fn "_ellipsis_match") := GlobIs.fn 6 m6 n6 (by decide +kernel) hT
theorem g_lev {T} (hT : IsT T) : GlobIs T "_levenshtein_distance" (.fn "_levenshtein_distance") := GlobIs.fn 4 m4 n4 (by decide +kernel) hT
theorem g_spell {T} (hT : IsT T) : GlobIs T "_law_spelling" (.fn "_law_spelling") := GlobIs.fn 13 m13 n13 (by decide +kernel) hT
theorem g_tells {T} (hT : IsT T) : GlobIs T "_law_tells" (.fn "_law_tells") := GlobIs.fn 14 m14 n14 (by decide +kernel) hT

@[reducible] noncomputable def cTells (d : Nat) : Cx := ⟨d, (dAt 14).scope.names, [Str.ofString "one", Str.ofString "other", Str.ofString "bound", Str.ofString "due", Str.ofString "told"],
  [(Str.ofString "_levenshtein_distance", .fn "_levenshtein_distance"), (Str.ofString "type", .raw (.type "type")), (Str.ofString "int", .raw (.type "int"))]⟩
theorem fTells (d : Nat) (hT : IsT T) : FnCx T (dAt 14) (cTells d) [Str.ofString "one", Str.ofString "other", Str.ofString "bound", Str.ofString "due"] [Str.ofString "told"] :=
  FnCx.of (params := [Str.ofString "one", Str.ofString "other", Str.ofString "bound", Str.ofString "due"]) (rest := [Str.ofString "told"]) hT m14 (by decide +kernel)
    (.cons (g_lev hT) (by decide +kernel) (.cons (g_type hT) (by decide +kernel) (.cons (g_int hT) (by decide +kernel) .nil))) (fun _ _ _ => len4 fun _ _ _ _ => rfl)
theorem cal_tells {dd : Nat} (hT : IsT T) (hd : 8 ≤ dd) {one other : List Nat} {bound due r : Int} (hc : Cal T 7 "_levenshtein_distance" [.str one, .str other, .int bound] (.int r)) : Cal T dd "_law_tells" [.str one, .str other, .int bound, .int due] (.bool (r == due)) := by
  rw [← n14]
  refine Cal.of (fTells 7 hT) rfl (by omega) ?_
  show Ex T (cTells 7) [.val (.str one), .val (.str other), .val (.int bound), .val (.int due), .dead] (dAt 14).body (.ret (.bool (r == due)))
  refine Ex.cons (Ex1.assign (Ev.call (Ev.glob (by walk_at "at")) ?g1 (EvL.cons (Ev.name (by walk_at "at")) (EvL.cons (Ev.name (by walk_at "at")) (EvL.cons (Ev.name (by walk_at "at")) EvL.nil))) hc) (by walk_at "at")) ?_
  case g1 => exact ⟨dAt 4, by rw [hT.view]; exact m4, n4⟩
  refine Ex.ret ?_
  refine Ex1.return_ ?_
  refine Ev.cast (Ev.and2 (p := .bool true) (b := true) (q := .bool (r == due)) (Ev.cmp (Ev.type_ (Ev.glob ?a1) (Ev.name ?a2) (typ_int (i := r)) ?g2) (Ev.glob ?a3) Cm2.is_ty ?a4) Tv.bool (fun _ => ?a5)) ?a6
  case a1 => walk_at "at"
  case a2 => walk_at "at"
  case a3 => walk_at "at"
  case g2 => decide
  case a4 => with_unfolding_all rfl
  case a5 => walk_at "ev"
  case a6 => rfl
end
section
open PySem PySem.W PyProof.Rows
set_option Elab.async false
set_option linter.unusedVariables false
set_option maxRecDepth 100000
set_option maxHeartbeats 4000000
variable {T : TC}


noncomputable def escName : Nat → Str
  | 0 => Str.ofString "_escape_cdata"
  | 1 => Str.ofString "_escape_attrib"
  | 2 => Str.ofString "_escape_attrib_html"
  | 3 => Str.ofString "_escape_cdata_c14n"
  | _ => Str.ofString "_escape_attrib_c14n"
theorem g_e0 {T} (hT : IsT T) : GlobIs T "_escape_cdata" (.fn "_escape_cdata") := GlobIs.fn 8 m8 n8 (by decide +kernel) hT
theorem g_e1 {T} (hT : IsT T) : GlobIs T "_escape_attrib" (.fn "_escape_attrib") := GlobIs.fn 9 m9 n9 (by decide +kernel) hT
theorem g_e2 {T} (hT : IsT T) : GlobIs T "_escape_attrib_html" (.fn "_escape_attrib_html") := GlobIs.fn 10 m10 n10 (by decide +kernel) hT
theorem g_e3 {T} (hT : IsT T) : GlobIs T "_escape_cdata_c14n" (.fn "_escape_cdata_c14n") := GlobIs.fn 11 m11 n11 (by decide +kernel) hT
theorem g_e4 {T} (hT : IsT T) : GlobIs T "_escape_attrib_c14n" (.fn "_escape_attrib_c14n") := GlobIs.fn 12 m12 n12 (by decide +kernel) hT
theorem esc_mem (hT : IsT T) {h : Nat} (hh : h < 5) : ∃ d, d ∈ recsOf T.view ∧ d.name = escName h := by
  rw [hT.view]
  match h, hh with
  | 0, _ => exact ⟨_, m8, n8⟩
  | 1, _ => exact ⟨_, m9, n9⟩
  | 2, _ => exact ⟨_, m10, n10⟩
  | 3, _ => exact ⟨_, m11, n11⟩
  | 4, _ => exact ⟨_, m12, n12⟩
theorem cal_write (hT : IsT T) {dd h : Nat} (hd : 1 ≤ dd) (hh : h < 5) {y : List Nat} (hy : y.length ≤ 1000) : Cal T dd (escName h) [.str y] (.str (escP h y)) := by
  match h, hh with
  | 0, _ => exact esc0 hT hd hy
  | 1, _ => exact esc1 hT hd hy
  | 2, _ => exact esc2 hT hd hy
  | 3, _ => exact esc3 hT hd hy
  | 4, _ => exact esc4 hT hd hy
theorem cal_tellsP (hT : IsT T) {dd : Nat} (hd : 8 ≤ dd) {a b : List Nat} {mx due : Int} (ha : ∀ x ∈ a, x < 128) (hb : ∀ x ∈ b, x < 128) (hal : a.length ≤ 1048576) (hbl : b.length ≤ 1048576) :
    Cal T dd "_law_tells" [.str a, .str b, .int mx, .int due] (.bool (levP subP a b mx == due)) := cal_tells hT hd (cal_lev hT (by omega) ha hb hal hbl)
end
section
open PySem PySem.W PyProof.Rows
set_option Elab.async false
set_option linter.unusedVariables false
set_option maxRecDepth 100000
set_option maxHeartbeats 4000000
variable {T : TC}


-- law 02: signs for tokens
noncomputable def fM (a b c t : Nat) : Nat := match t with
  | 0 => a
  | 1 => b
  | 2 => c
  | 3 => 47
  | 4 => 124
  | _ => 61
structure Mk (h a b c : Nat) : Prop where
  hh : h < 5
  ha : a ∈ signs
  hb : b ∈ signs
  hc : c ∈ 0 :: signs
  ab : a ≠ b
  ac : a ≠ c
  bc : b ≠ c
noncomputable def lowN (x : Nat) : Nat := cond (Nat.ble 65 x && Nat.ble x 90) (Nat.add x 32) x
theorem lowN_eq (x : Nat) : lowP x = lowN x := by
  unfold lowP lowN
  by_cases h : 65 ≤ x ∧ x ≤ 90
  · have e : (Nat.ble 65 x && Nat.ble x 90) = true := by rw [Bool.and_eq_true, Nat.ble_eq, Nat.ble_eq]; exact h
    rw [if_pos h, e]; rfl
  · have e : (Nat.ble 65 x && Nat.ble x 90) = false := Bool.eq_false_iff.mpr (by rw [ne_eq, Bool.and_eq_true, Nat.ble_eq, Nat.ble_eq]; exact h)
    rw [if_neg h, e]; rfl
noncomputable def subM (x y : Nat) : Nat := cond (Nat.beq x y) 0 (cond (Nat.beq (lowN x) (lowN y)) 1 2)
theorem beqf {x y : Nat} (h : x ≠ y) : Nat.beq x y = false := Bool.eq_false_iff.mpr fun e => h (Nat.eq_of_beq_eq_true e)
theorem beqt {x y : Nat} (h : x = y) : Nat.beq x y = true := by subst h; exact Nat.beq_refl x
theorem subM_eq (x y : Nat) : subP x y = (subM x y : Int) := by
  unfold subP subM
  by_cases h : x = y
  · rw [if_pos h, beqt h]; rfl
  · rw [if_neg h, beqf h]
    rw [lowN_eq, lowN_eq]
    by_cases h2 : lowN x = lowN y
    · rw [if_pos h2]
      show _ = ((cond (Nat.beq (lowN x) (lowN y)) 1 2 : Nat) : Int)
      rw [beqt h2]; rfl
    · rw [if_neg h2]
      show _ = ((cond (Nat.beq (lowN x) (lowN y)) 1 2 : Nat) : Int)
      rw [beqf h2]; rfl
noncomputable def qM (a b c : Nat) : Nat := cond (Nat.beq (lowN a) (lowN b)) 1 (cond (Nat.beq (lowN a) (lowN c)) 2 (cond (Nat.beq (lowN b) (lowN c)) 3 0))
noncomputable def tokB (a b c : Nat) : Bool := match qM a b c with
  | q => Nat.blt q 4 && (List.range 6).all fun i => match fM a b c i with
    | x => Nat.blt x 128 && (List.range 6).all fun j => match fM a b c j with
      | y => Nat.beq (subM x y) (subQ q i j) && (Nat.beq i j || !Nat.beq x y)
theorem tok_all3 : (signs.all fun a => signs.all fun b => (0 :: signs).all fun c => Nat.beq a b || Nat.beq a c || Nat.beq b c || tokB a b c) = true := by decide +kernel
noncomputable abbrev lets : List Nat := 0 :: 47 :: 124 :: signs
noncomputable def codC (h x y : Nat) : Bool := match cd (escL h) x, cd (escL h) y with
  | u, v => !u.isEmpty && !u.contains 46 && Nat.ble u.length 6 && u.all (fun k => Nat.blt k 128) && (Nat.beq x y || (!u.isPrefixOf v && !u.isSuffixOf v)) && (match u.head? with | some z => !v.tail.contains z | none => true)
theorem cod_all3 : ((List.range 5).all fun h => lets.all fun x => lets.all fun y => codC h x y) = true := by decide +kernel
theorem str_all3 : ((List.range 5).all fun h => cd (escL h) 47 == [47] && cd (escL h) 124 == [124]) = true := by decide +kernel
noncomputable def gM (h a b c t : Nat) : List Nat := cd (escL h) (fM a b c t)
section
variable {h a b c : Nat} (K : Mk h a b c)
include K
theorem tok_of : qM a b c < 4 ∧ ∀ i < 6, fM a b c i < 128 ∧ ∀ j < 6, subP (fM a b c i) (fM a b c j) = (subQ (qM a b c) i j : Int) ∧ (fM a b c i = fM a b c j → i = j) := by
  have h1 := List.all_eq_true.mp (List.all_eq_true.mp (List.all_eq_true.mp tok_all3 a K.ha) b K.hb) c K.hc
  rw [beqf K.ab, beqf K.ac, beqf K.bc, Bool.false_or, Bool.false_or, Bool.false_or] at h1
  have h1 : (Nat.blt (qM a b c) 4 && (List.range 6).all fun i => Nat.blt (fM a b c i) 128 && (List.range 6).all fun j => Nat.beq (subM (fM a b c i) (fM a b c j)) (subQ (qM a b c) i j) && (Nat.beq i j || !Nat.beq (fM a b c i) (fM a b c j))) = true := h1
  rw [Bool.and_eq_true, Nat.blt_eq] at h1
  refine ⟨h1.1, fun i hi => ?_⟩
  have h2 := List.all_eq_true.mp h1.2 i (List.mem_range.mpr hi)
  rw [Bool.and_eq_true, Nat.blt_eq] at h2
  refine ⟨h2.1, fun j hj => ?_⟩
  have h3 := List.all_eq_true.mp h2.2 j (List.mem_range.mpr hj)
  rw [Bool.and_eq_true, Bool.or_eq_true, Bool.not_eq_true'] at h3
  refine ⟨by rw [subM_eq, Nat.eq_of_beq_eq_true h3.1], fun e => ?_⟩
  rcases h3.2 with h4 | h4
  · exact Nat.eq_of_beq_eq_true h4
  · rw [beqt e] at h4; cases h4
theorem lowM_of {i j : Nat} (hi : i < 3) (hj : j < 3) (hn : i ≠ j) : (lowP (fM a b c i) == lowP (fM a b c j)) = pairQ (qM a b c) i j := by
  obtain ⟨h1, h2⟩ := ((tok_of K).2 i (by omega)).2 j (by omega)
  unfold subP at h1
  rw [if_neg fun e => hn (h2 e)] at h1
  unfold subQ at h1
  rw [beqf hn] at h1
  have h1 : (if lowP (fM a b c i) = lowP (fM a b c j) then (1 : Int) else 2) = ((cond (pairQ (qM a b c) i j) 1 2 : Nat) : Int) := h1
  cases hp : pairQ (qM a b c) i j with
  | true =>
    rw [hp] at h1
    by_cases e : lowP (fM a b c i) = lowP (fM a b c j)
    · rw [e, beq_self_eq_true]
    · rw [if_neg e] at h1; exact absurd h1 (by decide)
  | false =>
    rw [hp] at h1
    by_cases e : lowP (fM a b c i) = lowP (fM a b c j)
    · rw [if_pos e] at h1; exact absurd h1 (by decide)
    · exact beq_false_of_ne e
theorem fM_let {t : Nat} (ht : t < 5) : fM a b c t ∈ lets := by
  have ha := K.ha; have hb := K.hb; have hc := K.hc
  match t, ht with
  | 0, _ => exact .tail _ (.tail _ (.tail _ ha))
  | 1, _ => exact .tail _ (.tail _ (.tail _ hb))
  | 2, _ =>
    rcases List.mem_cons.mp hc with e | hc
    · show c ∈ lets
      rw [e]; exact .head _
    · exact .tail _ (.tail _ (.tail _ hc))
  | 3, _ => exact .tail _ (.head _)
  | 4, _ => exact .tail _ (.tail _ (.head _))
theorem cod_M {s t : Nat} (hs : s < 5) (ht : t < 5) : gM h a b c s ≠ [] ∧ 46 ∉ gM h a b c s ∧ (gM h a b c s).length ≤ 6 ∧ (∀ k ∈ gM h a b c s, k < 128) ∧ (s ≠ t → ¬ gM h a b c s <+: gM h a b c t ∧ ¬ gM h a b c s <:+ gM h a b c t) ∧ (∀ z, (gM h a b c s).head? = some z → z ∉ (gM h a b c t).tail) := by
  have h1 := List.all_eq_true.mp (List.all_eq_true.mp (List.all_eq_true.mp cod_all3 h (List.mem_range.mpr K.hh)) _ (fM_let K hs)) _ (fM_let K ht)
  have h1 : (!(gM h a b c s).isEmpty && !(gM h a b c s).contains 46 && Nat.ble (gM h a b c s).length 6 && (gM h a b c s).all (fun k => Nat.blt k 128) && (Nat.beq (fM a b c s) (fM a b c t) || (!(gM h a b c s).isPrefixOf (gM h a b c t) && !(gM h a b c s).isSuffixOf (gM h a b c t))) && (match (gM h a b c s).head? with | some z => !(gM h a b c t).tail.contains z | none => true)) = true := h1
  simp only [Bool.and_eq_true] at h1
  obtain ⟨⟨⟨⟨⟨h2, h3⟩, h4⟩, h5⟩, h6⟩, h7⟩ := h1
  refine ⟨?_, ?_, by rwa [Nat.ble_eq] at h4, ?_, ?_, ?_⟩
  · intro e; rw [e] at h2; simp at h2
  · simpa using h3
  · intro k hk
    have := List.all_eq_true.mp h5 k hk
    rwa [Nat.blt_eq] at this
  · intro hst
    have hne : fM a b c s ≠ fM a b c t := fun e => hst ((((tok_of K).2 s (by omega)).2 t (by omega)).2 e)
    rw [beqf hne, Bool.false_or, Bool.and_eq_true, Bool.not_eq_true', Bool.not_eq_true'] at h6
    rw [← List.isPrefixOf_iff_prefix, ← List.isSuffixOf_iff_suffix, h6.1, h6.2]
    exact ⟨by decide, by decide⟩
  · intro z hz
    rw [hz] at h7
    simpa using h7
theorem codM : Cod (gM h a b c) (· < 5) where
  ne s hs := (cod_M K hs hs).1
  pre s t hs ht hp := Classical.byContradiction fun hn => ((cod_M K hs ht).2.2.2.2.1 hn).1 hp
  suf s t hs ht hp := Classical.byContradiction fun hn => ((cod_M K hs ht).2.2.2.2.1 hn).2 hp
  head s t z hs ht hz := (cod_M K hs ht).2.2.2.2.2 z hz
theorem gM_str : gM h a b c 3 = [47] ∧ gM h a b c 4 = [124] := by
  have h1 := List.all_eq_true.mp str_all3 h (List.mem_range.mpr K.hh)
  rw [Bool.and_eq_true, beq_iff_eq, beq_iff_eq] at h1
  exact h1
end
noncomputable def barP (p q r : List Nat) : List Nat := p ++ [47] ++ q ++ [124] ++ r
-- the lines' texts
noncomputable def fLine3 (a b c : Nat) (r : List Nat) : List Nat := barP [fM a b c (r.getD 0 0)] [fM a b c (r.getD 1 0)] [fM a b c (r.getD 2 0)]
noncomputable def gLine3 (h a b c : Nat) (r : List Nat) : List Nat := barP (gM h a b c (r.getD 0 0)) (gM h a b c (r.getD 1 0)) (gM h a b c (r.getD 2 0))
noncomputable def pcM (h a b c t : Nat) : List Nat := if t = 6 then [46, 46, 46] else gM h a b c t
noncomputable def rcM (a b c t : Nat) : List Nat := if t = 6 then [] else [fM a b c t]
noncomputable def wantM (h a b c : Nat) (p : List Nat) : List Nat := barP (pcM h a b c (p.getD 0 0)) (pcM h a b c (p.getD 1 0)) (pcM h a b c (p.getD 2 0))
noncomputable def restM (a b c : Nat) (p : List Nat) : List Nat := barP (rcM a b c (p.getD 0 0)) (rcM a b c (p.getD 1 0)) (rcM a b c (p.getD 2 0))
noncomputable def partsM (h a b c : Nat) (p : List Nat) : List (List Nat) := (cutAt 6 (lineT p)).map (·.flatMap (gM h a b c))
theorem fig_lt : ∀ t ∈ figs, t < 3 := by decide
theorem ask_lt : ∀ t ∈ asks, t < 3 ∨ t = 6 := by decide
theorem lineT_fig {r : List Nat} (hr : r ∈ allN figs) : ∀ t ∈ lineT r, t < 5 := by
  obtain ⟨x, y, z, rfl, hx, hy, hz⟩ := allN_of hr
  have hx := fig_lt x hx; have hy := fig_lt y hy; have hz := fig_lt z hz
  have up : ∀ t, t < 3 → t < 5 := fun t h => Nat.lt_trans h (by decide)
  intro t ht
  simp only [lineT, List.getD_cons_zero, List.getD_cons_succ, List.mem_cons, List.not_mem_nil, or_false] at ht
  rcases ht with rfl | rfl | rfl | rfl | rfl
  · exact up _ hx
  · decide
  · exact up _ hy
  · decide
  · exact up _ hz
theorem lineT_ask {p : List Nat} (hp : p ∈ allN asks) : ∀ t ∈ lineT p, t < 5 ∨ t = 6 := by
  obtain ⟨x, y, z, rfl, hx, hy, hz⟩ := allN_of hp
  have up : ∀ t, t < 3 ∨ t = 6 → t < 5 ∨ t = 6 := fun t h => h.imp (fun h => Nat.lt_trans h (by decide)) id
  have hx := up _ (ask_lt x hx); have hy := up _ (ask_lt y hy); have hz := up _ (ask_lt z hz)
  intro t ht
  simp only [lineT, List.getD_cons_zero, List.getD_cons_succ, List.mem_cons, List.not_mem_nil, or_false] at ht
  rcases ht with rfl | rfl | rfl | rfl | rfl
  · exact hx
  · exact .inl (by decide)
  · exact hy
  · exact .inl (by decide)
  · exact hz
section
variable {h a b c : Nat} (K : Mk h a b c)
theorem fline_tok (r : List Nat) : fLine3 a b c r = (lineT r).map (fM a b c) := rfl
include K in
theorem gline_tok (r : List Nat) : gLine3 h a b c r = (lineT r).flatMap (gM h a b c) := by
  obtain ⟨e3, e4⟩ := gM_str K
  unfold gLine3 lineT barP
  simp only [List.flatMap_cons, List.flatMap_nil, e3, e4, List.append_nil, List.append_assoc]
theorem esc_fline (r : List Nat) : escP h (fLine3 a b c r) = (lineT r).flatMap (gM h a b c) := by
  rw [fline_tok]
  unfold escP
  rw [List.flatMap_map]
  rfl
include K in
theorem want_join (p : List Nat) : joinP [46, 46, 46] (partsM h a b c p) = wantM h a b c p := by
  obtain ⟨e3, e4⟩ := gM_str K
  unfold partsM
  rw [cut_join]
  unfold lineT wantM barP pcM
  simp only [List.flatMap_cons, List.flatMap_nil, List.append_nil, List.append_assoc]
  rw [if_neg (by decide : ¬ (3 : Nat) = 6), if_neg (by decide : ¬ (4 : Nat) = 6), e3, e4]
theorem parts_ne (p : List Nat) : partsM h a b c p ≠ [] := by
  unfold partsM
  intro e
  exact cut_ne 6 _ (List.map_eq_nil_iff.mp e)
theorem parts_len3 (p : List Nat) : (partsM h a b c p).length ≤ 6 := by
  unfold partsM
  rw [List.length_map]
  exact cut_len 6 (lineT p)
theorem cut_tok {p : List Nat} (hp : p ∈ allN asks) : ∀ w ∈ cutAt 6 (lineT p), ∀ t ∈ w, t < 5 := fun w hw t ht => by
  obtain ⟨h1, h2⟩ := cut_free hw t ht
  rcases lineT_ask hp t h1 with h3 | h3
  · exact h3
  · exact absurd h3 h2
include K in
theorem parts_dot {p : List Nat} (hp : p ∈ allN asks) : ∀ w ∈ partsM h a b c p, 46 ∉ w := by
  intro w hw hm
  unfold partsM at hw
  obtain ⟨v, hv, rfl⟩ := List.mem_map.mp hw
  obtain ⟨t, ht, hm⟩ := List.mem_flatMap.mp hm
  have := cut_tok hp v hv t ht
  exact (cod_M K this this).2.1 hm
include K in
theorem em_want {r p : List Nat} (hr : r ∈ allN figs) (hp : p ∈ allN asks) : emP (partsM h a b c p) (gLine3 h a b c r) = heldT r p := by
  rw [gline_tok K]
  unfold partsM
  rw [em_code (codM K) (lineT_fig hr) (cut_tok hp), em_row hr hp]
theorem rest_tok (p : List Nat) : restM a b c p = (restT p).map (fM a b c) := by
  have key : ∀ t, rcM a b c t = (pieceT t).map (fM a b c) := fun t => by
    unfold rcM pieceT
    split <;> rfl
  unfold restM restT barP
  simp only [key, List.map_append, List.map_cons, List.map_nil, List.append_assoc]
  rfl
include K in
theorem gM_len {t : Nat} (ht : t < 5) : (gM h a b c t).length ≤ 6 := (cod_M K ht ht).2.2.1
include K in
theorem lev_fM {u v : List Nat} (hu : ∀ t ∈ u, t < 6) (hv : ∀ t ∈ v, t < 6) (mx : Int) : levP subP (u.map (fM a b c)) (v.map (fM a b c)) mx = levP (fun i j => (subQ (qM a b c) i j : Int)) u v mx :=
  lev_map (D := (· < 6)) (fun i j hi hj => (((tok_of K).2 i hi).2 j hj).2) (fun i j hi hj => (((tok_of K).2 i hi).2 j hj).1) hu hv mx
include K in
theorem lev_line {r p : List Nat} (hr : r ∈ allN figs) (hp : p ∈ allN asks) : levP subP (fLine3 a b c r) (restM a b c p) (dueQ (qM a b c) r p : Nat) = (dueQ (qM a b c) r p : Nat) := by
  rw [fline_tok, rest_tok, lev_fM K (fun t ht => by have := lineT_fig hr t ht; omega) ?_]
  · exact lev_rest (tok_of K).1 hr hp
  · obtain ⟨x, y, z, rfl, hx, hy, hz⟩ := allN_of hp
    have key : ∀ u ∈ asks, ∀ t ∈ pieceT u, t < 6 := by decide
    intro t ht
    simp only [restT, List.getD_cons_zero, List.getD_cons_succ, List.mem_append, List.mem_singleton] at ht
    rcases ht with h | rfl | h | rfl | h
    · exact key _ hx t h
    · decide
    · exact key _ hy t h
    · decide
    · exact key _ hz t h
include K in
theorem fM_asc {t : Nat} (ht : t < 6) : fM a b c t < 128 := ((tok_of K).2 t ht).1
include K in
theorem lev_heads {r : List Nat} (hr : r ∈ allN figs) : levP subP (fLine3 a b c r) [fM a b c (r.getD 0 0), 47] 4 = 6 ∧ levP subP (fLine3 a b c r) [124, fM a b c (r.getD 2 0)] 4 = 6 ∧ levP subP [fM a b c (r.getD 0 0), 47, 61] [61, fM a b c (r.getD 0 0), 47] 4 = 4 := by
  have hq := (tok_of K).1
  have h1 := List.all_eq_true.mp (List.all_eq_true.mp fH (qM a b c) (List.mem_range.mpr hq)) r hr
  unfold factH at h1
  rw [Bool.and_eq_true, Bool.and_eq_true] at h1
  have hl : ∀ t ∈ lineT r, t < 6 := fun t ht => by have := lineT_fig hr t ht; omega
  obtain ⟨x, y, z, hxyz, hx, hy, hz⟩ := allN_of hr
  have hx := fig_lt x hx; have hz := fig_lt z hz
  have h0 : r.getD 0 0 < 6 := by rw [hxyz]; show x < 6; omega
  have h2 : r.getD 2 0 < 6 := by rw [hxyz]; show z < 6; omega
  have s2 : ∀ {u v : Nat}, u < 6 → v < 6 → ∀ t ∈ [u, v], t < 6 := by
    intro u v hu hv t ht
    simp only [List.mem_cons, List.not_mem_nil, or_false] at ht
    rcases ht with rfl | rfl
    · exact hu
    · exact hv
  have s3 : ∀ {u v w : Nat}, u < 6 → v < 6 → w < 6 → ∀ t ∈ [u, v, w], t < 6 := by
    intro u v w hu hv hw t ht
    simp only [List.mem_cons, List.not_mem_nil, or_false] at ht
    rcases ht with rfl | rfl | rfl
    · exact hu
    · exact hv
    · exact hw
  refine ⟨?_, ?_, ?_⟩
  · have e := lev_fM K hl (s2 h0 (by decide : (3 : Nat) < 6)) ((4 : Nat) : Int)
    rw [lev_eq, Nat.eq_of_beq_eq_true h1.1.1] at e
    exact e
  · have e := lev_fM K hl (s2 (by decide : (4 : Nat) < 6) h2) ((4 : Nat) : Int)
    rw [lev_eq, Nat.eq_of_beq_eq_true h1.1.2] at e
    exact e
  · have e := lev_fM K (s3 h0 (by decide : (3 : Nat) < 6) (by decide : (5 : Nat) < 6)) (s3 (by decide : (5 : Nat) < 6) h0 (by decide : (3 : Nat) < 6)) ((4 : Nat) : Int)
    rw [lev_eq, Nat.eq_of_beq_eq_true h1.2] at e
    exact e
end
-- many strange signs
theorem lev_many {sub : Nat → Nat → Int} {z : Nat} (hz : z ≠ 61) : levP sub (List.replicate 41 61) [z] 99 = 100 := by
  have h1 : ¬ List.replicate 41 61 = [z] := by intro e; have := congrArg List.length e; simp at this
  have h2 : ¬ (61 : Nat) = z := fun e => hz e.symm
  have c1 : cpl (List.replicate 41 61) [z] = 0 := by
    show (if 61 = z then _ else 0) = 0
    rw [if_neg h2]
  have c2 : cpl (List.replicate 41 61).reverse [z].reverse = 0 := by
    rw [List.reverse_replicate]
    exact c1
  unfold levP
  rw [if_neg h1]
  simp only [c1, List.drop_zero, c2, Nat.sub_zero, List.take_length]
  unfold coreP
  rw [if_neg (by simp), if_pos (by simp)]
  rfl
end
section
open PySem PySem.W PyProof.Rows
set_option Elab.async false
set_option linter.unusedVariables false
set_option maxRecDepth 100000
set_option maxHeartbeats 4000000
variable {T : TC}


-- what the law's small helpers give
theorem g_row {T} (hT : IsT T) : GlobIs T "_law_row" (.fn "_law_row") := GlobIs.fn 15 m15 n15 (by decide +kernel) hT
theorem g_line {T} (hT : IsT T) : GlobIs T "_law_line" (.fn "_law_line") := GlobIs.fn 16 m16 n16 (by decide +kernel) hT
theorem g_places {T} (hT : IsT T) : GlobIs T "_law_places" (.fn "_law_places") := GlobIs.fn 17 m17 n17 (by decide +kernel) hT
theorem g_seen {T} (hT : IsT T) : GlobIs T "_law_seen" (.fn "_law_seen") := GlobIs.fn 18 m18 n18 (by decide +kernel) hT


noncomputable abbrev intsV (l : List Nat) : V := .list (l.map fun (n : Nat) => .int (n : Int))
@[reducible] noncomputable def cRow : Cx := ⟨0, (dAt 15).scope.names, [Str.ofString "number", Str.ofString "base"], []⟩
theorem fRow (hT : IsT T) : FnCx T (dAt 15) cRow [Str.ofString "number", Str.ofString "base"] [] :=
  FnCx.of (params := [Str.ofString "number", Str.ofString "base"]) (rest := []) hT m15 (by decide +kernel) .nil (fun _ _ _ => len2 fun _ _ => rfl)
theorem cal_row {dd : Nat} (hT : IsT T) (hd : 1 ≤ dd) {n b : Nat} (hb : 0 < b) (hb2 : b ≤ 1000) : Cal T dd "_law_row" [.int (n : Int), .int (b : Int)] (intsV (rowT n b)) := by
  rw [← n15]
  refine Cal.of (fRow hT) rfl hd ?_
  show Ex T cRow [.val (.int n), .val (.int b)] (dAt 15).body (.ret (intsV (rowT n b)))
  refine Ex.ret (Ex1.return_ (Ev.cast (Ev.list (ps := [.int ((n : Int) % b), .int ((n : Int) / b % b), .int ((n : Int) / b / b % b)]) (EvL.cons ?a (EvL.cons ?b (EvL.cons ?c EvL.nil)))) ?e))
  case a => exact Ev.bin (Ev.name (by walk_at "at")) (Ev.name (by walk_at "at")) (Op2.mod' (by omega))
  case b => exact Ev.bin (Ev.bin (Ev.name (by walk_at "at")) (Ev.name (by walk_at "at")) (Op2.div' (by omega) (by omega))) (Ev.name (by walk_at "at")) (Op2.mod' (by omega))
  case c => exact Ev.bin (Ev.bin (Ev.bin (Ev.name (by walk_at "at")) (Ev.name (by walk_at "at")) (Op2.div' (by omega) (by omega))) (Ev.name (by walk_at "at")) (Op2.div' (by omega) (by omega))) (Ev.name (by walk_at "at")) (Op2.mod' (by omega))
  case e => unfold rowT intsV; simp


@[reducible] noncomputable def cLine : Cx := ⟨0, (dAt 16).scope.names, [Str.ofString "pieces"], []⟩
theorem fLine (hT : IsT T) : FnCx T (dAt 16) cLine [Str.ofString "pieces"] [] :=
  FnCx.of (params := [Str.ofString "pieces"]) (rest := []) hT m16 (by decide +kernel) .nil (fun _ _ _ => len1 fun _ => rfl)
theorem cal_line {dd : Nat} (hT : IsT T) (hd : 1 ≤ dd) {p q r : List Nat} (hp : p.length ≤ 1000) (hq : q.length ≤ 1000) (hr : r.length ≤ 1000) : Cal T dd "_law_line" [.list [.str p, .str q, .str r]] (.str (barP p q r)) := by
  rw [← n16]
  refine Cal.of (fLine hT) rfl hd ?_
  show Ex T cLine [.val (.list [.str p, .str q, .str r])] (dAt 16).body (.ret (.str (barP p q r)))
  refine Ex.ret (Ex1.return_ (Ev.bin (Ev.bin (Ev.bin (Ev.bin ?a (cst [47]) (Op2.cat ?s1)) ?b (Op2.cat ?s2)) (cst [124]) (Op2.cat ?s3)) ?c (Op2.cat ?s4)))
  case a => exact Ev.sub (Ev.name (by walk_at "at")) Ev.int (Sbo.of (Sbo.at (by decide) rfl))
  case b => exact Ev.sub (Ev.name (by walk_at "at")) Ev.int (Sbo.of (Sbo.at (by decide) rfl))
  case c => exact Ev.sub (Ev.name (by walk_at "at")) Ev.int (Sbo.of (Sbo.at (by decide) rfl))
  case s1 => simp; omega
  case s2 => simp; omega
  case s3 => simp; omega
  case s4 => simp; omega


@[reducible] noncomputable def cPl : Cx := ⟨0, (dAt 17).scope.names, [Str.ofString "choice"], [(Str.ofString "range", .raw (.type "range"))]⟩
theorem fPl (hT : IsT T) : FnCx T (dAt 17) cPl [Str.ofString "choice"] [] :=
  FnCx.of (params := [Str.ofString "choice"]) (rest := []) hT m17 (by decide +kernel) (.cons (g_range hT) (by decide +kernel) .nil) (fun _ _ _ => len1 fun _ => rfl)
theorem pow2_small {i : Nat} (h : i ≤ 10) : (0 : Int) < 2 ^ i ∧ (2 : Int) ^ i ≤ 1024 ∧ (2 : Int) ^ i = ((2 ^ i : Nat) : Int) := by
  have h1 : 2 ^ i ≤ 2 ^ 10 := Nat.pow_le_pow_right (by decide) h
  have h2 : 0 < 2 ^ i := Nat.pow_pos (by decide)
  have e : (2 : Int) ^ i = ((2 ^ i : Nat) : Int) := by push_cast; rfl
  rw [e]
  refine ⟨by omega, by omega, rfl⟩
theorem cal_places {dd : Nat} (hT : IsT T) (hd : 1 ≤ dd) (ch : Nat) : Cal T dd "_law_places" [.int (ch : Int)] (intsV (placesT ch)) := by
  rw [← n17]
  refine Cal.of (fPl hT) rfl hd ?_
  show Ex T cPl [.val (.int ch)] (dAt 17).body (.ret (intsV (placesT ch)))
  refine Ex.ret (Ex1.return_ ?_)
  refine Ev.compF (xs := List.range 3) (w := fun (k : Nat) => .int (k : Int)) (f := fun (k : Nat) => .int (k : Int)) (caps := [Str.ofString "choice"]) (cs := [.val (.int ch)]) (G' := []) ?it ?ok ?cap ?g ?test ?elt ?sz
  case it => exact It.range1 (n := 3) (Ev.glob (by walk_at "at")) Ev.int (by decide)
  case ok => decide +kernel
  case cap => exact CapL.val (by walk_at "at") .nil
  case g => exact .skip .nil
  case sz => decide
  case elt => intro k _ _; exact Ev.name (by walk_at "at")
  case test =>
    intro k hk
    have hk : k < 3 := List.mem_range.mp hk
    obtain ⟨p1, p2, p3⟩ := pow2_small (i := k) (by omega)
    refine TrIf.one (Tr.cast (Tr.cmp (Ev.bin (Ev.bin (Ev.name (by walk_at "at")) (Ev.bin Ev.int (Ev.name (by walk_at "at")) (Op2.pow (Int.natCast_nonneg _) (by omega) (by decide))) (Op2.div' (by rw [Int.toNat_natCast]; exact p1) (by rw [Int.toNat_natCast]; omega))) Ev.int (Op2.mod' (by decide))) Ev.int Cm2.eq) ?_)
    rw [Int.toNat_natCast, p3, Bool.eq_iff_iff, beq_iff_eq, beq_iff_eq]
    rw [show ((ch : Int) / ((2 ^ k : Nat) : Int) % 2) = ((ch / 2 ^ k % 2 : Nat) : Int) from by push_cast; rfl]
    omega
end
section
open PySem PySem.W PyProof.Rows
set_option Elab.async false
set_option linter.unusedVariables false
set_option maxRecDepth 100000
set_option maxHeartbeats 4000000
variable {T : TC}


-- the names' values in _law_seen
theorem eqV_nat (a b : Nat) : eqV (.int (a : Int)) (.int (b : Int)) = (a == b) := by
  rw [eqV_int, Bool.eq_iff_iff, beq_iff_eq, beq_iff_eq]; omega
theorem inV_nat (k : Nat) (l : List Nat) : inV (.int (k : Int)) (l.map fun (n : Nat) => .int (n : Int)) = l.contains k := inV_map (f := fun (n : Nat) => V.int (n : Int)) eqV_nat k l
theorem dOk_nats {n : Nat} (l : List Nat) : dOks n (l.map fun (n : Nat) => V.int (n : Int)) = true := dOks_map fun _ _ => by unfold dOk; rfl
theorem dOk_nat {n : Nat} (k : Nat) : dOk n (.int (k : Int)) = true := by unfold dOk; rfl
noncomputable def marksL (bs a b c : Nat) : List Nat := [a, b, c].take bs
@[reducible] noncomputable def marksV (bs a b c : Nat) : V := .list ((marksL bs a b c).map fun ch => .str [ch])
@[reducible] noncomputable def spellV (h bs a b c : Nat) : V := .list ((marksL bs a b c).map fun ch => .str (cd (escL h) ch))
@[reducible] noncomputable def rowsV (rows : List (List Nat)) : V := .list (rows.map intsV)
theorem marks_at {bs a b c t : Nat} (hb : bs = 2 ∨ bs = 3) (ht : t < bs) : (marksL bs a b c)[t]? = some (fM a b c t) := by
  rcases hb with rfl | rfl
  · match t, ht with
    | 0, _ => rfl
    | 1, _ => rfl
  · match t, ht with
    | 0, _ => rfl
    | 1, _ => rfl
    | 2, _ => rfl
theorem marks_get {bs a b c t : Nat} (hb : bs = 2 ∨ bs = 3) (ht : t < bs) : ((marksL bs a b c).map fun ch => V.str [ch])[((t : Nat) : Int).toNat]? = some (.str [fM a b c t]) := by
  rw [Int.toNat_natCast, List.getElem?_map, marks_at hb ht]; rfl
theorem spell_get {h bs a b c t : Nat} (hb : bs = 2 ∨ bs = 3) (ht : t < bs) : ((marksL bs a b c).map fun ch => V.str (cd (escL h) ch))[((t : Nat) : Int).toNat]? = some (.str (gM h a b c t)) := by
  rw [Int.toNat_natCast, List.getElem?_map, marks_at hb ht]; rfl
-- a row of figures
structure Row (bs : Nat) (r : List Nat) : Prop where
  is : ∃ x y z, r = [x, y, z] ∧ x < bs ∧ y < bs ∧ z < bs
theorem Row.len {bs r} (R : Row bs r) : r.length = 3 := by obtain ⟨x, y, z, rfl, _⟩ := R.is; rfl
theorem Row.at {bs r k} (R : Row bs r) (hk : k < 3) : r[k]? = some (r.getD k 0) ∧ r.getD k 0 < bs := by
  obtain ⟨x, y, z, rfl, hx, hy, hz⟩ := R.is
  match k, hk with
  | 0, _ => exact ⟨rfl, hx⟩
  | 1, _ => exact ⟨rfl, hy⟩
  | 2, _ => exact ⟨rfl, hz⟩
theorem Row.get {bs r k} (R : Row bs r) (hk : k < 3) : (r.map fun (n : Nat) => V.int (n : Int))[((k : Nat) : Int).toNat]? = some (.int ((r.getD k 0 : Nat) : Int)) := by
  rw [Int.toNat_natCast, List.getElem?_map, (R.at hk).1]; rfl
theorem Row.fig {bs r} (hb : bs = 2 ∨ bs = 3) (R : Row bs r) : r ∈ allN figs := by
  obtain ⟨x, y, z, rfl, hx, hy, hz⟩ := R.is
  have key : ∀ t, t < bs → t ∈ figs := fun t ht => by
    exact (by decide : ∀ t < 3, t ∈ figs) t (Nat.lt_of_lt_of_le ht (by rcases hb with rfl | rfl <;> decide))
  exact allN_mem (key x hx) (key y hy) (key z hz)
theorem Row.ask {bs r} (hb : bs = 2 ∨ bs = 3) (R : Row bs r) (ch : Nat) : askT r ch ∈ allN asks := by
  have key : ∀ (q : Prop) [Decidable q] (k : Nat), k < 3 → (if q then r.getD k 0 else 6) ∈ asks := fun q _ k hk => by
    have h3 : r.getD k 0 < 3 := Nat.lt_of_lt_of_le (R.at hk).2 (by rcases hb with rfl | rfl <;> decide)
    have hin : ∀ t < 3, t ∈ asks := by decide
    split
    · exact hin _ h3
    · decide
  exact allN_mem (key _ 0 (by decide)) (key _ 1 (by decide)) (key _ 2 (by decide))
theorem Row.of_num {bs} (hb : bs = 2 ∨ bs = 3) (n : Nat) : Row bs (rowT n bs) := by
  have h0 := (base_or hb).1
  exact ⟨_, _, _, rfl, Nat.mod_lt _ h0, Nat.mod_lt _ h0, Nat.mod_lt _ h0⟩
theorem ask_at (m : List Nat) (ch : Nat) {k : Nat} (hk : k < 3) : (askT m ch).getD k 0 = if (placesT ch).contains k then m.getD k 0 else 6 := by
  have hc : (placesT ch).contains k = (ch / 2 ^ k % 2 == 1) := by
    unfold placesT
    rw [Bool.eq_iff_iff, List.contains_iff_mem, List.mem_filter, List.mem_range]
    exact ⟨fun h => h.2, fun h => ⟨hk, h⟩⟩
  rw [hc]
  have e : (askT m ch).getD k 0 = if ch / 2 ^ k % 2 = 1 then m.getD k 0 else 6 := by
    match k, hk with
    | 0, _ => show (if ch % 2 = 1 then _ else _) = _; rw [Nat.pow_zero, Nat.div_one]
    | 1, _ => rfl
    | 2, _ => rfl
  rw [e]
  by_cases h : ch / 2 ^ k % 2 = 1
  · rw [if_pos h, h, beq_self_eq_true, if_pos rfl]
  · rw [if_neg h, beq_false_of_ne h, if_neg (by decide)]

@[reducible] noncomputable def nSeen : List Str := [Str.ofString "rows", Str.ofString "middle", Str.ofString "marks", Str.ofString "hand", Str.ofString "write", Str.ofString "turn", Str.ofString "spelled", Str.ofString "wants", Str.ofString "rests", Str.ofString "choice", Str.ofString "places", Str.ofString "counts",
  Str.ofString "at", Str.ofString "line", Str.ofString "text", Str.ofString "told", Str.ofString "same", Str.ofString "held", Str.ofString "due", Str.ofString "k"]
@[reducible] noncomputable def cSeen : Cx := ⟨8, (dAt 18).scope.names, nSeen,
  [(Str.ofString "_law_places", .fn "_law_places"), (Str.ofString "_law_line", .fn "_law_line"), (Str.ofString "range", .raw (.type "range")), (Str.ofString "len", .raw (.builtin "len")), (Str.ofString "type", .raw (.type "type")), (Str.ofString "bool", .raw (.type "bool")), (Str.ofString "_law_tells", .fn "_law_tells")] ⟩
theorem fSeen (hT : IsT T) : FnCx T (dAt 18) cSeen [Str.ofString "rows", Str.ofString "middle", Str.ofString "marks", Str.ofString "hand", Str.ofString "write", Str.ofString "turn"] (nSeen.drop 6) :=
  FnCx.of (params := [Str.ofString "rows", Str.ofString "middle", Str.ofString "marks", Str.ofString "hand", Str.ofString "write", Str.ofString "turn"]) (rest := nSeen.drop 6) hT m18 (by decide +kernel)
    (.cons (g_places hT) (by decide +kernel) (.cons (g_line hT) (by decide +kernel) (.cons (g_range hT) (by decide +kernel) (.cons (g_len hT) (by decide +kernel) (.cons (g_type hT) (by decide +kernel) (.cons (g_bool hT) (by decide +kernel) (.cons (g_tells hT) (by decide +kernel) .nil)))))))
    (fun _ _ _ => len6 fun _ _ _ _ _ _ => rfl)
@[reducible] noncomputable def sSeen (h bs a b c : Nat) (rows : List (List Nat)) (mid : List Nat) (turn : Nat) (wa re ch pl co at_ li te to sa he du k : Slot) : List Slot :=
  [.val (rowsV rows), .val (intsV mid), .val (marksV bs a b c), .val (.int h), .val (.fn (escName h)), .val (.int turn), .val (spellV h bs a b c), wa, re, ch, pl, co, at_, li, te, to, sa, he, du, k]
noncomputable def wantsI (h a b c : Nat) (mid : List Nat) (i : Nat) : List V := (List.range i).map fun ch => .str (wantM h a b c (askT mid ch))
noncomputable def restsI (a b c : Nat) (mid : List Nat) (i : Nat) : List V := (List.range i).map fun ch => .str (restM a b c (askT mid ch))
theorem pc_len {h a b c : Nat} (K : Mk h a b c) {t : Nat} (ht : t < 5 ∨ t = 6) : (pcM h a b c t).length ≤ 6 := by
  unfold pcM
  split
  · simp
  · exact gM_len K (by omega)
theorem rc_len {a b c t : Nat} : (rcM a b c t).length ≤ 1 := by
  unfold rcM
  split <;> simp
theorem Row.ask_lt {bs r} (hb : bs = 2 ∨ bs = 3) (R : Row bs r) (ch : Nat) {k : Nat} (hk : k < 3) : (askT r ch).getD k 0 < 5 ∨ (askT r ch).getD k 0 = 6 := by
  rw [ask_at r ch hk]
  have := (R.at hk).2
  split
  · exact .inl (by omega)
  · exact .inr rfl
section
variable {h a b c : Nat} (K : Mk h a b c) {bs : Nat} (hbs : bs = 2 ∨ bs = 3) {rows : List (List Nat)} {mid : List Nat} (M : Row bs mid) {turn : Nat}
include K hbs M in
theorem seen_wants (hT : IsT T) {i : Nat} (hi : i < 8) {co at_ li te to sa he du k : Slot} :
    Ex T cSeen (sSeen h bs a b c rows mid turn (.own (wantsI h a b c mid i)) (.own (restsI a b c mid i)) (.val (.int i)) .dead co at_ li te to sa he du k) (forAll ((dAt 18).body.getD 3 default))
      (.next (sSeen h bs a b c rows mid turn (.own (wantsI h a b c mid (i + 1))) (.own (restsI a b c mid (i + 1))) .dead .dead co at_ li te to sa he du k)) := by
  have hgp : ∃ d, d ∈ recsOf T.view ∧ d.name = Str.ofString "_law_places" := ⟨dAt 17, by rw [hT.view]; exact m17, n17⟩
  have hgl : ∃ d, d ∈ recsOf T.view ∧ d.name = Str.ofString "_law_line" := ⟨dAt 16, by rw [hT.view]; exact m16, n16⟩
  have ew : wantsI h a b c mid (i + 1) = wantsI h a b c mid i ++ [.str (wantM h a b c (askT mid i))] := by unfold wantsI; rw [List.range_succ, List.map_append]; rfl
  have er : restsI a b c mid (i + 1) = restsI a b c mid i ++ [.str (restM a b c (askT mid i))] := by unfold restsI; rw [List.range_succ, List.map_append]; rfl
  have key : ∀ k < 3, (askT mid i).getD k 0 = if (placesT i).contains k then mid.getD k 0 else 6 := fun k hk => ask_at mid i hk
  have htest : ∀ {c' : Cx} {σ' : List Slot} {p1 p2 p3 : Pos} {k : Nat}, At c'.N σ' (Str.ofString "k") (.val (.int (k : Int))) → At c'.N σ' (Str.ofString "places") (.val (intsV (placesT i))) →
      Tr T c' σ' (.Compare (.Name (Str.ofString "k") p1) [.In] [.Name (Str.ofString "places") p2] p3) ((placesT i).contains k) := fun {c' σ' p1 p2 p3 k} h1 h2 =>
    Tr.cast (Tr.cmpo (Ev.name h1) (EvO.of (Ev.name h2)) (Cmo.in_ (dOk_nat k) (dOk_nats _))) (inV_nat k (placesT i))
  refine Ex.cons (Ex1.assign (p := intsV (placesT i)) (Ev.call (Ev.glob (by walk_at "at")) hgp (EvL.cons (Ev.name (by walk_at "at")) EvL.nil) (cal_places hT (by decide) i)) (by walk_at "at")) ?_
  rw [ew, er]
  refine Ex.cons (Ex1.append (p := .str (wantM h a b c (askT mid i))) (by walk_at "at") (Ev.call (Ev.glob (by walk_at "at")) hgl (EvL.cons (Ev.compL (caps := [Str.ofString "middle", Str.ofString "places", Str.ofString "spelled"]) (cs := [.val (intsV mid), .val (intsV (placesT i)), .val (spellV h bs a b c)]) (G' := [])
    (qs := (List.range 3).map fun (k : Nat) => .int (k : Int)) (rs := (List.range 3).map fun k => .str (pcM h a b c ((askT mid i).getD k 0))) ?i1 ?i2 ?i3 ?i4 ?i5 ?i6 ?i7) EvL.nil)
    (cal_line (p := pcM h a b c ((askT mid i).getD 0 0)) (q := pcM h a b c ((askT mid i).getD 1 0)) (r := pcM h a b c ((askT mid i).getD 2 0)) hT (by decide) ?l1 ?l2 ?l3)) ?l4 (by walk_at "at")) ?rest
  case i1 => exact It.range1 (n := 3) (Ev.glob (by walk_at "at")) Ev.int (by decide)
  case i2 => decide +kernel
  case i3 => exact CapL.val (by walk_at "at") (CapL.val (by walk_at "at") (CapL.val (by walk_at "at") .nil))
  case i4 => exact .skip (.skip (.skip (.skip (.skip (.skip (.skip .nil))))))
  case i5 => rfl
  case i7 => decide
  case l1 => have := pc_len K (M.ask_lt hbs i (k := 0) (by decide)); omega
  case l2 => have := pc_len K (M.ask_lt hbs i (k := 1) (by decide)); omega
  case l3 => have := pc_len K (M.ask_lt hbs i (k := 2) (by decide)); omega
  case l4 => unfold wantsI; simp; omega
  case i6 =>
    intro k q r hq hr
    obtain ⟨rfl, hk⟩ := rng_at hq
    obtain ⟨rfl, _⟩ := rng_at hr
    rw [key k hk]
    refine Ev.ifexp' (htest (by walk_at "at") (by walk_at "at")) (fun e => ?t1) (fun e => ?t2)
    case t1 =>
      rw [e, if_pos rfl]
      have h3 := (M.at hk).2
      refine Ev.cast (Ev.sub (Ev.name (by walk_at "at")) (Ev.sub (Ev.name (by walk_at "at")) (Ev.name (by walk_at "at")) (Sbo.of (Sbo.at (Int.natCast_nonneg _) (M.get hk)))) (Sbo.of (Sbo.at (Int.natCast_nonneg _) (spell_get hbs h3)))) ?t3
      case t3 => unfold pcM; rw [if_neg (by omega)]
    case t2 =>
      rw [e, if_neg (by decide)]
      exact cst [46, 46, 46]
  case rest =>
  refine Ex.cons (Ex1.append (p := .str (restM a b c (askT mid i))) (by walk_at "at") (Ev.call (Ev.glob (by walk_at "at")) hgl (EvL.cons (Ev.compL (caps := [Str.ofString "middle", Str.ofString "places", Str.ofString "marks"]) (cs := [.val (intsV mid), .val (intsV (placesT i)), .val (marksV bs a b c)]) (G' := [])
    (qs := (List.range 3).map fun (k : Nat) => .int (k : Int)) (rs := (List.range 3).map fun k => .str (rcM a b c ((askT mid i).getD k 0))) ?j1 ?j2 ?j3 ?j4 ?j5 ?j6 ?j7) EvL.nil)
    (cal_line (p := rcM a b c ((askT mid i).getD 0 0)) (q := rcM a b c ((askT mid i).getD 1 0)) (r := rcM a b c ((askT mid i).getD 2 0)) hT (by decide) ?m1 ?m2 ?m3)) ?m4 (by walk_at "at")) ?rest2
  case j1 => exact It.range1 (n := 3) (Ev.glob (by walk_at "at")) Ev.int (by decide)
  case j2 => decide +kernel
  case j3 => exact CapL.val (by walk_at "at") (CapL.val (by walk_at "at") (CapL.val (by walk_at "at") .nil))
  case j4 => exact .skip (.skip (.skip (.skip (.skip (.skip (.skip .nil))))))
  case j5 => rfl
  case j7 => decide
  case m1 => have := rc_len (a := a) (b := b) (c := c) (t := (askT mid i).getD 0 0); omega
  case m2 => have := rc_len (a := a) (b := b) (c := c) (t := (askT mid i).getD 1 0); omega
  case m3 => have := rc_len (a := a) (b := b) (c := c) (t := (askT mid i).getD 2 0); omega
  case m4 => unfold restsI; simp; omega
  case j6 =>
    intro k q r hq hr
    obtain ⟨rfl, hk⟩ := rng_at hq
    obtain ⟨rfl, _⟩ := rng_at hr
    rw [key k hk]
    refine Ev.ifexp' (htest (by walk_at "at") (by walk_at "at")) (fun e => ?u1) (fun e => ?u2)
    case u1 =>
      rw [e, if_pos rfl]
      have h3 := (M.at hk).2
      refine Ev.cast (Ev.sub (Ev.name (by walk_at "at")) (Ev.sub (Ev.name (by walk_at "at")) (Ev.name (by walk_at "at")) (Sbo.of (Sbo.at (Int.natCast_nonneg _) (M.get hk)))) (Sbo.of (Sbo.at (Int.natCast_nonneg _) (marks_get hbs h3)))) ?u3
      case u3 => unfold rcM; rw [if_neg (by omega)]
    case u2 =>
      rw [e, if_neg (by decide)]
      exact cst []
  case rest2 => exact Ex.weakout Ex.nil (by walk_at "wk")
end
end
section
open PySem PySem.W PyProof.Rows
set_option Elab.async false
set_option linter.unusedVariables false
set_option maxRecDepth 100000
set_option maxHeartbeats 4000000
variable {T : TC}


-- what the places of a row tell
noncomputable def sameT (r m : List Nat) : List Nat := (List.range 3).filter fun k => r.getD k 0 == m.getD k 0
theorem same_has {r m : List Nat} {k : Nat} (hk : k < 3) : (sameT r m).contains k = (r.getD k 0 == m.getD k 0) := by
  unfold sameT
  rw [Bool.eq_iff_iff, List.contains_iff_mem, List.mem_filter, List.mem_range]
  exact ⟨fun h => h.2, fun h => ⟨hk, h⟩⟩
theorem places_lt {ch k : Nat} (h : k ∈ placesT ch) : k < 3 := List.mem_range.mp (List.mem_filter.mp h).1
theorem okT_six (a : Nat) : okT a 6 = true := rfl
theorem okT_ne {a b : Nat} (h : b ≠ 6) : okT a b = (a == b) := by
  unfold okT
  rw [beqf h, Bool.false_or, Bool.eq_iff_iff, beq_iff_eq]
  exact ⟨Nat.eq_of_beq_eq_true, fun e => beqt e⟩
theorem held_all {bs : Nat} (hbs : bs = 2 ∨ bs = 3) {r m : List Nat} (M : Row bs m) (ch : Nat) : heldT r (askT m ch) = (placesT ch).all fun k => r.getD k 0 == m.getD k 0 := by
  have key : ∀ k < 3, okT (r.getD k 0) ((askT m ch).getD k 0) = (!(placesT ch).contains k || r.getD k 0 == m.getD k 0) := fun k hk => by
    rw [ask_at m ch hk]
    cases (placesT ch).contains k with
    | true =>
      rw [if_pos rfl, okT_ne (by have := (M.at hk).2; omega)]
      rfl
    | false => rw [if_neg (by decide), okT_six]; rfl
  have e : ∀ k < 3, (placesT ch).contains k = (ch / 2 ^ k % 2 == 1) := fun k hk => by
    unfold placesT
    rw [Bool.eq_iff_iff, List.contains_iff_mem, List.mem_filter, List.mem_range]
    exact ⟨fun h => h.2, fun h => ⟨hk, h⟩⟩
  unfold heldT
  rw [key 0 (by decide), key 1 (by decide), key 2 (by decide), e 0 (by decide), e 1 (by decide), e 2 (by decide)]
  unfold placesT
  rw [List.all_filter]
  show _ = ((!(ch / 2 ^ 0 % 2 == 1) || r.getD 0 0 == m.getD 0 0) && ((!(ch / 2 ^ 1 % 2 == 1) || r.getD 1 0 == m.getD 1 0) && ((!(ch / 2 ^ 2 % 2 == 1) || r.getD 2 0 == m.getD 2 0) && true)))
  rw [Bool.and_true, Bool.and_assoc]
theorem held_list {bs : Nat} (hbs : bs = 2 ∨ bs = 3) {r m : List Nat} (M : Row bs m) (ch : Nat) : (((placesT ch).filter fun k => !(sameT r m).contains k) == []) = heldT r (askT m ch) := by
  rw [held_all hbs M, Bool.eq_iff_iff, beq_iff_eq, List.filter_eq_nil_iff, List.all_eq_true]
  constructor
  · intro h k hk
    have := h k hk
    rw [same_has (places_lt hk)] at this
    simpa using this
  · intro h k hk
    have := h k hk
    rw [same_has (places_lt hk), this]
    decide
theorem held_two {bs : Nat} (hbs : bs = 2 ∨ bs = 3) {r m : List Nat} (M : Row bs m) {k : Nat} (hk : k < 3) : heldT r (askT m (2 ^ k)) = (r.getD k 0 == m.getD k 0) := by
  rw [held_all hbs M]
  have e : ∀ k < 3, placesT (2 ^ k) = [k] := by decide
  rw [e k hk]
  simp
theorem sum_places {ch : Nat} (h : ch < 8) (f : Nat → Nat) : ((placesT ch).map f).sum = (if ch % 2 = 1 then f 0 else 0) + (if ch / 2 % 2 = 1 then f 1 else 0) + (if ch / 4 % 2 = 1 then f 2 else 0) := by
  match ch, h with
  | 0, _ => rfl
  | 1, _ => show f 0 + 0 = f 0 + 0 + 0; omega
  | 2, _ => show f 1 + 0 = 0 + f 1 + 0; omega
  | 3, _ => show f 0 + (f 1 + 0) = f 0 + f 1 + 0; omega
  | 4, _ => show f 2 + 0 = 0 + 0 + f 2; omega
  | 5, _ => show f 0 + (f 2 + 0) = f 0 + 0 + f 2; omega
  | 6, _ => show f 1 + (f 2 + 0) = 0 + f 1 + f 2; omega
  | 7, _ => show f 0 + (f 1 + (f 2 + 0)) = f 0 + f 1 + f 2; omega
theorem less_le (q a b : Nat) : lessQ q a b ≤ 2 := by
  unfold lessQ
  cases Nat.beq b 6 <;> cases Nat.beq a b <;> cases pairQ q a b <;> decide
noncomputable def lessK (q : Nat) (r m : List Nat) (k : Nat) : Nat := lessQ q (r.getD k 0) (m.getD k 0)
theorem due_sum {q ch : Nat} {r m : List Nat} (h : ch < 8) : ((dueQ q r (askT m ch) : Nat) : Int) = 6 - (((placesT ch).map (lessK q r m)).sum : Nat) ∧ ((placesT ch).map (lessK q r m)).sum ≤ 6 := by
  rw [sum_places h]
  have e : ∀ (c : Prop) [Decidable c] (k : Nat), lessQ q (r.getD k 0) (if c then m.getD k 0 else 6) = if c then lessK q r m k else 0 := fun c _ k => by
    split
    · rfl
    · rfl
  have e0 := e (ch % 2 = 1) 0
  have e1 := e (ch / 2 % 2 = 1) 1
  have e2 := e (ch / 4 % 2 = 1) 2
  have l : ∀ (c : Prop) [Decidable c] (k : Nat), (if c then lessK q r m k else 0) ≤ 2 := fun c _ k => by
    split
    · exact less_le _ _ _
    · decide
  have l0 := l (ch % 2 = 1) 0
  have l1 := l (ch / 2 % 2 = 1) 1
  have l2 := l (ch / 4 % 2 = 1) 2
  have ed : dueQ q r (askT m ch) = 6 - ((if ch % 2 = 1 then lessK q r m 0 else 0) + (if ch / 2 % 2 = 1 then lessK q r m 1 else 0) + (if ch / 4 % 2 = 1 then lessK q r m 2 else 0)) := by
    rw [← e0, ← e1, ← e2]; rfl
  rw [ed]
  generalize (if ch % 2 = 1 then lessK q r m 0 else 0) = u0 at l0 ⊢
  generalize (if ch / 2 % 2 = 1 then lessK q r m 1 else 0) = u1 at l1 ⊢
  generalize (if ch / 4 % 2 = 1 then lessK q r m 2 else 0) = u2 at l2 ⊢
  omega
theorem cnt_take {rows : List (List Nat)} {r m : List Nat} {i ch : Nat} (hr : rows[i]? = some r) : cntT (rows.take (i + 1)) m ch = cntT (rows.take i) m ch + (if heldT r (askT m ch) then 1 else 0) := by
  unfold cntT
  rw [List.take_add_one, hr, Option.toList_some, List.filter_append, List.length_append]
  congr 1
  cases h : heldT r (askT m ch) <;> simp [h]
noncomputable def cntI (rows : List (List Nat)) (m : List Nat) (i : Nat) : List V := (List.range 8).map fun ch => .int ((cntT (rows.take i) m ch : Nat) : Int)
noncomputable def cntJ (rows : List (List Nat)) (m : List Nat) (i : Nat) (r : List Nat) (j : Nat) : List V := (List.range 8).map fun ch => .int ((cntT (rows.take i) m ch + (if decide (ch < j) && heldT r (askT m ch) then 1 else 0) : Nat) : Int)
theorem cntJ_zero {rows m i r} : cntJ rows m i r 0 = cntI rows m i := by
  unfold cntJ cntI
  apply List.map_congr_left
  intro ch _
  rw [show decide (ch < 0) = false from by simp, Bool.false_and, if_neg (by decide)]; rfl
theorem cntJ_end {rows : List (List Nat)} {m r : List Nat} {i : Nat} (hr : rows[i]? = some r) : cntJ rows m i r 8 = cntI rows m (i + 1) := by
  unfold cntJ cntI
  apply List.map_congr_left
  intro ch hc
  rw [show decide (ch < 8) = true from decide_eq_true (List.mem_range.mp hc), Bool.true_and, cnt_take hr]
theorem cntJ_get {rows : List (List Nat)} {m r : List Nat} {i j : Nat} (hj : j < 8) : (cntJ rows m i r j)[((j : Nat) : Int).toNat]? = some (.int ((cntT (rows.take i) m j : Nat) : Int)) := by
  unfold cntJ
  rw [Int.toNat_natCast, List.getElem?_map, List.getElem?_range hj]
  show some (V.int ((cntT (rows.take i) m j + (if decide (j < j) && heldT r (askT m j) then 1 else 0) : Nat) : Int)) = _
  rw [show decide (j < j) = false from by simp, Bool.false_and, if_neg (by decide)]; rfl
theorem cntJ_step {rows : List (List Nat)} {m r : List Nat} {i j : Nat} (hj : j < 8) : cntJ rows m i r (j + 1) = if heldT r (askT m j) then (cntJ rows m i r j).set ((j : Nat) : Int).toNat (.int ((cntT (rows.take i) m j : Nat) + 1)) else cntJ rows m i r j := by
  unfold cntJ
  have other : ∀ ch, ch ≠ j → (decide (ch < j + 1) && heldT r (askT m ch)) = (decide (ch < j) && heldT r (askT m ch)) := fun ch h => by
    have : decide (ch < j + 1) = decide (ch < j) := by
      rw [Bool.eq_iff_iff, decide_eq_true_iff, decide_eq_true_iff]; omega
    rw [this]
  cases hh : heldT r (askT m j) with
  | true =>
    rw [if_pos rfl, Int.toNat_natCast]
    apply List.ext_getElem
    · simp
    · intro k h1 h2
      simp only [List.length_map, List.length_range] at h1
      rw [List.getElem_set, List.getElem_map, List.getElem_map, List.getElem_range]
      by_cases hk : j = k
      · subst hk
        rw [if_pos rfl, hh, show decide (j < j + 1) = true from by simp]
        rfl
      · rw [if_neg hk, other k (fun e => hk e.symm)]
  | false =>
    rw [if_neg (by decide)]
    apply List.map_congr_left
    intro ch _
    by_cases hk : ch = j
    · subst hk; rw [hh, Bool.and_false, Bool.and_false]
    · rw [other ch hk]
@[reducible] noncomputable def toldV (r m : List Nat) : V := .list ((List.range 8).map fun ch => .bool (heldT r (askT m ch)))
theorem told_get {r m : List Nat} {j : Nat} (hj : j < 8) : ((List.range 8).map fun ch => V.bool (heldT r (askT m ch)))[((j : Nat) : Int).toNat]? = some (.bool (heldT r (askT m j))) := by
  rw [Int.toNat_natCast, List.getElem?_map, List.getElem?_range hj]; rfl
@[reducible] noncomputable def wantsV (h a b c : Nat) (m : List Nat) : V := .list (wantsI h a b c m 8)
@[reducible] noncomputable def restsV (a b c : Nat) (m : List Nat) : V := .list (restsI a b c m 8)
section
variable {h a b c : Nat} (K : Mk h a b c) {bs : Nat} (hbs : bs = 2 ∨ bs = 3) {rows : List (List Nat)} {mid : List Nat} (M : Row bs mid) {turn : Nat}
include hbs M in
theorem seen_count (hT : IsT T) {i j : Nat} (hj : j < 8) {r : List Nat} {pl li te du k : Slot} :
    Ex T cSeen (sSeen h bs a b c rows mid turn (.val (wantsV h a b c mid)) (.val (restsV a b c mid)) (.val (.int j)) pl (.own (cntJ rows mid i r j)) (.val (.int i)) li te (.val (toldV r mid)) (.val (intsV (sameT r mid))) .dead du k)
      (forAll (forBody ((dAt 18).body.getD 5 default) 5))
      (.next (sSeen h bs a b c rows mid turn (.val (wantsV h a b c mid)) (.val (restsV a b c mid)) .dead pl (.own (cntJ rows mid i r (j + 1))) (.val (.int i)) li te (.val (toldV r mid)) (.val (intsV (sameT r mid))) .dead du k)) := by
  have hgp : ∃ d, d ∈ recsOf T.view ∧ d.name = Str.ofString "_law_places" := ⟨dAt 17, by rw [hT.view]; exact m17, n17⟩
  refine Ex.cons (Ex1.assign (p := .bool (heldT r (askT mid j))) ?h1 (by walk_at "at")) ?h2
  case h1 =>
    refine Ev.cast (Ev.cmp (Ev.compF (xs := placesT j) (w := fun (k : Nat) => .int (k : Int)) (f := fun (k : Nat) => .int (k : Int)) (t := fun k => !(sameT r mid).contains k) (caps := [Str.ofString "same"]) (cs := [.val (intsV (sameT r mid))]) (G' := []) ?i1 ?i2 ?i3 ?i4 ?i5 ?i6 ?i7)
      (Ev.list EvL.nil) (Cm2.eqd ?i8 ?i9) ?i11) ?i10
    case i1 => exact It.list (Ev.call (Ev.glob (by walk_at "at")) hgp (EvL.cons (Ev.name (by walk_at "at")) EvL.nil) (cal_places hT (by decide) j))
    case i2 => decide +kernel
    case i3 => exact CapL.val (by walk_at "at") .nil
    case i4 => exact .skip (.skip (.skip (.skip (.skip (.skip (.skip .nil))))))
    case i7 => exact Nat.le_trans (List.length_filter_le _ _) (by simp)
    case i6 => intro k _ _; exact Ev.name (by walk_at "at")
    case i5 =>
      intro k hk
      refine TrIf.one (Tr.cast (Tr.cmpo (Ev.name (by walk_at "at")) (EvO.of (Ev.name (by walk_at "at"))) (Cmo.notin (dOk_nat k) (dOk_nats _))) ?_)
      rw [inV_nat]
    case i8 => unfold dOk; exact dOk_nats _
    case i9 => unfold dOk dOks; rfl
    case i11 => with_unfolding_all rfl
    case i10 =>
      rw [← held_list hbs M]
      have := eqV_list (f := fun (n : Nat) => V.int (n : Int)) eqV_nat ((placesT j).filter fun k => !(sameT r mid).contains k) []
      rw [← this]; rfl
  case h2 =>
  refine Ex.cons (Ex1.skip (Tr.cast (Tr.boolop (TrL.or_cons (a := false) ?j1 fun _ => TrL.or_cons (a := false) ?j2 fun _ => TrL.or_nil)) rfl)) ?h3
  case j1 => exact Tr.cmp (Ev.type_ (Ev.glob (by walk_at "at")) (Ev.sub (Ev.name (by walk_at "at")) (Ev.name (by walk_at "at")) (Sbo.of (Sbo.at (Int.natCast_nonneg _) (told_get hj)))) typ_bool (by decide)) (Ev.glob (by walk_at "at")) Cm2.isnot_ty
  case j2 => exact Tr.cast (Tr.cmp (Ev.sub (Ev.name (by walk_at "at")) (Ev.name (by walk_at "at")) (Sbo.of (Sbo.at (Int.natCast_nonneg _) (told_get hj)))) (Ev.name (by walk_at "at")) Cm2.neb) (by rw [bne_self_eq_false])
  case h3 =>
  rw [cntJ_step hj]
  cases hh : heldT r (askT mid j) with
  | true =>
    rw [if_pos rfl]
    refine Ex.cons (Ex1.if_ (b := true) (Tr.val (Ev.name (by walk_at "at")) Tv.bool) (fun _ => Ex.cons (Ex1.augitem (by walk_at "at") (Ev.name (by walk_at "at")) (Int.natCast_nonneg _) (cntJ_get hj) Ev.int Ip2.add (by walk_at "at")) Ex.nil) (fun e => nomatch e)) ?_
    exact Ex.weakout Ex.nil (by walk_at "wk")
  | false =>
    rw [if_neg (by decide)]
    refine Ex.cons (Ex1.if_ (b := false) (Tr.val (Ev.name (by walk_at "at")) Tv.bool) (fun e => nomatch e) (fun _ => Ex.nil)) ?_
    exact Ex.weakout Ex.nil (by walk_at "wk")
end
end
section
open PySem PySem.W PyProof.Rows
set_option Elab.async false
set_option linter.unusedVariables false
set_option maxRecDepth 100000
set_option maxHeartbeats 4000000
variable {T : TC}


noncomputable def ifTest : Stmt → Expr
  | .If t _ _ _ => t
  | _ => default
noncomputable def ifElse : Stmt → List Stmt
  | .If _ _ o _ => o
  | _ => []
section
variable {h a b c : Nat} (K : Mk h a b c) {bs : Nat} (hbs : bs = 2 ∨ bs = 3) {rows : List (List Nat)} {mid : List Nat} (M : Row bs mid) {turn : Nat}
noncomputable def sumK (q : Nat) (r m : List Nat) (ch j : Nat) : Nat := (((placesT ch).take j).map (lessK q r m)).sum
theorem sumK_step {q ch j k : Nat} {r m : List Nat} (hk : (placesT ch)[j]? = some k) : sumK q r m ch (j + 1) = sumK q r m ch j + lessK q r m k := by
  unfold sumK
  rw [List.take_add_one, hk, Option.toList_some, List.map_append, List.sum_append]; simp
theorem nats_at {l : List Nat} {j : Nat} {q : V} (h : (l.map fun (n : Nat) => V.int (n : Int))[j]? = some q) : ∃ k, l[j]? = some k ∧ q = .int (k : Int) ∧ k ∈ l := by
  rw [List.getElem?_map] at h
  cases hk : l[j]? with
  | none => rw [hk] at h; cases h
  | some k => rw [hk] at h; cases h; exact ⟨k, rfl, rfl, List.mem_of_getElem? hk⟩
theorem rows_get {r : List Nat} {i : Nat} (hr : rows[i]? = some r) : (rows.map intsV)[((i : Nat) : Int).toNat]? = some (intsV r) := by
  rw [Int.toNat_natCast, List.getElem?_map, hr]; rfl
theorem rests_get {j : Nat} (hj : j < 8) : (restsI a b c mid 8)[((j : Nat) : Int).toNat]? = some (.str (restM a b c (askT mid j))) := by
  unfold restsI
  rw [Int.toNat_natCast, List.getElem?_map, List.getElem?_range hj]; rfl
include K hbs M in
theorem seen_less (hT : IsT T) {i cv j k : Nat} {r : List Nat} (R : Row bs r) (hr : rows[i]? = some r) (hk : (placesT cv)[j]? = some k) {pl co li te to he : Slot} :
    Ex T cSeen (sSeen h bs a b c rows mid turn (.val (wantsV h a b c mid)) (.val (restsV a b c mid)) (.val (.int cv)) pl co (.val (.int i)) li te to (.val (intsV (sameT r mid))) he (.val (.int (6 - (sumK (qM a b c) r mid cv j : Nat)))) (.val (.int k)))
      (forAll (forBody (forBody ((dAt 18).body.getD 5 default) 6) 1))
      (.next (sSeen h bs a b c rows mid turn (.val (wantsV h a b c mid)) (.val (restsV a b c mid)) (.val (.int cv)) pl co (.val (.int i)) li te to (.val (intsV (sameT r mid))) he (.val (.int (6 - (sumK (qM a b c) r mid cv (j + 1) : Nat)))) .dead)) := by
  have hk3 : k < 3 := places_lt (List.mem_of_getElem? hk)
  rw [sumK_step hk]
  have htest : Tr T cSeen (sSeen h bs a b c rows mid turn (.val (wantsV h a b c mid)) (.val (restsV a b c mid)) (.val (.int cv)) pl co (.val (.int i)) li te to (.val (intsV (sameT r mid))) he (.val (.int (6 - (sumK (qM a b c) r mid cv j : Nat)))) (.val (.int k)))
      (ifTest (forBody (forBody (forBody ((dAt 18).body.getD 5 default) 6) 1) 0)) (r.getD k 0 == mid.getD k 0) :=
    Tr.cast (Tr.cmpo (Ev.name (by walk_at "at")) (EvO.of (Ev.name (by walk_at "at"))) (Cmo.in_ (dOk_nat k) (dOk_nats _))) (by rw [inV_nat, same_has hk3])
  obtain ⟨hrk, hrb⟩ := R.at hk3
  obtain ⟨hmk, hmb⟩ := M.at hk3
  have hm6 : mid.getD k 0 ≠ 6 := by omega
  by_cases e : r.getD k 0 = mid.getD k 0
  · have hl : lessK (qM a b c) r mid k = 2 := by
      unfold lessK lessQ
      rw [beqf hm6, beqt e]; rfl
    rw [hl]
    have es : (6 : Int) - ((sumK (qM a b c) r mid cv j + 2 : Nat) : Int) = 6 - (sumK (qM a b c) r mid cv j : Nat) - 2 := by omega
    rw [es]
    refine Ex.cons (Ex1.if_ (b := true) (Tr.cast htest (by rw [e, beq_self_eq_true])) (fun _ => Ex.cons (Ex1.aug (by walk_at "at") Ev.int Ip2.sub (by walk_at "at")) Ex.nil) (fun e => nomatch e)) ?_
    exact Ex.weakout Ex.nil (by walk_at "wk")
  · have hl : lessK (qM a b c) r mid k = if pairQ (qM a b c) (r.getD k 0) (mid.getD k 0) then 1 else 0 := by
      unfold lessK lessQ
      rw [beqf hm6, beqf e]
      cases pairQ (qM a b c) (r.getD k 0) (mid.getD k 0) <;> rfl
    rw [hl]
    refine Ex.cons (σ1 := sSeen h bs a b c rows mid turn (.val (wantsV h a b c mid)) (.val (restsV a b c mid)) (.val (.int cv)) pl co (.val (.int i)) li te to (.val (intsV (sameT r mid))) he (.val (.int (6 - ((sumK (qM a b c) r mid cv j + if pairQ (qM a b c) (r.getD k 0) (mid.getD k 0) then 1 else 0 : Nat) : Int)))) (.val (.int k)))
      (Ex1.if_ (b := false) (Tr.cast htest (beq_false_of_ne e)) (fun e => nomatch e) (fun _ => ?_)) (Ex.weakout Ex.nil (by walk_at "wk"))
    have hlow : Tr T cSeen (sSeen h bs a b c rows mid turn (.val (wantsV h a b c mid)) (.val (restsV a b c mid)) (.val (.int cv)) pl co (.val (.int i)) li te to (.val (intsV (sameT r mid))) he (.val (.int (6 - (sumK (qM a b c) r mid cv j : Nat)))) (.val (.int k)))
        (ifTest ((ifElse (forBody (forBody (forBody ((dAt 18).body.getD 5 default) 6) 1) 0)).getD 0 default)) (pairQ (qM a b c) (r.getD k 0) (mid.getD k 0)) := by
      refine Tr.cast (Tr.cmp (Ev.meth0 (Ev.sub (Ev.name (by walk_at "at")) (Ev.sub (Ev.sub (Ev.name (by walk_at "at")) (Ev.name (by walk_at "at")) (Sbo.of (Sbo.at (Int.natCast_nonneg _) (rows_get hr)))) (Ev.name (by walk_at "at")) (Sbo.of (Sbo.at (Int.natCast_nonneg _) (R.get hk3)))) (Sbo.of (Sbo.at (Int.natCast_nonneg _) (marks_get hbs hrb)))) (Mth.lower (fM_asc K (by omega))))
        (Ev.meth0 (Ev.sub (Ev.name (by walk_at "at")) (Ev.sub (Ev.name (by walk_at "at")) (Ev.name (by walk_at "at")) (Sbo.of (Sbo.at (Int.natCast_nonneg _) (M.get hk3)))) (Sbo.of (Sbo.at (Int.natCast_nonneg _) (marks_get hbs hmb)))) (Mth.lower (fM_asc K (by omega)))) Cm2.eqs) ?_
      rw [← lowM_of K (by omega) (by omega) e, Bool.eq_iff_iff, beq_iff_eq, beq_iff_eq]
      simp
    cases hp : pairQ (qM a b c) (r.getD k 0) (mid.getD k 0) with
    | true =>
      rw [hp] at hlow
      have es : (6 : Int) - ((sumK (qM a b c) r mid cv j + if true = true then 1 else 0 : Nat) : Int) = 6 - (sumK (qM a b c) r mid cv j : Nat) - 1 := by rw [if_pos rfl]; omega
      rw [es]
      exact Ex.cons (Ex1.if_ (b := true) hlow (fun _ => Ex.cons (Ex1.aug (by walk_at "at") Ev.int Ip2.sub (by walk_at "at")) Ex.nil) (fun e => nomatch e)) Ex.nil
    | false =>
      rw [hp] at hlow
      have es : (6 : Int) - ((sumK (qM a b c) r mid cv j + if false = true then 1 else 0 : Nat) : Int) = 6 - (sumK (qM a b c) r mid cv j : Nat) := by rw [if_neg (by decide)]; rfl
      rw [es]
      exact Ex.cons (Ex1.if_ (b := false) hlow (fun e => nomatch e) (fun _ => Ex.nil)) Ex.nil
include K hbs M in
theorem seen_due (hT : IsT T) {i cv : Nat} (hcv : cv < 8) {r : List Nat} (R : Row bs r) (hr : rows[i]? = some r) {pl co te to he : Slot} :
    Ex T cSeen (sSeen h bs a b c rows mid turn (.val (wantsV h a b c mid)) (.val (restsV a b c mid)) (.val (.int cv)) pl co (.val (.int i)) (.val (.str (fLine3 a b c r))) te to (.val (intsV (sameT r mid))) he .dead .dead)
      (forAll (forBody ((dAt 18).body.getD 5 default) 6))
      (.next (sSeen h bs a b c rows mid turn (.val (wantsV h a b c mid)) (.val (restsV a b c mid)) .dead pl co (.val (.int i)) (.val (.str (fLine3 a b c r))) te to (.val (intsV (sameT r mid))) he .dead .dead)) := by
  have hgp : ∃ d, d ∈ recsOf T.view ∧ d.name = Str.ofString "_law_places" := ⟨dAt 17, by rw [hT.view]; exact m17, n17⟩
  have hgt : ∃ d, d ∈ recsOf T.view ∧ d.name = Str.ofString "_law_tells" := ⟨dAt 14, by rw [hT.view]; exact m14, n14⟩
  refine Ex.cons (Ex1.assign (p := .int (6 - (sumK (qM a b c) r mid cv 0 : Nat))) Ev.int (by walk_at "at")) ?_
  refine Ex.forAll (L := fun j => sSeen h bs a b c rows mid turn (.val (wantsV h a b c mid)) (.val (restsV a b c mid)) (.val (.int cv)) pl co (.val (.int i)) (.val (.str (fLine3 a b c r))) te to (.val (intsV (sameT r mid))) he (.val (.int (6 - (sumK (qM a b c) r mid cv j : Nat)))) .dead)
    (qs := (placesT cv).map fun (n : Nat) => .int (n : Int)) ?it (Weak.refl _) ?body ?rest
  case it => exact It.list (Ev.call (Ev.glob (by walk_at "at")) hgp (EvL.cons (Ev.name (by walk_at "at")) EvL.nil) (cal_places hT (by decide) cv))
  case body =>
    intro j q hq
    obtain ⟨k, hk, rfl, _⟩ := nats_at hq
    exact ⟨_, by walk_at "at", seen_less K hbs M hT R hr hk⟩
  case rest =>
  have hs : sumK (qM a b c) r mid cv (List.map (fun (n : Nat) => V.int (n : Int)) (placesT cv)).length = ((placesT cv).map (lessK (qM a b c) r mid)).sum := by
    unfold sumK; rw [List.length_map, List.take_length]
  rw [hs, ← (due_sum hcv).1]
  have hlev := lev_line K (R.fig hbs) (M.ask hbs cv)
  have ha : ∀ x ∈ fLine3 a b c r, x < 128 := by
    rw [fline_tok]
    intro x hx
    obtain ⟨t, ht, rfl⟩ := List.mem_map.mp hx
    exact fM_asc K (by have := lineT_fig (R.fig hbs) t ht; omega)
  have hb : ∀ x ∈ restM a b c (askT mid cv), x < 128 := by
    rw [rest_tok]
    intro x hx
    obtain ⟨t, ht, rfl⟩ := List.mem_map.mp hx
    refine fM_asc K ?_
    obtain ⟨x, y, z, e, hx, hy, hz⟩ := allN_of (M.ask hbs cv)
    rw [e] at ht
    have key : ∀ u ∈ asks, ∀ t ∈ pieceT u, t < 6 := by decide
    simp only [restT, List.getD_cons_zero, List.getD_cons_succ, List.mem_append, List.mem_singleton] at ht
    rcases ht with h | rfl | h | rfl | h
    · exact key _ hx t h
    · decide
    · exact key _ hy t h
    · decide
    · exact key _ hz t h
  have hal : (fLine3 a b c r).length ≤ 1048576 := by rw [fline_tok, List.length_map]; show 5 ≤ _; decide
  have hbl : (restM a b c (askT mid cv)).length ≤ 1048576 := by
    have h0 := rc_len (a := a) (b := b) (c := c) (t := (askT mid cv).getD 0 0)
    have h1 := rc_len (a := a) (b := b) (c := c) (t := (askT mid cv).getD 1 0)
    have h2 := rc_len (a := a) (b := b) (c := c) (t := (askT mid cv).getD 2 0)
    unfold restM barP
    simp only [List.length_append, List.length_singleton]
    omega
  generalize hD : ((dueQ (qM a b c) r (askT mid cv) : Nat) : Int) = D at hlev ⊢
  refine Ex.cons (Ex1.skip (Tr.cast (Tr.not (Tr.val (Ev.call (Ev.glob (by walk_at "at")) hgt (EvL.cons (Ev.name (by walk_at "at")) (EvL.cons (Ev.sub (Ev.name (by walk_at "at")) (Ev.name (by walk_at "at")) (Sbo.of (Sbo.at (Int.natCast_nonneg _) (rests_get hcv)))) (EvL.cons (by walk_at "ev") (EvL.cons (Ev.name (by walk_at "at")) EvL.nil))))
    (cal_tellsP (mx := D - ((i : Int) + cv) % 2) (due := D) hT (Nat.le_refl 8) ha hb hal hbl)) Tv.bool)) ?_)) (Ex.weakout Ex.nil (by walk_at "wk"))
  have hm : ((i : Int) + cv) % 2 = 0 ∨ ((i : Int) + cv) % 2 = 1 := by omega
  have hl : levP subP (fLine3 a b c r) (restM a b c (askT mid cv)) (D - ((i : Int) + cv) % 2) = D := by
    rcases hm with e | e
    · rw [e, Int.sub_zero]; exact hlev
    · rw [e]; exact lev_less hlev
  rw [hl, beq_self_eq_true]; rfl
end
end
section
open PySem PySem.W PyProof.Rows
set_option Elab.async false
set_option linter.unusedVariables false
set_option maxRecDepth 100000
set_option maxHeartbeats 4000000
variable {T : TC}


section
variable {h a b c : Nat} (K : Mk h a b c) {bs : Nat} (hbs : bs = 2 ∨ bs = 3) {rows : List (List Nat)} {mid : List Nat} (M : Row bs mid) {turn : Nat}
theorem wants_at {j : Nat} {q : V} (h' : (wantsI h a b c mid 8)[j]? = some q) : j < 8 ∧ q = .str (wantM h a b c (askT mid j)) := by
  unfold wantsI at h'
  obtain ⟨h1, h2⟩ := rng_at h'
  exact ⟨h2, h1⟩
include K in
theorem want_len {p : List Nat} (h0 : p.getD 0 0 < 5 ∨ p.getD 0 0 = 6) (h1 : p.getD 1 0 < 5 ∨ p.getD 1 0 = 6) (h2 : p.getD 2 0 < 5 ∨ p.getD 2 0 = 6) : (wantM h a b c p).length ≤ 1000 := by
  have l0 := pc_len K h0
  have l1 := pc_len K h1
  have l2 := pc_len K h2
  unfold wantM barP
  simp only [List.length_append, List.length_singleton]
  omega
include K hbs M in
theorem seen_row (hT : IsT T) {i : Nat} {r : List Nat} (R : Row bs r) (hr : rows[i]? = some r) (hi : i < 100) :
    Ex T cSeen (sSeen h bs a b c rows mid turn (.val (wantsV h a b c mid)) (.val (restsV a b c mid)) .dead .dead (.own (cntI rows mid i)) (.val (.int i)) .dead .dead .dead .dead .dead .dead .dead)
      (forAll ((dAt 18).body.getD 5 default))
      (.next (sSeen h bs a b c rows mid turn (.val (wantsV h a b c mid)) (.val (restsV a b c mid)) .dead .dead (.own (cntI rows mid (i + 1))) .dead .dead .dead .dead .dead .dead .dead .dead)) := by
  have hgl : ∃ d, d ∈ recsOf T.view ∧ d.name = Str.ofString "_law_line" := ⟨dAt 16, by rw [hT.view]; exact m16, n16⟩
  have hge : ∃ d, d ∈ recsOf T.view ∧ d.name = Str.ofString "_ellipsis_match" := ⟨dAt 6, by rw [hT.view]; exact m6, n6⟩
  have fig_at : ∀ {j : Nat} {q : V}, (r.map fun (n : Nat) => V.int (n : Int))[j]? = some q → ∃ t : Nat, q = .int (t : Int) ∧ t < bs ∧ r.getD j 0 = t ∧ j < 3 := by
    intro j q hq
    obtain ⟨t, h1, h2, _⟩ := nats_at hq
    have hj : j < 3 := by
      rcases Nat.lt_or_ge j 3 with h | h
      · exact h
      · rw [List.getElem?_eq_none (by rw [R.len]; exact h)] at h1; cases h1
    obtain ⟨h3, h4⟩ := R.at hj
    rw [h3] at h1
    cases h1
    exact ⟨_, h2, h4, rfl, hj⟩
  have g1 : ∀ {t : Nat}, t < bs → (gM h a b c t).length ≤ 6 := fun {t} ht => gM_len K (by omega)
  -- line
  refine Ex.cons (Ex1.assign (p := .str (fLine3 a b c r)) (Ev.call (Ev.glob (by walk_at "at")) hgl (EvL.cons (Ev.compL (caps := [Str.ofString "marks"]) (cs := [.val (marksV bs a b c)]) (G' := [])
    (qs := r.map fun (n : Nat) => .int (n : Int)) (rs := (List.range 3).map fun k => .str [fM a b c (r.getD k 0)]) ?i1 ?i2 ?i3 ?i4 ?i5 ?i6 ?i7) EvL.nil)
    (cal_line (p := [fM a b c (r.getD 0 0)]) (q := [fM a b c (r.getD 1 0)]) (r := [fM a b c (r.getD 2 0)]) hT (by decide) (by simp) (by simp) (by simp))) (by walk_at "at")) ?s1
  case i1 => exact It.list (Ev.sub (Ev.name (by walk_at "at")) (Ev.name (by walk_at "at")) (Sbo.of (Sbo.at (Int.natCast_nonneg _) (rows_get hr))))
  case i2 => decide +kernel
  case i3 => exact CapL.val (by walk_at "at") .nil
  case i4 => exact .skip (.skip (.skip (.skip (.skip (.skip (.skip .nil))))))
  case i5 => rw [List.length_map, List.length_map, List.length_range, R.len]
  case i7 => rw [List.length_map, R.len]; decide
  case i6 =>
    intro j q q' hq hq'
    obtain ⟨t, rfl, ht, hrt, hj⟩ := fig_at hq
    obtain ⟨rfl, _⟩ := rng_at hq'
    rw [hrt]
    exact Ev.sub (Ev.name (by walk_at "at")) (Ev.name (by walk_at "at")) (Sbo.of (Sbo.at (Int.natCast_nonneg _) (marks_get hbs ht)))
  case s1 =>
  -- text
  refine Ex.cons (Ex1.assign (p := .str (gLine3 h a b c r)) (Ev.cast (Ev.call (Ev.name (by walk_at "at")) (esc_mem hT K.hh) (EvL.cons (Ev.name (by walk_at "at")) EvL.nil) (cal_write hT (by decide) K.hh (y := fLine3 a b c r) ?w1)) ?w2) (by walk_at "at")) ?s2
  case w1 => rw [fline_tok, List.length_map]; show 5 ≤ _; decide
  case w2 => rw [esc_fline, gline_tok K]
  case s2 =>
  refine Ex.cons (Ex1.skip (Tr.cast (Tr.cmp (Ev.name (by walk_at "at")) (Ev.call (Ev.glob (by walk_at "at")) hgl (EvL.cons (Ev.compL (caps := [Str.ofString "spelled"]) (cs := [.val (spellV h bs a b c)]) (G' := [])
    (qs := r.map fun (n : Nat) => .int (n : Int)) (rs := (List.range 3).map fun k => .str (gM h a b c (r.getD k 0))) ?j1 ?j2 ?j3 ?j4 ?j5 ?j6 ?j7) EvL.nil)
    (cal_line (p := gM h a b c (r.getD 0 0)) (q := gM h a b c (r.getD 1 0)) (r := gM h a b c (r.getD 2 0)) hT (by decide) ?l1 ?l2 ?l3)) Cm2.nes) ?j8)) ?s3
  case j1 => exact It.list (Ev.sub (Ev.name (by walk_at "at")) (Ev.name (by walk_at "at")) (Sbo.of (Sbo.at (Int.natCast_nonneg _) (rows_get hr))))
  case j2 => decide +kernel
  case j3 => exact CapL.val (by walk_at "at") .nil
  case j4 => exact .skip (.skip (.skip (.skip (.skip (.skip (.skip .nil))))))
  case j5 => rw [List.length_map, List.length_map, List.length_range, R.len]
  case j7 => rw [List.length_map, R.len]; decide
  case j6 =>
    intro j q q' hq hq'
    obtain ⟨t, rfl, ht, hrt, hj⟩ := fig_at hq
    obtain ⟨rfl, _⟩ := rng_at hq'
    rw [hrt]
    exact Ev.sub (Ev.name (by walk_at "at")) (Ev.name (by walk_at "at")) (Sbo.of (Sbo.at (Int.natCast_nonneg _) (spell_get hbs ht)))
  case l1 => have := g1 (R.at (k := 0) (by decide)).2; omega
  case l2 => have := g1 (R.at (k := 1) (by decide)).2; omega
  case l3 => have := g1 (R.at (k := 2) (by decide)).2; omega
  case j8 => unfold gLine3; rw [bne_self_eq_false]
  case s3 =>
  -- told
  refine Ex.cons (Ex1.compL (caps := [Str.ofString "text"]) (cs := [.val (.str (gLine3 h a b c r))]) (G' := [(Str.ofString "_ellipsis_match", .fn "_ellipsis_match")]) (qs := wantsI h a b c mid 8) (rs := (List.range 8).map fun ch => .bool (heldT r (askT mid ch))) ?k1 ?k2 ?k3 ?k4 ?k5 ?k6 ?k7 (by walk_at "at")) ?s4
  case k1 => exact It.list (Ev.name (by walk_at "at"))
  case k2 => decide +kernel
  case k3 => exact CapL.val (by walk_at "at") .nil
  case k4 => exact .more (by decide +kernel) (g_em hT) (.skip (.skip (.skip (.skip (.skip (.skip (.skip .nil)))))))
  case k5 => unfold wantsI; simp
  case k7 => unfold wantsI; simp
  case k6 =>
    intro j q q' hq hq'
    obtain ⟨hj, rfl⟩ := wants_at hq
    obtain ⟨rfl, _⟩ := rng_at hq'
    have hp := M.ask hbs j
    have hw := want_len K (M.ask_lt hbs j (k := 0) (by decide)) (M.ask_lt hbs j (k := 1) (by decide)) (M.ask_lt hbs j (k := 2) (by decide))
    rw [← em_want K (R.fig hbs) hp]
    rw [← want_join K] at hw ⊢
    exact Ev.call (Ev.glob (by walk_at "at")) hge (EvL.cons (Ev.name (by walk_at "at")) (EvL.cons (Ev.name (by walk_at "at")) EvL.nil)) (cal_em hT (by decide) (parts_ne _) (parts_dot K hp) (by omega) (by have := parts_len3 (h := h) (a := a) (b := b) (c := c) (askT mid j); omega))
  case s4 =>
  -- same
  refine Ex.cons (Ex1.compF (xs := List.range 3) (w := fun (k : Nat) => .int (k : Int)) (f := fun (k : Nat) => .int (k : Int)) (t := fun k => r.getD k 0 == mid.getD k 0) (caps := [Str.ofString "told"]) (cs := [.val (toldV r mid)]) (G' := []) ?n1 ?n2 ?n3 ?n4 ?n5 ?n6 ?n7 (by walk_at "at")) ?s5
  case n1 => exact It.range1 (n := 3) (Ev.glob (by walk_at "at")) Ev.int (by decide)
  case n2 => decide +kernel
  case n3 => exact CapL.val (by walk_at "at") .nil
  case n4 => exact .skip (.skip (.skip (.skip (.skip (.skip (.skip .nil))))))
  case n7 => decide
  case n6 => intro k _ _; exact Ev.name (by walk_at "at")
  case n5 =>
    intro k hk
    have hk : k < 3 := List.mem_range.mp hk
    have h8 : 2 ^ k < 8 := by
      match k, hk with
      | 0, _ => decide
      | 1, _ => decide
      | 2, _ => decide
    refine TrIf.one (Tr.cast (Tr.val (Ev.sub (Ev.name (by walk_at "at")) (Ev.bin Ev.int (Ev.name (by walk_at "at")) (Op2.pow (Int.natCast_nonneg _) (by omega) (by decide))) (Sbo.of (Sbo.at ?n9 ?n10))) Tv.bool) (held_two hbs M hk))
    case n9 => rw [Int.toNat_natCast]; exact Int.le_of_lt (pow2_small (by omega)).1
    case n10 => rw [Int.toNat_natCast, (pow2_small (i := k) (by omega)).2.2]; exact told_get h8
  case s5 =>
  -- the counts
  refine Ex.forAll (L := fun j => sSeen h bs a b c rows mid turn (.val (wantsV h a b c mid)) (.val (restsV a b c mid)) .dead .dead (.own (cntJ rows mid i r j)) (.val (.int i)) (.val (.str (fLine3 a b c r))) (.val (.str (gLine3 h a b c r))) (.val (toldV r mid)) (.val (intsV (sameT r mid))) .dead .dead .dead)
    (qs := (List.range 8).map fun (j : Nat) => .int (j : Int)) ?c1 ?c2 ?c3 ?s6
  case c1 => exact It.range1 (n := 8) (Ev.glob (by walk_at "at")) Ev.int (by decide)
  case c2 => rw [cntJ_zero]; exact Weak.refl _
  case c3 =>
    intro j q hq
    obtain ⟨rfl, hj⟩ := rng_at hq
    exact ⟨_, by walk_at "at", seen_count hbs M hT hj⟩
  case s6 =>
  rw [List.length_map, List.length_range, cntJ_end hr]
  -- the distances
  have hmod : (turn + i) % 7 < 8 := by omega
  refine Ex.forAll (L := fun _ => sSeen h bs a b c rows mid turn (.val (wantsV h a b c mid)) (.val (restsV a b c mid)) .dead .dead (.own (cntI rows mid (i + 1))) (.val (.int i)) (.val (.str (fLine3 a b c r))) (.val (.str (gLine3 h a b c r))) (.val (toldV r mid)) (.val (intsV (sameT r mid))) .dead .dead .dead)
    (qs := [.int ((7 : Nat) : Int), .int (((turn + i) % 7 : Nat) : Int)]) ?d1 (Weak.refl _) ?d2 ?d3
  case d1 => exact It.list (Ev.list (EvL.cons Ev.int (EvL.cons (Ev.cast (Ev.bin (Ev.bin (Ev.name (by walk_at "at")) (Ev.name (by walk_at "at")) Op2.add) Ev.int (Op2.mod' (by decide))) (by congr 1)) EvL.nil)))
  case d2 =>
    intro j q hq
    match j, hq with
    | 0, hq => cases hq; exact ⟨_, by walk_at "at", seen_due K hbs M hT (by decide) R hr⟩
    | 1, hq => cases hq; exact ⟨_, by walk_at "at", seen_due K hbs M hT hmod R hr⟩
    | j + 2, hq => cases hq
  case d3 => exact Ex.weakout Ex.nil (by walk_at "wk")
include K hbs M in
theorem cal_seen (hT : IsT T) (hc3 : bs = 3 → c ∈ signs) (R : ∀ r ∈ rows, Row bs r) (hlen : rows.length ≤ 99) : Cal T 9 "_law_seen" [rowsV rows, intsV mid, marksV bs a b c, .int h, .fn (escName h), .int turn] (intsV ((List.range 8).map (cntT rows mid))) := by
  rw [← n18]
  refine Cal.of (fSeen hT) rfl (by decide) ?_
  show Ex T cSeen [.val (rowsV rows), .val (intsV mid), .val (marksV bs a b c), .val (.int h), .val (.fn (escName h)), .val (.int turn), .dead, .dead, .dead, .dead, .dead, .dead, .dead, .dead, .dead, .dead, .dead, .dead, .dead, .dead] (dAt 18).body (.ret (intsV ((List.range 8).map (cntT rows mid))))
  have hgs : ∃ d, d ∈ recsOf T.view ∧ d.name = Str.ofString "_law_spelling" := ⟨dAt 13, by rw [hT.view]; exact m13, n13⟩
  have hin : ∀ ch ∈ marksL bs a b c, ch ∈ signs := by
    intro ch hm
    rcases hbs with rfl | rfl
    · simp only [marksL, List.take_succ_cons, List.take_zero, List.mem_cons, List.not_mem_nil, or_false] at hm
      rcases hm with rfl | rfl
      · exact K.ha
      · exact K.hb
    · have hc := K.hc
      simp only [marksL, List.take_succ_cons, List.take_zero, List.mem_cons, List.not_mem_nil, or_false] at hm
      rcases hm with rfl | rfl | rfl
      · exact K.ha
      · exact K.hb
      · exact hc3 rfl
  refine Ex.cons (Ex1.compL (caps := [Str.ofString "hand"]) (cs := [.val (.int h)]) (G' := [(Str.ofString "_law_spelling", .fn "_law_spelling")]) (qs := (marksL bs a b c).map fun ch => .str [ch]) (rs := (marksL bs a b c).map fun ch => .str (cd (escL h) ch)) ?k1 ?k2 ?k3 ?k4 ?k5 ?k6 ?k7 (by walk_at "at")) ?s1
  case k1 => exact It.list (Ev.name (by walk_at "at"))
  case k2 => decide +kernel
  case k3 => exact CapL.val (by walk_at "at") .nil
  case k4 => exact .more (by decide +kernel) (g_spell hT) (.skip (.skip (.skip (.skip (.skip (.skip (.skip .nil)))))))
  case k5 => simp
  case k7 => rw [List.length_map]; unfold marksL; exact Nat.le_trans (List.length_take_le _ _) (by rcases hbs with rfl | rfl <;> decide)
  case k6 =>
    intro j q q' hq hq'
    rw [List.getElem?_map] at hq hq'
    cases hm : (marksL bs a b c)[j]? with
    | none => rw [hm] at hq; cases hq
    | some ch =>
      rw [hm] at hq hq'
      cases hq; cases hq'
      exact Ev.call (Ev.glob (by walk_at "at")) hgs (EvL.cons (Ev.name (by walk_at "at")) (EvL.cons (Ev.name (by walk_at "at")) EvL.nil)) (cal_spell hT (by decide) K.hh (hin ch (List.mem_of_getElem? hm)))
  case s1 =>
  refine Ex.cons (Ex1.assign_new (EvN.list EvL.nil) (by walk_at "at")) ?_
  refine Ex.cons (Ex1.assign_new (EvN.list EvL.nil) (by walk_at "at")) ?_
  refine Ex.forAll (L := fun i => sSeen h bs a b c rows mid turn (.own (wantsI h a b c mid i)) (.own (restsI a b c mid i)) .dead .dead .dead .dead .dead .dead .dead .dead .dead .dead .dead)
    (qs := (List.range 8).map fun (j : Nat) => .int (j : Int)) ?c1 (Weak.refl _) ?c3 ?s2
  case c1 => exact It.range1 (n := 8) (Ev.glob (by walk_at "at")) Ev.int (by decide)
  case c3 =>
    intro j q hq
    obtain ⟨rfl, hj⟩ := rng_at hq
    exact ⟨_, by walk_at "at", seen_wants K hbs M hT hj⟩
  case s2 =>
  rw [List.length_map, List.length_range]
  refine Ex.freeze (x := Str.ofString "wants") (ps := wantsI h a b c mid 8) (by walk_at "at") (by walk_at "at") ?_
  refine Ex.freeze (x := Str.ofString "rests") (ps := restsI a b c mid 8) (by walk_at "at") (by walk_at "at") ?_
  refine Ex.cons (Ex1.assign_new (EvN.list (EvL.cons Ev.int (EvL.cons Ev.int (EvL.cons Ev.int (EvL.cons Ev.int (EvL.cons Ev.int (EvL.cons Ev.int (EvL.cons Ev.int (EvL.cons Ev.int EvL.nil))))))))) (by walk_at "at")) ?_
  refine Ex.forAll (L := fun i => sSeen h bs a b c rows mid turn (.val (wantsV h a b c mid)) (.val (restsV a b c mid)) .dead .dead (.own (cntI rows mid i)) .dead .dead .dead .dead .dead .dead .dead .dead)
    (qs := (List.range rows.length).map fun (j : Nat) => .int (j : Int)) ?e1 (Weak.refl _) ?e3 ?s3
  case e1 =>
    refine It.range1 (n := rows.length) (Ev.glob (by walk_at "at")) (Ev.cast (Ev.callo (Ev.glob (by walk_at "at")) (EvO.of (Ev.name (by walk_at "at"))) Bco.len) ?e2) (by omega)
    rw [List.length_map]
  case e3 =>
    intro j q hq
    obtain ⟨rfl, hj⟩ := rng_at hq
    have hr : rows[j]? = some rows[j] := List.getElem?_eq_getElem hj
    exact ⟨_, by walk_at "at", seen_row K hbs M hT (R _ (List.getElem_mem hj)) hr (by omega)⟩
  case s3 =>
  rw [List.length_map, List.length_range]
  have e : intsV ((List.range 8).map (cntT rows mid)) = .list (cntI rows mid rows.length) := by
    unfold intsV cntI
    rw [List.map_map, List.take_length]; rfl
  rw [e]
  exact Ex.ret (Ex1.return_own (by walk_at "at"))
end
end
section
open PySem PySem.W PyProof.Rows
set_option Elab.async false
set_option linter.unusedVariables false
set_option maxRecDepth 100000
set_option maxHeartbeats 4000000
variable {T : TC}


variable {c : Cx} {σ σ' : List Slot} {s₀ s s' : Shared} {U₀ U : List Addr} {env : Env}
-- a value known less sharply
theorem Fr.soft (F : Fr T c s₀ U₀ σ U env s) {x p p' σ'} (hx : At c.N σ x (.val p)) (hu : Upd c.N σ x (.val p') σ') (hp : ∀ s U v, Rep T s U v p → Rep T s U v p') : Fr T c s₀ U₀ σ' U env s := by
  have hat : ∀ y sl', At c.N σ' y sl' → (y = x ∧ sl' = .val p') ∨ (y ≠ x ∧ At c.N σ y sl') := fun y sl' h => hu.at F.nodup h
  have hown : ∀ y ps, At c.N σ' y (.own ps) → At c.N σ y (.own ps) := fun y ps h => by
    rcases hat y _ h with ⟨_, h2⟩ | ⟨_, h2⟩
    · cases h2
    · exact h2
  refine { F with rd := { F.rd with var := ?_, own := fun y ps h => F.rd.own y ps (hown y ps h) }, owned := fun y ps a h hv => F.owned y ps a (hown y ps h) hv, owap := fun y z ps qs a h1 h2 h3 h4 => F.owap y z ps qs a (hown y ps h1) (hown z qs h2) h3 h4 }
  intro y q h
  rcases hat y _ h with ⟨rfl, h2⟩ | ⟨_, h2⟩
  · cases h2
    obtain ⟨h3, v, h4, h5⟩ := F.rd.var y p hx
    exact ⟨h3, v, h4, hp _ _ _ h5⟩
  · exact F.rd.var y q h2
theorem Ex.soft {x p p' σ1 ss o} (hx : At c.N σ x (.val p)) (hu : Upd c.N σ x (.val p') σ1) (hp : ∀ s U v, Rep T s U v p → Rep T s U v p') (h : Ex T c σ1 ss o) : Ex T c σ ss o := fun A env s₀ U₀ U s O F =>
  h A env s₀ U₀ U s O (F.soft hx hu hp)
theorem strt_soft {xs : List (List Nat)} : ∀ s U v, Rep T s U v (.list (xs.map .strt)) → Rep T s U v (.list (xs.map .str)) := by
  intro s U v h
  unfold Rep at h ⊢
  obtain ⟨a, it, n, h1, h2, h3, h4, h5⟩ := h
  refine ⟨a, it, n, h1, h2, h3, by simpa using h4, ?_⟩
  clear h1 h2 h3 h4
  generalize it.toList = vs at h5
  induction xs generalizing vs with
  | nil => exact h5
  | cons x xs ih => simp only [List.map_cons] at h5 ⊢; unfold Reps at h5; obtain ⟨v, r, rfl, h2, h3⟩ := h5; exact Reps.cons h2.weak (ih _ h3)
-- the signs drawn
theorem rep_nil (a : Nat) (x : List Nat) : repP a [] x = x.filter fun k => !(k == a) := by
  unfold repP
  induction x with
  | nil => rfl
  | cons k x ih =>
    rw [List.flatMap_cons, ih, List.filter_cons]
    by_cases h : k = a
    · subst h; simp
    · rw [if_neg h, beq_false_of_ne h]; rfl
theorem left1 : ∀ m ∈ signs, (repP m [] signs).length = 8 := by decide
theorem left2 : ∀ m ∈ signs, ∀ n ∈ repP m [] signs, (repP n [] (repP m [] signs)).length = 7 := by decide +kernel
noncomputable def leftI (ms : List Nat) (i : Nat) : List Nat := (ms.take i).foldl (fun l a => repP a [] l) signs
structure Draw (A bs : Nat) (ms : List Nat) : Prop where
  len : ms.length = bs
  get : ∀ i < bs, (leftI ms i)[A / 10 / 9 ^ i % (leftI ms i).length]? = ms[i]? ∧ 0 < (leftI ms i).length
theorem leftI_len (ms : List Nat) : ∀ i, (leftI ms i).length ≤ 9
  | 0 => by unfold leftI; show 9 ≤ 9; decide
  | i + 1 => by
    have ih := leftI_len ms i
    unfold leftI at ih ⊢
    rw [List.take_add_one, List.foldl_append]
    cases hm : ms[i]? with
    | none => simpa using ih
    | some a =>
      show (repP a [] _).length ≤ 9
      rw [rep_nil]
      exact Nat.le_trans (List.length_filter_le _ _) ih
theorem draw_mk (A : Nat) {h : Nat} (hh : h < 5) {bs : Nat} (hbs : bs = 2 ∨ bs = 3) : ∃ a b c, Mk h a b c ∧ (bs = 3 → c ∈ signs) ∧ Draw A bs (marksL bs a b c) := by
  have at9 : ∀ i, i < 9 → ∃ m, signs[i]? = some m ∧ m ∈ signs := fun i hi => ⟨signs.getD i 0, (by revert i; decide), (by revert i; decide)⟩
  obtain ⟨a, ha, hma⟩ := at9 (A / 10 / 9 ^ 0 % 9) (Nat.mod_lt _ (by decide))
  have l1 := left1 a hma
  obtain ⟨b, hb⟩ : ∃ b, (repP a [] signs)[A / 10 / 9 ^ 1 % 8]? = some b := by
    have : A / 10 / 9 ^ 1 % 8 < (repP a [] signs).length := by rw [l1]; exact Nat.mod_lt _ (by decide)
    exact ⟨_, List.getElem?_eq_getElem this⟩
  have hmb := List.mem_of_getElem? hb
  have l2 := left2 a hma b hmb
  obtain ⟨c, hc⟩ : ∃ c, (repP b [] (repP a [] signs))[A / 10 / 9 ^ 2 % 7]? = some c := by
    have : A / 10 / 9 ^ 2 % 7 < (repP b [] (repP a [] signs)).length := by rw [l2]; exact Nat.mod_lt _ (by decide)
    exact ⟨_, List.getElem?_eq_getElem this⟩
  have hmc := List.mem_of_getElem? hc
  have mb : b ∈ signs ∧ b ≠ a := by
    rw [rep_nil, List.mem_filter] at hmb
    simpa using hmb
  have mc : c ∈ signs ∧ c ≠ a ∧ c ≠ b := by
    rw [rep_nil, List.mem_filter, rep_nil, List.mem_filter] at hmc
    simp at hmc
    exact ⟨hmc.1.1, hmc.1.2, hmc.2⟩
  have s9 : signs.length = 9 := rfl
  rcases hbs with rfl | rfl
  · refine ⟨a, b, 0, ⟨hh, hma, mb.1, .head _, fun e => mb.2 e.symm, fun e => ?_, fun e => ?_⟩, ⟨fun e => absurd e (by decide), rfl, ?_⟩⟩
    · rw [e] at hma; revert hma; decide
    · have := mb.1; rw [e] at this; revert this; decide
    · intro i hi
      match i, hi with
      | 0, _ => exact ⟨ha, (by decide : 0 < signs.length)⟩
      | 1, _ =>
        show (repP a [] signs)[A / 10 / 9 ^ 1 % (repP a [] signs).length]? = some b ∧ 0 < (repP a [] signs).length
        rw [l1]; exact ⟨hb, by decide⟩
  · refine ⟨a, b, c, ⟨hh, hma, mb.1, .tail _ mc.1, fun e => mb.2 e.symm, fun e => mc.2.1 e.symm, fun e => mc.2.2 e.symm⟩, ⟨fun _ => mc.1, rfl, ?_⟩⟩
    intro i hi
    match i, hi with
    | 0, _ => exact ⟨ha, (by decide : 0 < signs.length)⟩
    | 1, _ =>
      show (repP a [] signs)[A / 10 / 9 ^ 1 % (repP a [] signs).length]? = some b ∧ 0 < (repP a [] signs).length
      rw [l1]; exact ⟨hb, by decide⟩
    | 2, _ =>
      show (repP b [] (repP a [] signs))[A / 10 / 9 ^ 2 % (repP b [] (repP a [] signs)).length]? = some c ∧ 0 < (repP b [] (repP a [] signs)).length
      rw [l2]; exact ⟨hc, by decide⟩
-- the law's names
@[reducible] noncomputable def nLaw2 : List Str := [Str.ofString "script", Str.ofString "a", Str.ofString "b", Str.ofString "c", Str.ofString "base", Str.ofString "hand", Str.ofString "write", Str.ofString "marks", Str.ofString "left", Str.ofString "k", Str.ofString "first", Str.ofString "second", Str.ofString "lot", Str.ofString "s", Str.ofString "t", Str.ofString "row", Str.ofString "across", Str.ofString "number",
  Str.ofString "line", Str.ofString "seen", Str.ofString "other"]
@[reducible] noncomputable def cLaw : Cx := ⟨9, (dAt 19).scope.names, nLaw2,
  [(Str.ofString "_law_tells", .fn "_law_tells"), (Str.ofString "len", .raw (.builtin "len")), (Str.ofString "range", .raw (.type "range")), (Str.ofString "sum", .raw (.builtin "sum")), (Str.ofString "_law_row", .fn "_law_row"), (Str.ofString "_law_line", .fn "_law_line"), (Str.ofString "_law_seen", .fn "_law_seen"),
   (Str.ofString "_escape_cdata", .fn "_escape_cdata"), (Str.ofString "_escape_attrib", .fn "_escape_attrib"), (Str.ofString "_escape_attrib_html", .fn "_escape_attrib_html"), (Str.ofString "_escape_cdata_c14n", .fn "_escape_cdata_c14n"), (Str.ofString "_escape_attrib_c14n", .fn "_escape_attrib_c14n")]⟩
theorem fLaw (hT : IsT T) : FnCx T (dAt 19) cLaw [Str.ofString "script"] (nLaw2.drop 1) :=
  FnCx.of (params := [Str.ofString "script"]) (rest := nLaw2.drop 1) hT m19 (by decide +kernel)
    (.cons (g_tells hT) (by decide +kernel) (.cons (g_len hT) (by decide +kernel) (.cons (g_range hT) (by decide +kernel) (.cons (g_sum hT) (by decide +kernel) (.cons (g_row hT) (by decide +kernel) (.cons (g_line hT) (by decide +kernel) (.cons (g_seen hT) (by decide +kernel)
    (.cons (g_e0 hT) (by decide +kernel) (.cons (g_e1 hT) (by decide +kernel) (.cons (g_e2 hT) (by decide +kernel) (.cons (g_e3 hT) (by decide +kernel) (.cons (g_e4 hT) (by decide +kernel) .nil))))))))))))
    (fun _ _ _ => len1 fun _ => rfl)
end
section
open PySem PySem.W PyProof.Rows
set_option Elab.async false
set_option linter.unusedVariables false
set_option maxRecDepth 100000
set_option maxHeartbeats 4000000
variable {T : TC}


@[reducible] noncomputable def intsL (rows : List (List Nat)) : List V := rows.map intsV
@[reducible] noncomputable def sL (bs h : Nat) (B C : Int) (ma le k fi se lo s t ro ac nu li sn ot : Slot) : List Slot :=
  [.dead, .dead, .val (.int B), .val (.int C), .val (.int bs), .val (.int h), .val (.fn (escName h)), ma, le, k, fi, se, lo, s, t, ro, ac, nu, li, sn, ot]
theorem eqV_row (a b : List Nat) : eqV (intsV a) (intsV b) = (a == b) := eqV_list (f := fun (n : Nat) => V.int (n : Int)) eqV_nat a b
theorem inV_rows (r : List Nat) (L : List (List Nat)) : inV (intsV r) (L.map intsV) = L.contains r := inV_map (f := intsV) eqV_row r L
theorem dOk_row (r : List Nat) : dOk 9 (intsV r) = true := by unfold dOk; exact dOk_nats r
theorem dOk_row8 (r : List Nat) : dOk 8 (intsV r) = true := by unfold dOk; exact dOk_nats r
theorem dOk_rows (L : List (List Nat)) : dOks 9 (L.map intsV) = true := dOks_map fun r _ => dOk_row r
theorem dOk_rows8 (L : List (List Nat)) : dOks 8 (L.map intsV) = true := dOks_map fun r _ => dOk_row8 r
theorem mix_at {bs : Nat} {f s : List Nat} {x y k : Nat} (hk : k < 3) : (mixT bs f s x y)[k]? = some ((x * f.getD k 0 + y * s.getD k 0) % bs) := by
  match k, hk with
  | 0, _ => rfl
  | 1, _ => rfl
  | 2, _ => rfl
theorem cnt_le (rows : List (List Nat)) (m : List Nat) (k : Nat) : cntT rows m k ≤ rows.length := List.length_filter_le _ _
-- the rows
section
variable {h : Nat} {bs : Nat} (hbs : bs = 2 ∨ bs = 3) {f s : List Nat} (F : Row bs f) (S' : Row bs s) {B C : Int}
include hbs F S' in
theorem lot_turn (hT : IsT T) {x y : Nat} {L : List (List Nat)} (hL : L.length ≤ 100) {ma le k ro ac nu li sn ot : Slot} :
    Ex T cLaw (sL bs h B C ma le k (.val (intsV f)) (.val (intsV s)) (.own (intsL L)) (.val (.int x)) (.val (.int y)) ro ac nu li sn ot)
      (forAll (forBody ((dAt 19).body.getD 12 default) 0))
      (.next (sL bs h B C ma le k (.val (intsV f)) (.val (intsV s)) (.own (intsL (addT L (mixT bs f s x y)))) (.val (.int x)) .dead .dead ac nu li sn ot)) := by
  have h0 := base_or hbs
  refine Ex.cons (Ex1.compL (caps := [Str.ofString "base", Str.ofString "first", Str.ofString "s", Str.ofString "second", Str.ofString "t"]) (cs := [.val (.int bs), .val (intsV f), .val (.int x), .val (intsV s), .val (.int y)]) (G' := [])
    (qs := (List.range 3).map fun (k : Nat) => .int (k : Int)) (rs := (mixT bs f s x y).map fun (n : Nat) => .int (n : Int)) ?i1 ?i2 ?i3 ?i4 ?i5 ?i6 ?i7 (by walk_at "at")) ?s1
  case i1 => exact It.range1 (n := 3) (Ev.glob (by walk_at "at")) Ev.int (by decide)
  case i2 => decide +kernel
  case i3 => exact CapL.val (by walk_at "at") (CapL.val (by walk_at "at") (CapL.val (by walk_at "at") (CapL.val (by walk_at "at") (CapL.val (by walk_at "at") .nil))))
  case i4 => exact .skip (.skip (.skip (.skip (.skip (.skip (.skip (.skip (.skip (.skip (.skip (.skip .nil)))))))))))
  case i5 => rfl
  case i7 => decide
  case i6 =>
    intro k q r hq hr
    obtain ⟨rfl, hk⟩ := rng_at hq
    rw [List.getElem?_map, mix_at hk] at hr
    cases hr
    have hf := (F.at hk).2
    have hs := (S'.at hk).2
    refine Ev.cast (Ev.bin (Ev.bin (Ev.bin (Ev.name (by walk_at "at")) (Ev.sub (Ev.name (by walk_at "at")) (Ev.name (by walk_at "at")) (Sbo.of (Sbo.at (Int.natCast_nonneg _) (F.get hk)))) (Op2.mulr (by omega)))
      (Ev.bin (Ev.name (by walk_at "at")) (Ev.sub (Ev.name (by walk_at "at")) (Ev.name (by walk_at "at")) (Sbo.of (Sbo.at (Int.natCast_nonneg _) (S'.get hk)))) (Op2.mulr (by omega))) Op2.add) (Ev.name (by walk_at "at")) (Op2.mod' (by omega))) ?zz
    case zz => congr 1
  case s1 =>
  have htest : Tr T cLaw (sL bs h B C ma le k (.val (intsV f)) (.val (intsV s)) (.own (intsL L)) (.val (.int x)) (.val (.int y)) (.val (intsV (mixT bs f s x y))) ac nu li sn ot) (ifTest (forBody (forBody ((dAt 19).body.getD 12 default) 0) 1)) (!L.contains (mixT bs f s x y)) :=
    Tr.cast (Tr.cmpo (Ev.name (by walk_at "at")) (EvO.name (by walk_at "at")) (Cmo.notin (dOk_row _) (dOk_rows L))) (by rw [inV_rows])
  unfold addT
  cases hc : L.contains (mixT bs f s x y) with
  | true =>
    rw [hc] at htest
    rw [if_pos rfl]
    refine Ex.cons (Ex1.skip htest) ?_
    exact Ex.weakout Ex.nil (by walk_at "wk")
  | false =>
    rw [hc] at htest
    rw [if_neg (by decide)]
    have e : intsL (L ++ [mixT bs f s x y]) = intsL L ++ [intsV (mixT bs f s x y)] := by unfold intsL; rw [List.map_append]; rfl
    rw [e]
    refine Ex.cons (Ex1.if_ (b := true) htest (fun _ => Ex.cons (Ex1.append (by walk_at "at") (Ev.name (by walk_at "at")) (by rw [List.length_map]; omega) (by walk_at "at")) Ex.nil) (fun e => nomatch e)) ?_
    exact Ex.weakout Ex.nil (by walk_at "wk")
theorem lotJ_len {b : Nat} {f s : List Nat} {x : Nat} : ∀ {j : Nat} {L : List (List Nat)}, (lotJ b f s x L j).length ≤ L.length + j
  | 0, L => Nat.le_refl _
  | j + 1, L => by
    have e : lotJ b f s x L (j + 1) = addT (lotJ b f s x L j) (mixT b f s x j) := by unfold lotJ; rw [List.range_succ, List.foldl_append]; rfl
    have ih := lotJ_len (b := b) (f := f) (s := s) (x := x) (j := j) (L := L)
    rw [e]
    unfold addT
    split
    · omega
    · rw [List.length_append, List.length_singleton]; omega
theorem lotI_len {b : Nat} {f s : List Nat} : ∀ {i : Nat}, (lotI b f s i).length ≤ i * b
  | 0 => Nat.zero_le _
  | i + 1 => by
    have e : lotI b f s (i + 1) = lotJ b f s i (lotI b f s i) b := by unfold lotI; rw [List.range_succ, List.foldl_append]; rfl
    have ih := lotI_len (b := b) (f := f) (s := s) (i := i)
    rw [e, Nat.succ_mul]
    exact Nat.le_trans lotJ_len (by omega)
include hbs F S' in
theorem lot_loop (hT : IsT T) {ma le k ac nu li sn ot : Slot} {o : Out} {rest : List Stmt} (hr : (dAt 19).body.drop 12 = (dAt 19).body.getD 12 default :: rest)
    (hn : Ex T cLaw (sL bs h B C ma le k (.val (intsV f)) (.val (intsV s)) (.own (intsL (lotT bs f s))) .dead .dead .dead ac nu li sn ot) rest o) :
    Ex T cLaw (sL bs h B C ma le k (.val (intsV f)) (.val (intsV s)) (.own []) .dead .dead .dead ac nu li sn ot) ((dAt 19).body.drop 12) o := by
  have h0 := base_or hbs
  rw [hr]
  refine Ex.forAll (L := fun i => sL bs h B C ma le k (.val (intsV f)) (.val (intsV s)) (.own (intsL (lotI bs f s i))) .dead .dead .dead ac nu li sn ot)
    (qs := (List.range bs).map fun (j : Nat) => .int (j : Int)) ?c1 (Weak.refl _) ?c2 ?c3
  case c1 => exact It.range1 (n := bs) (Ev.glob (by walk_at "at")) (Ev.name (by walk_at "at")) (by omega)
  case c2 =>
    intro i q hq
    obtain ⟨rfl, hi⟩ := rng_at hq
    refine ⟨_, by walk_at "at", ?_⟩
    have e : lotI bs f s (i + 1) = lotJ bs f s i (lotI bs f s i) bs := by unfold lotI; rw [List.range_succ, List.foldl_append]; rfl
    have hl := lotI_len (b := bs) (f := f) (s := s) (i := i)
    have hl2 : i * bs ≤ 9 := by rcases hbs with rfl | rfl <;> omega
    rw [e]
    generalize lotI bs f s i = L at hl ⊢
    refine Ex.forAll (L := fun j => sL bs h B C ma le k (.val (intsV f)) (.val (intsV s)) (.own (intsL (lotJ bs f s i L j))) (.val (.int i)) .dead .dead ac nu li sn ot)
      (qs := (List.range bs).map fun (j : Nat) => .int (j : Int)) ?d1 (Weak.refl _) ?d2 ?d3
    case d1 => exact It.range1 (n := bs) (Ev.glob (by walk_at "at")) (Ev.name (by walk_at "at")) (by omega)
    case d2 =>
      intro j q hq
      obtain ⟨rfl, hj⟩ := rng_at hq
      refine ⟨_, by walk_at "at", ?_⟩
      have e : lotJ bs f s i L (j + 1) = addT (lotJ bs f s i L j) (mixT bs f s i j) := by unfold lotJ; rw [List.range_succ, List.foldl_append]; rfl
      rw [e]
      have hl3 := lotJ_len (b := bs) (f := f) (s := s) (x := i) (j := j) (L := L)
      exact lot_turn hbs F S' hT (by omega)
    case d3 =>
      rw [List.length_map, List.length_range]
      exact Ex.weakout Ex.nil (by walk_at "wk")
  case c3 =>
    rw [List.length_map, List.length_range]
    exact hn
theorem acrossI_succ {b : Nat} {f s : List Nat} {i : Nat} : acrossI b f s (i + 1) = acrossI b f s i ++ (if dotT b f (rowT i b) == 0 && dotT b s (rowT i b) == 0 then [rowT i b] else []) := by
  unfold acrossI
  rw [List.range_succ, List.map_append, List.filter_append]
  congr 1
  simp only [List.map_cons, List.map_nil, List.filter_cons, List.filter_nil]
theorem dot_list {b : Nat} {f s r : List Nat} : ((([f, s] : List (List Nat)).filter fun u => dotT b u r != 0) == []) = (dotT b f r == 0 && dotT b s r == 0) := by
  rw [Bool.eq_iff_iff, beq_iff_eq, List.filter_eq_nil_iff]
  simp
include hbs F S' in
theorem acr_turn (hT : IsT T) {i : Nat} (hi : i < 27) {ma le k lo s' t ro li sn ot : Slot} :
    Ex T cLaw (sL bs h B C ma le k (.val (intsV f)) (.val (intsV s)) lo s' t ro (.own (intsL (acrossI bs f s i))) (.val (.int i)) li sn ot)
      (forAll ((dAt 19).body.getD 14 default))
      (.next (sL bs h B C ma le k (.val (intsV f)) (.val (intsV s)) lo s' t .dead (.own (intsL (acrossI bs f s (i + 1)))) .dead li sn ot)) := by
  have h0 := base_or hbs
  have hgr : ∃ d, d ∈ recsOf T.view ∧ d.name = Str.ofString "_law_row" := ⟨dAt 15, by rw [hT.view]; exact m15, n15⟩
  refine Ex.cons (Ex1.assign (p := intsV (rowT i bs)) (Ev.call (Ev.glob (by walk_at "at")) hgr (EvL.cons (Ev.name (by walk_at "at")) (EvL.cons (Ev.name (by walk_at "at")) EvL.nil)) (cal_row hT (by decide) h0.1 (by omega))) (by walk_at "at")) ?_
  have R := Row.of_num hbs i
  have hrow : (rowT i bs).length = 3 := rfl
  generalize hr : rowT i bs = r at R hrow
  have htest : Tr T cLaw (sL bs h B C ma le k (.val (intsV f)) (.val (intsV s)) lo s' t (.val (intsV r)) (.own (intsL (acrossI bs f s i))) (.val (.int i)) li sn ot) (ifTest (forBody ((dAt 19).body.getD 14 default) 1)) (dotT bs f r == 0 && dotT bs s r == 0) := by
    rw [← dot_list]
    refine Tr.cast (Tr.cmp (Ev.compF (xs := [f, s]) (w := intsV) (f := intsV) (t := fun u => dotT bs u r != 0) (caps := [Str.ofString "base", Str.ofString "row"]) (cs := [.val (.int bs), .val (intsV r)]) (G' := []) ?i1 ?i2 ?i3 ?i4 ?i5 ?i6 ?i7) (Ev.list EvL.nil) (Cm2.eqd ?i8 ?i9) ?i11) ?i10
    case i1 => exact It.list (Ev.list (EvL.cons (Ev.name (by walk_at "at")) (EvL.cons (Ev.name (by walk_at "at")) EvL.nil)))
    case i2 => decide +kernel
    case i3 => exact CapL.val (by walk_at "at") (CapL.val (by walk_at "at") .nil)
    case i4 => exact .skip (.skip (.skip (.skip (.skip (.skip (.skip (.skip (.skip (.skip (.skip (.skip .nil)))))))))))
    case i7 => simp
    case i6 => intro u _ _; exact Ev.name (by walk_at "at")
    case i5 =>
      intro u hu
      have hu3 : Row bs u := by
        simp only [List.mem_cons, List.not_mem_nil, or_false] at hu
        rcases hu with rfl | rfl
        · exact F
        · exact S'
      have r0 := (R.at (k := 0) (by decide)).2
      have r1 := (R.at (k := 1) (by decide)).2
      have r2 := (R.at (k := 2) (by decide)).2
      refine TrIf.one (Tr.cast (Tr.cmp (Ev.bin (Ev.bin (Ev.bin (Ev.bin (Ev.sub (Ev.name (by walk_at "at")) Ev.int (Sbo.of (Sbo.at (by decide) (hu3.get (k := 0) (by decide))))) (Ev.sub (Ev.name (by walk_at "at")) Ev.int (Sbo.of (Sbo.at (by decide) (R.get (k := 0) (by decide))))) (Op2.mulr (by omega))) (Ev.bin (Ev.sub (Ev.name (by walk_at "at")) Ev.int (Sbo.of (Sbo.at (by decide) (hu3.get (k := 1) (by decide))))) (Ev.sub (Ev.name (by walk_at "at")) Ev.int (Sbo.of (Sbo.at (by decide) (R.get (k := 1) (by decide))))) (Op2.mulr (by omega))) Op2.add) (Ev.bin (Ev.sub (Ev.name (by walk_at "at")) Ev.int (Sbo.of (Sbo.at (by decide) (hu3.get (k := 2) (by decide))))) (Ev.sub (Ev.name (by walk_at "at")) Ev.int (Sbo.of (Sbo.at (by decide) (R.get (k := 2) (by decide))))) (Op2.mulr (by omega))) Op2.add) (Ev.name (by walk_at "at")) (Op2.mod' (by omega))) Ev.int Cm2.ne) ?p3)
      case p3 =>
        have e : ((((u.getD 0 0 : Nat) : Int) * ((r.getD 0 0 : Nat) : Int) + ((u.getD 1 0 : Nat) : Int) * ((r.getD 1 0 : Nat) : Int) + ((u.getD 2 0 : Nat) : Int) * ((r.getD 2 0 : Nat) : Int)) % (bs : Int)) = ((dotT bs u r : Nat) : Int) := by
          unfold dotT; push_cast; rfl
        rw [e, Bool.eq_iff_iff, bne_iff_ne, bne_iff_ne]
        omega
    case i8 => unfold dOk; exact dOk_rows8 _
    case i9 => unfold dOk dOks; rfl
    case i11 => with_unfolding_all rfl
    case i10 =>
      have := eqV_list (f := intsV) eqV_row (([f, s] : List (List Nat)).filter fun u => dotT bs u r != 0) []
      rw [← this]; rfl
  rw [acrossI_succ, hr]
  cases hc : (dotT bs f r == 0 && dotT bs s r == 0) with
  | true =>
    rw [hc] at htest
    rw [if_pos rfl]
    have e : intsL (acrossI bs f s i ++ [r]) = intsL (acrossI bs f s i) ++ [intsV r] := by unfold intsL; rw [List.map_append]; rfl
    rw [e]
    have hl : (acrossI bs f s i).length ≤ 27 := by
      unfold acrossI
      exact Nat.le_trans (List.length_filter_le _ _) (by rw [List.length_map, List.length_range]; omega)
    refine Ex.cons (Ex1.if_ (b := true) htest (fun _ => Ex.cons (Ex1.append (by walk_at "at") (Ev.name (by walk_at "at")) (by rw [List.length_map]; omega) (by walk_at "at")) Ex.nil) (fun e => nomatch e)) ?_
    exact Ex.weakout Ex.nil (by walk_at "wk")
  | false =>
    rw [hc] at htest
    rw [if_neg (by decide), List.append_nil]
    refine Ex.cons (Ex1.skip htest) ?_
    exact Ex.weakout Ex.nil (by walk_at "wk")
end
end
section
open PySem PySem.W PyProof.Rows
set_option Elab.async false
set_option linter.unusedVariables false
set_option maxRecDepth 100000
set_option maxHeartbeats 4000000
variable {T : TC}


theorem tr_tells (hT : IsT T) {c : Cx} {σ : List Slot} (hcd : 8 ≤ c.d) {p pos pos' : Pos} {e1 e2 e3 e4 : Expr} {u v : List Nat} {mx due : Int} (hg : AtG c.G (Str.ofString "_law_tells") (.fn "_law_tells")) (h1 : Ev T c σ e1 (.str u)) (h2 : Ev T c σ e2 (.str v)) (h3 : Ev T c σ e3 (.int mx)) (h4 : Ev T c σ e4 (.int due))
    (lev : levP subP u v mx = due) (hu : ∀ x ∈ u, x < 128) (hv : ∀ x ∈ v, x < 128) (lu : u.length ≤ 1000) (lv : v.length ≤ 1000) (hs : ∀ env, backTo pos (starEach [e1, e2, e3, e4] env) = [e1, e2, e3, e4].map fun e => (false, eval e env)) :
    Tr T c σ (.UnaryOp .Not (.Call (.Name (Str.ofString "_law_tells") p) [e1, e2, e3, e4] [] pos) pos') false := by
  have hgt : ∃ d, d ∈ recsOf T.view ∧ d.name = Str.ofString "_law_tells" := ⟨dAt 14, by rw [hT.view]; exact m14, n14⟩
  refine Tr.cast (Tr.not (Tr.val (Ev.call (Ev.glob hg) hgt (EvL.cons h1 (EvL.cons h2 (EvL.cons h3 (EvL.cons h4 EvL.nil)))) (cal_tellsP (mx := mx) (due := due) hT hcd hu hv (by omega) (by omega)) hs) Tv.bool)) ?_
  rw [lev, beq_self_eq_true]; rfl
section
variable {h a b c : Nat} (K : Mk h a b c) {bs : Nat} (hbs : bs = 2 ∨ bs = 3) (hc3 : bs = 3 → c ∈ signs) {Fn Sn : Nat} (hF : 1 ≤ Fn) (hF2 : Fn < bs ^ 3) (hS : Sn < bs ^ 3) {B : Int} {C : Nat}
theorem nats_ne {l : List Nat} (h : l.length = 8) : eqV (intsV l) (.list []) = false := by
  have e := eqV_row l []
  have e2 : intsV [] = .list [] := rfl
  rw [e2] at e
  rw [e]
  cases l with
  | nil => simp at h
  | cons _ _ => rfl
include K hbs hc3 hF hF2 hS in
theorem law_b (hT : IsT T) {fi se le k li sn ot : Slot} :
    Ex T cLaw (sL bs h B C (.val (marksV bs a b c)) le k fi se (.val (.list (intsL (lotT bs (rowT Fn bs) (rowT Sn bs))))) .dead .dead .dead (.val (.list (intsL (acrossT bs (rowT Fn bs) (rowT Sn bs))))) .dead li sn ot)
      ((dAt 19).body.drop 15) (.ret (.bool true)) := by
  have hgl : ∃ d, d ∈ recsOf T.view ∧ d.name = Str.ofString "_law_line" := ⟨dAt 16, by rw [hT.view]; exact m16, n16⟩
  have hgs : ∃ d, d ∈ recsOf T.view ∧ d.name = Str.ofString "_law_seen" := ⟨dAt 18, by rw [hT.view]; exact m18, n18⟩
  have hgp : ∃ d, d ∈ recsOf T.view ∧ d.name = Str.ofString "_law_places" := ⟨dAt 17, by rw [hT.view]; exact m17, n17⟩
  have hmac := fun {m m' : List Nat} hm hm' {k : Nat} hk => mac (b := bs) (F := Fn) (s := Sn) (m := m) (m' := m') (k := k) hbs hF hF2 hS hm hm' hk
  have hll := lot_len (F := Fn) (s := Sn) hbs
  have hal := acr_len (F := Fn) (s := Sn) hbs
  have hlr : ∀ r ∈ lotT bs (rowT Fn bs) (rowT Sn bs), Row bs r := fun r hr => by obtain ⟨n, rfl⟩ := lot_rows hbs r hr; exact Row.of_num hbs n
  have har : ∀ r ∈ acrossT bs (rowT Fn bs) (rowT Sn bs), Row bs r := fun r hr => by obtain ⟨n, rfl⟩ := acr_rows r hr; exact Row.of_num hbs n
  generalize lotT bs (rowT Fn bs) (rowT Sn bs) = lot at hmac hll hlr ⊢
  generalize acrossT bs (rowT Fn bs) (rowT Sn bs) = acr at hmac hal har ⊢
  have h0 := base_or hbs
  -- the last row's line
  obtain ⟨r, hr⟩ : ∃ r, lot[lot.length - 1]? = some r := ⟨_, List.getElem?_eq_getElem (by omega)⟩
  have R := hlr r (List.mem_of_getElem? hr)
  have hlast : (intsL lot)[((-1 : Int) + ((intsL lot).length : Nat)).toNat]? = some (intsV r) := by
    have e : ((-1 : Int) + ((intsL lot).length : Nat)).toNat = lot.length - 1 := by rw [List.length_map]; omega
    rw [e, List.getElem?_map, hr]; rfl
  have fig_at : ∀ {j : Nat} {q : V}, (r.map fun (n : Nat) => V.int (n : Int))[j]? = some q → ∃ t : Nat, q = .int (t : Int) ∧ t < bs ∧ r.getD j 0 = t ∧ j < 3 := by
    intro j q hq
    obtain ⟨t, h1, h2, _⟩ := nats_at hq
    have hj : j < 3 := by
      rcases Nat.lt_or_ge j 3 with h | h
      · exact h
      · rw [List.getElem?_eq_none (by rw [R.len]; exact h)] at h1; cases h1
    obtain ⟨h3, h4⟩ := R.at hj
    rw [h3] at h1
    cases h1
    exact ⟨_, h2, h4, rfl, hj⟩
  refine Ex.cons (Ex1.assign (p := .str (fLine3 a b c r)) (Ev.call (Ev.glob (by walk_at "at")) hgl (EvL.cons (Ev.compL (caps := [Str.ofString "marks"]) (cs := [.val (marksV bs a b c)]) (G' := [])
    (qs := r.map fun (n : Nat) => .int (n : Int)) (rs := (List.range 3).map fun k => .str [fM a b c (r.getD k 0)]) ?i1 ?i2 ?i3 ?i4 ?i5 ?i6 ?i7) EvL.nil)
    (cal_line (p := [fM a b c (r.getD 0 0)]) (q := [fM a b c (r.getD 1 0)]) (r := [fM a b c (r.getD 2 0)]) hT (by decide) (by simp) (by simp) (by simp))) (by walk_at "at")) ?s1
  case i1 => exact It.list (Ev.sub (Ev.name (by walk_at "at")) (Ev.neg Ev.int) (Sbo.of (Sbo.neg (by decide) (by rw [List.length_map]; omega) hlast)))
  case i2 => decide +kernel
  case i3 => exact CapL.val (by walk_at "at") .nil
  case i4 => exact .skip (.skip (.skip (.skip (.skip (.skip (.skip (.skip (.skip (.skip (.skip (.skip .nil)))))))))))
  case i5 => rw [List.length_map, List.length_map, List.length_range, R.len]
  case i7 => rw [List.length_map, R.len]; decide
  case i6 =>
    intro j q q' hq hq'
    obtain ⟨t, rfl, ht, hrt, hj⟩ := fig_at hq
    obtain ⟨rfl, _⟩ := rng_at hq'
    rw [hrt]
    exact Ev.sub (Ev.name (by walk_at "at")) (Ev.name (by walk_at "at")) (Sbo.of (Sbo.at (Int.natCast_nonneg _) (marks_get hbs ht)))
  case s1 =>
  obtain ⟨v1, v2, v3⟩ := lev_heads K (R.fig hbs)
  have f0 := fM_asc K (t := r.getD 0 0) (by have := (R.at (k := 0) (by decide)).2; omega)
  have f1 := fM_asc K (t := r.getD 1 0) (by have := (R.at (k := 1) (by decide)).2; omega)
  have f2 := fM_asc K (t := r.getD 2 0) (by have := (R.at (k := 2) (by decide)).2; omega)
  have n61 : fM a b c (r.getD 0 0) ≠ 61 := fun e => by
    have hr0 := (R.at (k := 0) (by decide)).2
    have := (((tok_of K).2 (r.getD 0 0) (by omega)).2 5 (by decide)).2 e
    omega
  have hfl : fLine3 a b c r = [fM a b c (r.getD 0 0), 47, fM a b c (r.getD 1 0), 124, fM a b c (r.getD 2 0)] := rfl
  rw [hfl] at v1 v2 ⊢
  generalize fM a b c (r.getD 0 0) = x0 at f0 v1 v2 v3 n61 ⊢
  generalize fM a b c (r.getD 1 0) = x1 at f1 v1 v2 ⊢
  generalize fM a b c (r.getD 2 0) = x2 at f2 v1 v2 ⊢
  have sl2 : sliceP [x0, 47, x1, 124, x2] none (some 2) = [x0, 47] := sliceP_to (by decide) (by simp)
  have sl1 : sliceP [x0, 47, x1, 124, x2] none (some 1) = [x0] := sliceP_to (by decide) (by simp)
  have sl3 : sliceP [x0, 47, x1, 124, x2] (some 3) none = [124, x2] := sliceP_from (by decide) (by simp)
  have m41 : mulP [61] ((41 : Int).toNat) = List.replicate 41 61 := rfl
  refine Ex.cons (Ex1.skip (Tr.cast (Tr.boolop (TrL.or_cons (a := false) ?t1 fun _ => TrL.or_cons (a := false) ?t2 fun _ => TrL.or_nil)) rfl)) ?s2
  case t1 =>
    refine tr_tells hT (by decide) (u := [x0, 47, 61]) (v := [61, x0, 47]) (by walk_at "at") (Ev.cast (Ev.bin (Ev.strslice (Ev.name (by walk_at "at")) .none (.int Ev.int)) (cst [61]) (Op2.cat ?l1)) ?l2) (Ev.cast (Ev.bin (cst [61]) (Ev.strslice (Ev.name (by walk_at "at")) .none (.int Ev.int)) (Op2.cat ?l3)) ?l4) Ev.int Ev.int v3 ?l5 ?l6 (by simp) (by simp) (by intro _; rfl)
    case l1 => rw [sl2]; simp
    case l2 => rw [sl2]; rfl
    case l3 => rw [sl2]; simp
    case l4 => rw [sl2]; rfl
    case l5 => intro x hx; simp only [List.mem_cons, List.not_mem_nil, or_false] at hx; omega
    case l6 => intro x hx; simp only [List.mem_cons, List.not_mem_nil, or_false] at hx; omega
  case t2 =>
    refine tr_tells hT (by decide) (u := List.replicate 41 61) (v := [x0]) (by walk_at "at") (Ev.cast (Ev.bin (cst [61]) Ev.int (Op2.mulstr (by decide) (by decide) (by decide))) (congrArg V.str m41)) (Ev.cast (Ev.strslice (Ev.name (by walk_at "at")) .none (.int Ev.int)) (congrArg V.str sl1)) Ev.int Ev.int (lev_many n61) ?l7 ?l8 (by simp) (by simp) (by intro _; rfl)
    case l7 => intro x hx; rw [(List.mem_replicate.mp hx).2]; decide
    case l8 => intro x hx; rw [List.mem_singleton.mp hx]; exact f0
  case s2 =>
  have hx5 : ∀ x ∈ [x0, 47, x1, 124, x2], x < 128 := by intro x hx; simp only [List.mem_cons, List.not_mem_nil, or_false] at hx; omega
  refine Ex.cons (Ex1.skip (Tr.cast (Tr.boolop (TrL.or_cons (a := false) ?t3 fun _ => TrL.or_cons (a := false) ?t4 fun _ => TrL.or_nil)) rfl)) ?s3
  case t3 =>
    refine tr_tells hT (by decide) (u := [x0, 47, x1, 124, x2]) (v := [x0, 47]) (by walk_at "at") (Ev.name (by walk_at "at")) (Ev.cast (Ev.strslice (Ev.name (by walk_at "at")) .none (.int Ev.int)) (congrArg V.str sl2)) Ev.int Ev.int v1 hx5 ?l9 (by simp) (by simp) (by intro _; rfl)
    case l9 => intro x hx; simp only [List.mem_cons, List.not_mem_nil, or_false] at hx; omega
  case t4 =>
    refine tr_tells hT (by decide) (u := [x0, 47, x1, 124, x2]) (v := [124, x2]) (by walk_at "at") (Ev.name (by walk_at "at")) (Ev.cast (Ev.strslice (Ev.name (by walk_at "at")) (.int Ev.int) .none) (congrArg V.str sl3)) Ev.int Ev.int v2 hx5 ?l10 (by simp) (by simp) (by intro _; rfl)
    case l10 => intro x hx; simp only [List.mem_cons, List.not_mem_nil, or_false] at hx; omega
  case s3 =>
  -- the counts
  obtain ⟨m, hm⟩ : ∃ m, lot[C % lot.length]? = some m := ⟨_, List.getElem?_eq_getElem (Nat.mod_lt _ hll.1)⟩
  obtain ⟨m', hm'⟩ : ∃ m', acr[C / 9 % acr.length]? = some m' := ⟨_, List.getElem?_eq_getElem (Nat.mod_lt _ hal.1)⟩
  have gm : (intsL lot)[((C : Int) % ((intsL lot).length : Nat)).toNat]? = some (intsV m) := by
    have e : ((C : Int) % ((intsL lot).length : Nat)).toNat = C % lot.length := by
      rw [List.length_map, show ((C : Int) % (lot.length : Nat)) = ((C % lot.length : Nat) : Int) from by push_cast; rfl]; exact Int.toNat_natCast _
    rw [e, List.getElem?_map, hm]; rfl
  have gm' : (intsL acr)[((C : Int) / 9 % ((intsL acr).length : Nat)).toNat]? = some (intsV m') := by
    have e : ((C : Int) / 9 % ((intsL acr).length : Nat)).toNat = C / 9 % acr.length := by
      rw [List.length_map, show ((C : Int) / 9 % (acr.length : Nat)) = ((C / 9 % acr.length : Nat) : Int) from by push_cast; rfl]; exact Int.toNat_natCast _
    rw [e, List.getElem?_map, hm']; rfl
  have em := List.mem_of_getElem? hm
  have em' := List.mem_of_getElem? hm'
  have pl : (0 : Int) < ((intsL lot).length : Nat) := by rw [List.length_map]; omega
  have pa : (0 : Int) < ((intsL acr).length : Nat) := by rw [List.length_map]; omega
  have c90 : (C : Int) / 90 = ((C / 90 : Nat) : Int) := by push_cast; rfl
  refine Ex.cons (Ex1.assign (p := intsV ((List.range 8).map (cntT lot m))) (Ev.call (Ev.glob (by walk_at "at")) hgs (EvL.cons (Ev.name (by walk_at "at")) (EvL.cons (Ev.sub (Ev.name (by walk_at "at")) (Ev.bin (Ev.name (by walk_at "at")) (Ev.callo (Ev.glob (by walk_at "at")) (EvO.of (Ev.name (by walk_at "at"))) Bco.len) (Op2.mod' pl)) (Sbo.of (Sbo.at (Int.emod_nonneg _ (by omega)) gm)))
    (EvL.cons (Ev.name (by walk_at "at")) (EvL.cons (Ev.name (by walk_at "at")) (EvL.cons (Ev.name (by walk_at "at")) (EvL.cons (Ev.cast (Ev.bin (Ev.name (by walk_at "at")) Ev.int (Op2.div' (by decide) (by decide))) (congrArg V.int c90)) EvL.nil)))))) (cal_seen K hbs (hlr m em) hT hc3 hlr (by omega))) (by walk_at "at")) ?s4
  case s4 =>
  refine Ex.cons (Ex1.assign (p := intsV ((List.range 8).map (cntT acr m'))) (Ev.call (Ev.glob (by walk_at "at")) hgs (EvL.cons (Ev.name (by walk_at "at")) (EvL.cons (Ev.sub (Ev.name (by walk_at "at")) (Ev.bin (Ev.bin (Ev.name (by walk_at "at")) Ev.int (Op2.div' (by decide) (by decide))) (Ev.callo (Ev.glob (by walk_at "at")) (EvO.of (Ev.name (by walk_at "at"))) Bco.len) (Op2.mod' pa)) (Sbo.of (Sbo.at (Int.emod_nonneg _ (by omega)) gm')))
    (EvL.cons (Ev.name (by walk_at "at")) (EvL.cons (Ev.name (by walk_at "at")) (EvL.cons (Ev.name (by walk_at "at")) (EvL.cons (Ev.cast (Ev.bin (Ev.name (by walk_at "at")) Ev.int (Op2.div' (by decide) (by decide))) (congrArg V.int c90)) EvL.nil)))))) (cal_seen K hbs (har m' em') hT hc3 har (by omega))) (by walk_at "at")) ?s5
  case s5 =>
  refine Ex.cons (Ex1.skip (Tr.cast (Tr.boolop (TrL.or_cons (a := false) ?u1 fun _ => TrL.or_cons (a := false) ?u2 fun _ => TrL.or_nil)) rfl)) ?s6
  case u1 => exact Tr.cast (Tr.cmp (Ev.name (by walk_at "at")) (Ev.list EvL.nil) (Cm2.eqd (dOk_row _) (by unfold dOk dOks; rfl))) (nats_ne (by simp))
  case u2 => exact Tr.cast (Tr.cmp (Ev.name (by walk_at "at")) (Ev.list EvL.nil) (Cm2.eqd (dOk_row _) (by unfold dOk dOks; rfl))) (nats_ne (by simp))
  case s6 =>
  have hsm : ∀ k < 8, (((List.range 8).map (cntT lot m)).map fun (n : Nat) => V.int (n : Int))[((k : Nat) : Int).toNat]? = some (.int ((cntT lot m k : Nat) : Int)) := fun k hk => by
    rw [Int.toNat_natCast, List.getElem?_map, List.getElem?_map, List.getElem?_range hk]; rfl
  have hso : ∀ k < 8, (((List.range 8).map (cntT acr m')).map fun (n : Nat) => V.int (n : Int))[((7 : Int) - (k : Nat)).toNat]? = some (.int ((cntT acr m' (7 - k) : Nat) : Int)) := fun k hk => by
    have e : ((7 : Int) - (k : Nat)).toNat = 7 - k := by omega
    rw [e, List.getElem?_map, List.getElem?_map, List.getElem?_range (by omega)]; rfl
  refine Ex.ret (Ex1.return_ ?ret)
  refine Ev.cast (Ev.cmp (Ev.compL (caps := [Str.ofString "base", Str.ofString "seen"]) (cs := [.val (.int bs), .val (intsV ((List.range 8).map (cntT lot m)))]) (G' := [(Str.ofString "_law_places", .fn "_law_places"), (Str.ofString "len", .raw (.builtin "len"))])
      (qs := (List.range 8).map fun (k : Nat) => .int (k : Int)) (rs := ((List.range 8).map fun k => cntT lot m k * bs ^ (placesT k).length).map fun (n : Nat) => .int (n : Int)) ?a1 ?a2 ?a3 ?a4 ?a5 ?a6 ?a7)
    (Ev.compL (caps := [Str.ofString "lot", Str.ofString "other"]) (cs := [.val (.list (intsL lot)), .val (intsV ((List.range 8).map (cntT acr m')))]) (G' := [(Str.ofString "len", .raw (.builtin "len"))])
      (qs := (List.range 8).map fun (k : Nat) => .int (k : Int)) (rs := ((List.range 8).map fun k => lot.length * cntT acr m' (7 - k)).map fun (n : Nat) => .int (n : Int)) ?b1 ?b2 ?b3 ?b4 ?b5 ?b6 ?b7) (Cm2.eqd ?d1 ?d2) ?d4) ?d3
  case a1 => exact It.range1 (n := 8) (Ev.glob (by walk_at "at")) Ev.int (by decide)
  case a2 => decide +kernel
  case a3 => exact CapL.val (by walk_at "at") (CapL.val (by walk_at "at") .nil)
  case a4 => exact .more (by decide +kernel) (g_places hT) (.skip (.take (by decide +kernel) (.skip (.skip (.skip (.skip (.skip (.skip (.skip (.skip (.skip (.skip .nil))))))))))))
  case a5 => simp
  case a7 => simp
  case a6 =>
    intro k q r hq hr
    obtain ⟨rfl, hk⟩ := rng_at hq
    rw [List.map_map] at hr
    obtain ⟨rfl, _⟩ := rng_at hr
    have hpl : (placesT k).length ≤ 3 := Nat.le_trans (List.length_filter_le _ _) (by decide)
    have hpw : bs ^ (placesT k).length ≤ 27 := by
      have h1 : bs ^ (placesT k).length ≤ 3 ^ (placesT k).length := Nat.pow_le_pow_left h0.2 _
      have h2 : 3 ^ (placesT k).length ≤ 3 ^ 3 := Nat.pow_le_pow_right (by decide) hpl
      omega
    have e1 : (bs : Int) ^ (((intsL []).length : Nat) : Int).toNat = 1 := by simp
    have e2 : (bs : Int) ^ ((((placesT k).map fun (n : Nat) => V.int (n : Int)).length : Nat) : Int).toNat = ((bs ^ (placesT k).length : Nat) : Int) := by
      rw [Int.toNat_natCast, List.length_map]; push_cast; rfl
    refine Ev.cast (Ev.bin (Ev.sub (Ev.name (by walk_at "at")) (Ev.name (by walk_at "at")) (Sbo.of (Sbo.at (Int.natCast_nonneg _) (hsm k hk))))
      (Ev.cast (Ev.bin (Ev.name (by walk_at "at")) (Ev.callo (Ev.glob (by walk_at "at")) (EvO.of (Ev.call (Ev.glob (by walk_at "at")) hgp (EvL.cons (Ev.name (by walk_at "at")) EvL.nil) (cal_places hT (by decide) k))) Bco.len) (Op2.pow (Int.natCast_nonneg _) (by rw [List.length_map]; omega) (by omega))) (congrArg V.int e2)) (Op2.mulr (by omega))) ?zz1
    case zz1 => show V.int _ = V.int _; congr 1
  case b1 => exact It.range1 (n := 8) (Ev.glob (by walk_at "at")) Ev.int (by decide)
  case b2 => decide +kernel
  case b3 => exact CapL.val (by walk_at "at") (CapL.val (by walk_at "at") .nil)
  case b4 => exact .skip (.take (by decide +kernel) (.skip (.skip (.skip (.skip (.skip (.skip (.skip (.skip (.skip (.skip .nil)))))))))))
  case b5 => simp
  case b7 => simp
  case b6 =>
    intro k q r hq hr
    obtain ⟨rfl, hk⟩ := rng_at hq
    rw [List.map_map] at hr
    obtain ⟨rfl, _⟩ := rng_at hr
    have hcl := cnt_le acr m' (7 - k)
    refine Ev.cast (Ev.bin (Ev.callo (Ev.glob (by walk_at "at")) (EvO.of (Ev.name (by walk_at "at"))) Bco.len) (Ev.sub (Ev.name (by walk_at "at")) (Ev.bin Ev.int (Ev.name (by walk_at "at")) Op2.sub) (Sbo.of (Sbo.at (by omega) (hso k hk)))) (Op2.mulr (by omega))) ?zz2
    case zz2 => show V.int _ = V.int _; congr 1; rw [List.length_map]; push_cast; rfl
  case d1 => exact dOk_row _
  case d2 => exact dOk_row _
  case d4 => with_unfolding_all rfl
  case d3 =>
    have e : ((List.range 8).map fun k => cntT lot m k * bs ^ (placesT k).length) = ((List.range 8).map fun k => lot.length * cntT acr m' (7 - k)) := by
      apply List.map_congr_left
      intro k hk
      exact hmac em em' (List.mem_range.mp hk)
    rw [e]
    have := eqV_row ((List.range 8).map fun k => lot.length * cntT acr m' (7 - k)) ((List.range 8).map fun k => lot.length * cntT acr m' (7 - k))
    unfold intsV at this
    rw [this, beq_self_eq_true]
end
end
section
open PySem PySem.W PyProof.Rows
set_option Elab.async false
set_option linter.unusedVariables false
set_option maxRecDepth 100000
set_option maxHeartbeats 4000000
variable {T : TC}


@[reducible] noncomputable def escV : List V := [.fn "_escape_cdata", .fn "_escape_attrib", .fn "_escape_attrib_html", .fn "_escape_cdata_c14n", .fn "_escape_attrib_c14n"]
theorem esc_get : ∀ {h : Nat}, h < 5 → escV[((h : Nat) : Int).toNat]? = some (.fn (escName h)) := by
  intro h hh
  match h, hh with
  | 0, _ => rfl
  | 1, _ => rfl
  | 2, _ => rfl
  | 3, _ => rfl
  | 4, _ => rfl
theorem leftI_succ {ms : List Nat} {i m : Nat} (h : ms[i]? = some m) : leftI ms (i + 1) = repP m [] (leftI ms i) := by
  unfold leftI; rw [List.take_add_one, h, Option.toList_some, List.foldl_append]; rfl
@[reducible] noncomputable def markI (ms : List Nat) (i : Nat) : List V := ((ms.take i).map fun ch => [ch]).map .strt
theorem markI_succ {ms : List Nat} {i m : Nat} (h : ms[i]? = some m) : markI ms (i + 1) = markI ms i ++ [.strt [m]] := by
  unfold markI; rw [List.take_add_one, h, Option.toList_some, List.map_append, List.map_append]; rfl
theorem pow9 {i : Nat} (h : i < 3) : (9 : Int) ^ i = ((9 ^ i : Nat) : Int) ∧ 0 < 9 ^ i ∧ 9 ^ i ≤ 81 := by
  refine ⟨by push_cast; rfl, Nat.pow_pos (by decide), ?_⟩
  have : 9 ^ i ≤ 9 ^ 2 := Nat.pow_le_pow_right (by decide) (by omega)
  omega
theorem draw_turn (hT : IsT T) {A bs : Nat} (hbs : bs = 2 ∨ bs = 3) {ms : List Nat} (D : Draw A bs ms) {i : Nat} (hi : i < bs) {B C : Slot} {ba ha wr fi se lo s t ro ac nu li sn ot : Slot} :
    Ex T cLaw [.dead, .val (.int A), B, C, ba, ha, wr, .own (markI ms i), .val (.str (leftI ms i)), .val (.int i), fi, se, lo, s, t, ro, ac, nu, li, sn, ot] (forAll ((dAt 19).body.getD 8 default))
      (.next [.dead, .val (.int A), B, C, ba, ha, wr, .own (markI ms (i + 1)), .val (.str (leftI ms (i + 1))), .dead, fi, se, lo, s, t, ro, ac, nu, li, sn, ot]) := by
  have hi3 : i < 3 := by omega
  obtain ⟨g1, g2⟩ := D.get i hi
  have hml : i < ms.length := by rw [D.len]; exact hi
  have hm : ms[i]? = some ms[i] := List.getElem?_eq_getElem hml
  generalize ms[i] = m at hm
  rw [hm] at g1
  have hL := leftI_len ms i
  rw [markI_succ hm, leftI_succ hm]
  obtain ⟨p1, p2, p3⟩ := pow9 hi3
  have hlen : (markI ms i).length = i := by unfold markI; rw [List.length_map, List.length_map, List.length_take]; omega
  have hlast : (markI ms i ++ [V.strt [m]])[((i : Nat) : Int).toNat]? = some (.strt [m]) := by
    rw [Int.toNat_natCast, List.getElem?_append_right (by omega), hlen, Nat.sub_self]; rfl
  generalize markI ms i = MI at hlen hlast ⊢
  generalize leftI ms i = L at g1 g2 hL ⊢
  refine Ex.cons (Ex1.append (p := .strt [m]) (by walk_at "at") (Ev.sub (Ev.name (by walk_at "at")) (Ev.bin (Ev.bin (Ev.bin (Ev.name (by walk_at "at")) Ev.int (Op2.div' (by decide) (by decide))) (Ev.bin Ev.int (Ev.name (by walk_at "at")) (Op2.pow (Int.natCast_nonneg _) (by omega) (by decide))) (Op2.div' ?d1 ?d2))
    (Ev.callb (Ev.glob (by walk_at "at")) (EvL.cons (Ev.name (by walk_at "at")) EvL.nil) Bcl.lens) (Op2.mod' (by omega))) (Sb.str (ch := m) ?d3 (by omega) ?d4)) (by omega) (by walk_at "at")) ?s1
  case d1 => rw [Int.toNat_natCast, p1]; omega
  case d2 => rw [Int.toNat_natCast, p1]; omega
  case d3 => exact Int.emod_nonneg _ (by omega)
  case d4 =>
    have e : ((A : Int) / 10 / 9 ^ ((i : Nat) : Int).toNat % ((L.length : Nat) : Int)).toNat = A / 10 / 9 ^ i % L.length := by
      rw [Int.toNat_natCast, p1, show ((A : Int) / 10 / ((9 ^ i : Nat) : Int) % ((L.length : Nat) : Int)) = ((A / 10 / 9 ^ i % L.length : Nat) : Int) from by push_cast; rfl]
      exact Int.toNat_natCast _
    rw [e]; exact g1
  case s1 =>
  refine Ex.cons (Ex1.assign (p := .str (repP m [] L)) (Ev.replace (z := []) (Ev.name (by walk_at "at")) (Ev.subo (EvO.name (by walk_at "at")) (Ev.name (by walk_at "at")) (Sbo.at (Int.natCast_nonneg _) hlast)) (by decide +kernel) (by decide) (by simp) ?d5) (by walk_at "at")) ?s2
  case d5 => rw [rep_nil]; exact Nat.le_trans (List.length_filter_le _ _) (by omega)
  case s2 => exact Ex.weakout Ex.nil (by walk_at "wk")
theorem law_top (hT : IsT T) (ns : List Int) (hns : ns.length ≤ 63) : Ex T cLaw [.val (.list (ns.map .int)), .dead, .dead, .dead, .dead, .dead, .dead, .dead, .dead, .dead, .dead, .dead, .dead, .dead, .dead, .dead, .dead, .dead, .dead, .dead, .dead] (dAt 19).body (.ret (.bool true)) := by
  generalize hA : ((2 + (pickI ns (some 0) (some 63) (some 3)).sum) % 1000000).toNat = A
  generalize hB : ((6 + (pickI ns (some 1) (some 63) (some 3)).sum) % 1000000).toNat = B
  generalize hC : ((289 + (pickI ns (some 2) (some 63) (some 3)).sum) % 1000000).toNat = C
  refine Ex.cons (Ex1.assign (p := .int (A : Int)) ?a1 (by walk_at "at")) ?a2
  case a1 =>
    refine Ev.cast (Ev.bin (Ev.bin Ev.int (Ev.callo (Ev.glob (by walk_at "at")) (EvO.of (Ev.cast (Ev.listslice3 (EvO.of (Ev.name (by walk_at "at"))) (.int Ev.int) (.int Ev.int) Ev.int (by decide)) (congrArg V.list (pickV_int _ _ _ _)))) Bco.sum) Op2.add) Ev.int (Op2.mod' (by decide))) ?a3
    congr 1
    omega
  case a2 =>
  refine Ex.cons (Ex1.assign (p := .int (B : Int)) ?b1 (by walk_at "at")) ?b2
  case b1 =>
    refine Ev.cast (Ev.bin (Ev.bin Ev.int (Ev.callo (Ev.glob (by walk_at "at")) (EvO.of (Ev.cast (Ev.listslice3 (EvO.of (Ev.name (by walk_at "at"))) (.int Ev.int) (.int Ev.int) Ev.int (by decide)) (congrArg V.list (pickV_int _ _ _ _)))) Bco.sum) Op2.add) Ev.int (Op2.mod' (by decide))) ?b3
    congr 1
    omega
  case b2 =>
  refine Ex.cons (Ex1.assign (p := .int (C : Int)) ?c1 (by walk_at "at")) ?c2
  case c1 =>
    refine Ev.cast (Ev.bin (Ev.bin Ev.int (Ev.callo (Ev.glob (by walk_at "at")) (EvO.of (Ev.cast (Ev.listslice3 (EvO.of (Ev.name (by walk_at "at"))) (.int Ev.int) (.int Ev.int) Ev.int (by decide)) (congrArg V.list (pickV_int _ _ _ _)))) Bco.sum) Op2.add) Ev.int (Op2.mod' (by decide))) ?c3
    congr 1
    omega
  case c2 =>
  clear hA hB hC
  refine Ex.cons (Ex1.assign (p := .int ((2 + A % 2 : Nat) : Int)) (Ev.cast (by walk_at "ev") (by congr 1)) (by walk_at "at")) ?d0
  have hbs : 2 + A % 2 = 2 ∨ 2 + A % 2 = 3 := by omega
  have hh : A / 2 % 5 < 5 := by omega
  refine Ex.cons (Ex1.assign (p := .int ((A / 2 % 5 : Nat) : Int)) (Ev.cast (by walk_at "ev") (by congr 1)) (by walk_at "at")) ?d1
  refine Ex.cons (Ex1.assign (p := .fn (escName (A / 2 % 5))) ?d2 (by walk_at "at")) ?d3
  case d2 =>
    exact Ev.sub (Ev.list (ps := escV) (EvL.cons (Ev.glob (by walk_at "at")) (EvL.cons (Ev.glob (by walk_at "at")) (EvL.cons (Ev.glob (by walk_at "at")) (EvL.cons (Ev.glob (by walk_at "at")) (EvL.cons (Ev.glob (by walk_at "at")) EvL.nil)))))) (Ev.name (by walk_at "at")) (Sbo.of (Sbo.at (Int.natCast_nonneg _) (esc_get hh)))
  case d3 =>
  generalize A / 2 % 5 = h at hh ⊢
  generalize 2 + A % 2 = bs at hbs ⊢
  obtain ⟨a, b, c, K, hc3, D⟩ := draw_mk A hh hbs
  have h0 := base_or hbs
  refine Ex.cons (Ex1.assign_new (EvN.list EvL.nil) (by walk_at "at")) ?_
  refine Ex.cons (Ex1.assign (p := .str signs) (Ev.str (l := signs) (by decide +kernel) (by decide)) (by walk_at "at")) ?_
  refine Ex.weak (σ1 := [.dead, .val (.int A), .val (.int B), .val (.int C), .val (.int bs), .val (.int h), .val (.fn (escName h)), .own [], .val (.str signs), .dead, .dead, .dead, .dead, .dead, .dead, .dead, .dead, .dead, .dead, .dead, .dead]) (by walk_at "wk") ?_
  refine Ex.forAll (L := fun i => [.dead, .val (.int A), .val (.int B), .val (.int C), .val (.int bs), .val (.int h), .val (.fn (escName h)), .own (markI (marksL bs a b c) i), .val (.str (leftI (marksL bs a b c) i)), .dead, .dead, .dead, .dead, .dead, .dead, .dead, .dead, .dead, .dead, .dead, .dead])
    (qs := (List.range bs).map fun (j : Nat) => .int (j : Int)) ?e1 (Weak.refl _) ?e2 ?e3
  case e1 => exact It.range1 (n := bs) (Ev.glob (by walk_at "at")) (Ev.name (by walk_at "at")) (by omega)
  case e2 =>
    intro j q hq
    obtain ⟨rfl, hj⟩ := rng_at hq
    exact ⟨_, by walk_at "at", draw_turn hT hbs D hj⟩
  case e3 =>
  rw [List.length_map, List.length_range]
  have em : markI (marksL bs a b c) bs = ((marksL bs a b c).map fun ch => [ch]).map .strt := by
    unfold markI; rw [List.take_of_length_le (by rw [D.len]; exact Nat.le_refl _)]
  rw [em]
  refine Ex.freeze (x := Str.ofString "marks") (by walk_at "at") (by walk_at "at") ?_
  refine Ex.soft (x := Str.ofString "marks") (p' := .list (((marksL bs a b c).map fun ch => [ch]).map .str)) (by walk_at "at") (by walk_at "at") strt_soft ?_
  have em2 : ((marksL bs a b c).map fun ch => [ch]).map V.str = (marksL bs a b c).map fun ch => .str [ch] := by rw [List.map_map]; rfl
  rw [em2]
  have hgr : ∃ d, d ∈ recsOf T.view ∧ d.name = Str.ofString "_law_row" := ⟨dAt 15, by rw [hT.view]; exact m15, n15⟩
  have p8 : 0 < bs ^ 3 - 1 ∧ bs ^ 3 ≤ 27 ∧ ((bs : Int) ^ ((3 : Int)).toNat - 1) = ((bs ^ 3 - 1 : Nat) : Int) := by rcases hbs with rfl | rfl <;> exact ⟨by decide, by decide, rfl⟩
  have e8 : (1 : Int) + (B : Int) % ((bs : Int) ^ ((3 : Int)).toNat - 1) = ((1 + B % (bs ^ 3 - 1) : Nat) : Int) := by rw [p8.2.2]; push_cast; rfl
  refine Ex.cons (Ex1.assign (p := intsV (rowT (1 + B % (bs ^ 3 - 1)) bs)) (Ev.call (Ev.glob (by walk_at "at")) hgr (EvL.cons (Ev.cast (Ev.bin Ev.int (Ev.bin (Ev.name (by walk_at "at")) (Ev.bin (Ev.bin (Ev.name (by walk_at "at")) Ev.int (Op2.pow (by decide) (by decide) (by omega))) Ev.int Op2.sub) (Op2.mod' ?f1)) Op2.add) (congrArg V.int e8)) (EvL.cons (Ev.name (by walk_at "at")) EvL.nil)) (cal_row hT (by decide) h0.1 (by omega))) (by walk_at "at")) ?f2
  case f1 => rw [p8.2.2]; exact_mod_cast p8.1
  case f2 =>
  have hF2 : 1 + B % (bs ^ 3 - 1) < bs ^ 3 := by have := Nat.mod_lt B p8.1; omega
  have hF1 : 1 ≤ 1 + B % (bs ^ 3 - 1) := Nat.le_add_right _ _
  generalize 1 + B % (bs ^ 3 - 1) = Fn at hF1 hF2 ⊢
  have e30 : (B : Int) / 30 = ((B / 30 : Nat) : Int) := by push_cast; rfl
  refine Ex.cons (Ex1.assign (p := intsV (rowT (B / 30) bs)) (Ev.call (Ev.glob (by walk_at "at")) hgr (EvL.cons (Ev.cast (Ev.bin (Ev.name (by walk_at "at")) Ev.int (Op2.div' (by decide) (by decide))) (congrArg V.int e30)) (EvL.cons (Ev.name (by walk_at "at")) EvL.nil)) (cal_row hT (by decide) h0.1 (by omega))) (by walk_at "at")) ?g2
  have hS : B / 30 % bs ^ 3 < bs ^ 3 := Nat.mod_lt _ (Nat.pow_pos h0.1)
  rw [rowT_mod hbs (B / 30)]
  generalize B / 30 % bs ^ 3 = Sn at hS ⊢
  refine Ex.cons (Ex1.assign_new (EvN.list EvL.nil) (by walk_at "at")) ?_
  refine Ex.weak (σ1 := sL bs h B C (.val (marksV bs a b c)) .dead .dead (.val (intsV (rowT Fn bs))) (.val (intsV (rowT Sn bs))) (.own []) .dead .dead .dead .dead .dead .dead .dead .dead) (by walk_at "wk") ?_
  refine lot_loop hbs (Row.of_num hbs Fn) (Row.of_num hbs Sn) hT (rest := (dAt 19).body.drop 13) rfl ?_
  refine Ex.freeze (x := Str.ofString "lot") (by walk_at "at") (by walk_at "at") ?_
  refine Ex.cons (Ex1.assign_new (EvN.list EvL.nil) (by walk_at "at")) ?_
  have e3 : (bs : Int) ^ ((3 : Int)).toNat = ((bs ^ 3 : Nat) : Int) := by rcases hbs with rfl | rfl <;> rfl
  refine Ex.forAll (L := fun i => sL bs h B C (.val (marksV bs a b c)) .dead .dead (.val (intsV (rowT Fn bs))) (.val (intsV (rowT Sn bs))) (.val (.list (intsL (lotT bs (rowT Fn bs) (rowT Sn bs))))) .dead .dead .dead (.own (intsL (acrossI bs (rowT Fn bs) (rowT Sn bs) i))) .dead .dead .dead .dead)
    (qs := (List.range (bs ^ 3)).map fun (j : Nat) => .int (j : Int)) ?k1 (Weak.refl _) ?k2 ?k3
  case k1 => exact It.range1 (n := bs ^ 3) (Ev.glob (by walk_at "at")) (Ev.cast (Ev.bin (Ev.name (by walk_at "at")) Ev.int (Op2.pow (by decide) (by decide) (by omega))) (congrArg V.int e3)) (by omega)
  case k2 =>
    intro j q hq
    obtain ⟨rfl, hj⟩ := rng_at hq
    exact ⟨_, by walk_at "at", acr_turn hbs (Row.of_num hbs Fn) (Row.of_num hbs Sn) hT (by omega)⟩
  case k3 =>
  rw [List.length_map, List.length_range]
  refine Ex.freeze (x := Str.ofString "across") (by walk_at "at") (by walk_at "at") ?_
  exact law_b K hbs hc3 hF1 hF2 hS hT
end
section
open PySem PySem.W PyProof.Rows
set_option Elab.async false
set_option linter.unusedVariables false
set_option maxRecDepth 100000
set_option maxHeartbeats 4000000
theorem reps_ints {T : TC} {s : Shared} {U : List Addr} : ∀ {vs : List Value} {ns : List Int}, IntsAre vs ns → Reps T s U vs (ns.map .int)
  | _, _, .nil => Reps.nil
  | _, _, .cons n t h => Reps.cons Rep.int_ (reps_ints h)
theorem well_list {P : Params} {h : Heap} {a : Addr} {vs : List Value} {xs : List PyData} (x : Well P h (.ref a) (ofPy (.list xs))) (hl : h.IsList a vs.toArray) : IsL h a vs.toArray 0 := by
  unfold ofPy at x
  cases x with
  | list h1 h2 =>
    obtain ⟨o, k1, k2, n, k3⟩ := hl
    rw [h1] at k1
    cases k1
    cases k3
    exact h1
theorem law_run {T : TC} (hT : IsT T) {A : Around} {s : Shared} {fa a : Addr} {vs : List Value} {ns : List Int} (hA : Ok 10 A) (htop : Keeps T.h₀ s.heap) (hmg : T.mg (Str.ofString "law") = some (.ref fa)) (hl : IsL s.heap a vs.toArray 0) (hi : IntsAre vs ns) (hn : ns.length ≤ 63) :
    wpAny (model T.prog T.w) A (call (.ref fa) [.ref a]) (fun v s' => v = .bool true ∧ Ext s s') (fun _ _ => False) s := by
  have hr : Reps T s [] [.ref a] [.list (ns.map .int)] := Reps.cons (by unfold Rep; exact ⟨a, vs.toArray, 0, rfl, by simp, hl, by simp; omega, reps_ints hi⟩) Reps.nil
  exact wpB (Cal.run (dd := 10) (fLaw hT) (ps := [.list (ns.map .int)]) (q := .bool true) rfl (by decide) (law_top hT ns hn) hA htop (U := []) (by intro b hb; cases hb) (by rw [n19]; exact hmg) hr (.inr ⟨_, rfl, by decide +kernel⟩)) fun v s' ⟨h1, h2⟩ => ⟨rep_bool h1, h2⟩
end
end Mine
open PySem PySem.W PyProof.Rows
set_option Elab.async false
set_option maxRecDepth 100000
set_option maxHeartbeats 8000000
theorem PySem.Challenge.cw_rw0083_02_holds : PySem.Challenge.rw_rw0083_02.Holds := by
  refine hd.turn.symm ▸ ?_
  w_on; o_law; o_head Hook.none; (case hw => w_witness2)
  have hv : PySem.Challenge.cw_rw0083_02_holds.view_39 = hd.view_39 := by kernel_rfl
  intro w s₀ s₁ mg mb G Y fa o pm cd doc dV kV ho hd1 hcd hD hmg hg args vals as hpre hlay hrd hwl hlo
  refine Ground.open G ?_
  intro T B D TE TW
  have T' : Top hd.view_39 (looseW hd.view_39 []) (ExcName.means s₀.heap) mg mb s₁.heap := hv ▸ T
  clear Y ho hd1 hcd hD B D TE TW G T hv
  wrow_args hpre hlay hrd hwl hlo
  refine wpAny_mono (Mine.law_run (T := ⟨_, w, s₁.heap, mg, mb, hd.view_39, looseW hd.view_39 [], ExcName.means s₀.heap, T'⟩) ⟨rfl, rfl⟩ ⟨rfl, by decide, by decide⟩ (Mine.Keeps.refl _) hmg ?zl (by assumption) (by omega)) (fun v s' h => ?_) (fun _ _ h => h.elim)
  case zl => exact Mine.well_list (by assumption) (by assumption)
  obtain ⟨rfl, h2⟩ := h
  refine ⟨.inl ⟨_, .bool true, [], rfl, fun _ => rfl, .bool _, ?zp, fun _ => ⟨.nil, fun _ ha => nomatch ha⟩⟩, .of_keep h2.keep, h2.os, .of_eq (h2.gens.trans hg)⟩
  first | kernel_rfl | wrow_post
