import PyProof.Rows.All
import Wide.All
import OpenK.AllK
import Wide.FinOn
import PySem.Challenge.RW_wk0020_01

set_option Elab.async false
set_option maxRecDepth 100000
set_option maxHeartbeats 8000000
set_option linter.unusedVariables false
set_option linter.unusedSimpArgs false

namespace Lite
section
open PySem PySem.Calls PyProof.Rows PySem.W

/-- plain data -/
inductive V where
  | none
  | bool (b : Bool)
  | int (i : Int)
  | str (s : List Nat)
  | ch (c : Nat)
  | list (xs : List V)
  | tup (xs : List V)

mutual
inductive Rd (av : Addr → Prop) (s : Shared) : Value → V → Prop
  | none : Rd av s .none .none
  | bool (b : Bool) : Rd av s (.bool b) (.bool b)
  | int (i : Int) (t : Tok) : Rd av s (.int i t) (.int i)
  | str (x : Str) (t : Tok) : Rd av s (.str x t) (.str x.cps.toList)
  | ch (c : Nat) (t : Tok) : 0 < t → t < s.toks → Rd av s (.str ⟨#[c]⟩ t) (.ch c)
  | list {a : Addr} {vs : Array Value} {xs : List V} : s.heap.PlainList a vs → ¬ av a → RdAll av s vs.toList xs → Rd av s (.ref a) (.list xs)
  | tup {a : Addr} {vs : Array Value} {xs : List V} : IsTup s.heap a vs → ¬ av a → RdAll av s vs.toList xs → Rd av s (.ref a) (.tup xs)
inductive RdAll (av : Addr → Prop) (s : Shared) : List Value → List V → Prop
  | nil : RdAll av s [] []
  | cons {v : Value} {vs : List Value} {x : V} {xs : List V} : Rd av s v x → RdAll av s vs xs → RdAll av s (v :: vs) (x :: xs)
end

theorem isList_at {h h' : Heap} {a : Addr} {items : Array Value} (x : h.IsList a items) (k : ∀ o, h.get? a = some o → h'.get? a = some o) : h'.IsList a items :=
  let ⟨o, ho, r⟩ := x; ⟨o, k o ho, r⟩
theorem isTup_at {h h' : Heap} {a : Addr} {items : Array Value} (x : IsTup h a items) (k : ∀ o, h.get? a = some o → h'.get? a = some o) : IsTup h' a items :=
  let ⟨o, ho, r⟩ := x; ⟨o, k o ho, r⟩

mutual
theorem Rd.move {av av' : Addr → Prop} {s s' : Shared} (k : ∀ a o, ¬ av a → s.heap.get? a = some o → s'.heap.get? a = some o ∧ ¬ av' a) (ht : s.toks ≤ s'.toks) : ∀ {r : Value} {v : V}, Rd av s r v → Rd av' s' r v
  | _, _, .none => .none
  | _, _, .bool b => .bool b
  | _, _, .int i t => .int i t
  | _, _, .str x t => .str x t
  | _, _, .ch c t h0 h1 => .ch c t h0 (Nat.lt_of_lt_of_le h1 ht)
  | _, _, .list hl na hr => by
    obtain ⟨n, ho⟩ := id hl
    exact .list ⟨n, (k _ _ na ho).1⟩ (k _ _ na ho).2 (RdAll.move k ht hr)
  | _, _, .tup hl na hr => by
    obtain ⟨o, ho, _⟩ := id hl
    exact .tup (isTup_at hl fun o' e => (k _ _ na e).1) (k _ _ na ho).2 (RdAll.move k ht hr)
theorem RdAll.move {av av' : Addr → Prop} {s s' : Shared} (k : ∀ a o, ¬ av a → s.heap.get? a = some o → s'.heap.get? a = some o ∧ ¬ av' a) (ht : s.toks ≤ s'.toks) : ∀ {r : List Value} {v : List V}, RdAll av s r v → RdAll av' s' r v
  | _, _, .nil => .nil
  | _, _, .cons a b => .cons (Rd.move k ht a) (RdAll.move k ht b)
end

theorem RdAll.length {av : Addr → Prop} {s : Shared} : ∀ {r : List Value} {v : List V}, RdAll av s r v → r.length = v.length
  | _, _, .nil => rfl
  | _, _, .cons _ b => by simp [RdAll.length b]

theorem RdAll.get {av : Addr → Prop} {s : Shared} : ∀ {r : List Value} {v : List V} {i : Nat} {x : V}, RdAll av s r v → v[i]? = some x → ∃ y, r[i]? = some y ∧ Rd av s y x
  | _, _, _, _, .nil, e => by simp at e
  | _, _, 0, _, .cons a _, e => by
    simp at e; subst e; exact ⟨_, rfl, a⟩
  | _, _, i + 1, _, .cons _ b, e => by
    simp at e
    obtain ⟨y, h1, h2⟩ := RdAll.get b e
    exact ⟨y, by simpa using h1, h2⟩
theorem RdAll.getR {av : Addr → Prop} {s : Shared} : ∀ {r : List Value} {v : List V} {i : Nat} {y : Value}, RdAll av s r v → r[i]? = some y → ∃ x, v[i]? = some x ∧ Rd av s y x
  | _, _, _, _, .nil, e => by simp at e
  | _, _, 0, _, .cons a _, e => by
    simp at e; subst e; exact ⟨_, rfl, a⟩
  | _, _, i + 1, _, .cons _ b, e => by
    simp at e
    obtain ⟨y, h1, h2⟩ := RdAll.getR b e
    exact ⟨y, by simpa using h1, h2⟩
theorem RdAll.append {av : Addr → Prop} {s : Shared} : ∀ {r r' : List Value} {v v' : List V}, RdAll av s r v → RdAll av s r' v' → RdAll av s (r ++ r') (v ++ v')
  | _, _, _, _, .nil, b => b
  | _, _, _, _, .cons a c, b => .cons a (RdAll.append c b)
theorem RdAll.set {av : Addr → Prop} {s : Shared} : ∀ {r : List Value} {v : List V} (i : Nat) {y : Value} {x : V}, RdAll av s r v → Rd av s y x → RdAll av s (r.set i y) (v.set i x)
  | _, _, _, _, _, .nil, _ => by simp; exact .nil
  | _, _, 0, _, _, .cons _ b, e => .cons e b
  | _, _, i + 1, _, _, .cons a b, e => .cons a (RdAll.set i b e)
theorem RdAll.take {av : Addr → Prop} {s : Shared} : ∀ {r : List Value} {v : List V} (i : Nat), RdAll av s r v → RdAll av s (r.take i) (v.take i)
  | _, _, 0, _ => by simp; exact .nil
  | _, _, i + 1, .nil => by simp; exact .nil
  | _, _, i + 1, .cons a b => .cons a (RdAll.take i b)
theorem RdAll.drop {av : Addr → Prop} {s : Shared} : ∀ {r : List Value} {v : List V} (i : Nat), RdAll av s r v → RdAll av s (r.drop i) (v.drop i)
  | _, _, 0, x => by simpa using x
  | _, _, i + 1, .nil => by simp; exact .nil
  | _, _, i + 1, .cons _ b => by simpa using RdAll.drop i b

/-- what a piece of code may have turned -/
structure Ext (mu : Addr → Prop) (s s' : Shared) : Prop where
  heap : ∀ b o, ¬ mu b → s.heap.get? b = some o → s'.heap.get? b = some o
  os : s'.os = s.os
  old : ∀ (i : Nat) g, s.gens[i]? = some g → s'.gens[i]? = some g
  new : ∀ (i : Nat) g, s.gens.size ≤ i → s'.gens[i]? = some g → g.bare = true
  tk : s.toks ≤ s'.toks

noncomputable abbrev nobody : Addr → Prop := fun _ => False

theorem Ext.refl (mu : Addr → Prop) (s : Shared) : Ext mu s s := ⟨fun _ _ _ e => e, rfl, fun _ _ e => e, fun i g hi e =>
  (by rw [Array.getElem?_eq_none hi] at e; cases e), Nat.le_refl _⟩
theorem Ext.mono {mu mu' : Addr → Prop} {s s' : Shared} (x : Ext mu s s') (h : ∀ a o, s.heap.get? a = some o → mu a → mu' a) : Ext mu' s s' :=
  ⟨fun b o nb e => x.heap b o (fun m => nb (h b o e m)) e, x.os, x.old, x.new, x.tk⟩
theorem Ext.weak {mu : Addr → Prop} {s s' : Shared} (x : Ext nobody s s') : Ext mu s s' := x.mono fun _ _ _ h => h.elim
theorem gens_size {g g' : Array GenState} (h : ∀ (i : Nat) x, g[i]? = some x → g'[i]? = some x) : g.size ≤ g'.size := by
  rcases Nat.eq_zero_or_pos g.size with h0 | h0
  · omega
  · have hl : g.size - 1 < g.size := by omega
    have := h (g.size - 1) _ (Array.getElem?_eq_getElem hl)
    obtain ⟨h1, _⟩ := Array.getElem?_eq_some_iff.mp this
    omega
theorem Ext.trans {mu mu' : Addr → Prop} {s s₁ s' : Shared} (x : Ext mu s s₁) (y : Ext mu' s₁ s') (h : ∀ a o, s.heap.get? a = some o → mu' a → mu a) : Ext mu s s' :=
  ⟨fun b o nb e => y.heap b o (fun m => nb (h b o e m)) (x.heap b o nb e), y.os.trans x.os, fun i g e => y.old i g (x.old i g e), fun i g hi e => by
    by_cases q : s₁.gens.size ≤ i
    · exact y.new i g q e
    · have hl : i < s₁.gens.size := by omega
      have e1 := y.old i _ (Array.getElem?_eq_getElem hl)
      rw [e] at e1
      have e2 : s₁.gens[i] = g := (Option.some.inj e1).symm
      exact x.new i g hi (by rw [Array.getElem?_eq_getElem hl, e2]), Nat.le_trans x.tk y.tk⟩
theorem Ext.trans' {mu : Addr → Prop} {s s₁ s' : Shared} (x : Ext mu s s₁) (y : Ext mu s₁ s') : Ext mu s s' := x.trans y fun _ _ _ h => h
theorem Ext.of_heap {mu : Addr → Prop} {s : Shared} {h' : Heap} {tk : Nat} (k : ∀ b o, ¬ mu b → s.heap.get? b = some o → h'.get? b = some o) (ht : s.toks ≤ tk := by first | exact Nat.le_refl _ | omega) : Ext mu s { s with heap := h', toks := tk } :=
  ⟨k, rfl, fun _ _ e => e, fun i g hi e => (by rw [Array.getElem?_eq_none hi] at e; cases e), ht⟩
theorem Ext.toks {mu : Addr → Prop} (s : Shared) (tk : Nat) (ht : s.toks ≤ tk := by first | exact Nat.le_refl _ | omega) : Ext mu s { s with toks := tk } := Ext.of_heap (fun _ _ _ e => e) ht
theorem Ext.pushed {mu : Addr → Prop} (s : Shared) (o : Obj) (tk : Nat) (ht : s.toks ≤ tk := by first | exact Nat.le_refl _ | omega) : Ext mu s { s with heap := s.heap.push o, toks := tk } := Ext.of_heap (fun _ _ _ e => Heap.get?_push_of_some _ e) ht

theorem Rd.ext {av mu : Addr → Prop} {s s' : Shared} {r : Value} {v : V} (x : Rd av s r v) (e : Ext mu s s') (h : ∀ a, mu a → av a) : Rd av s' r v :=
  x.move (fun a o na ea => ⟨e.heap a o (fun m => na (h a m)) ea, na⟩) e.tk
theorem RdAll.ext {av mu : Addr → Prop} {s s' : Shared} {r : List Value} {v : List V} (x : RdAll av s r v) (e : Ext mu s s') (h : ∀ a, mu a → av a) : RdAll av s' r v :=
  x.move (fun a o na ea => ⟨e.heap a o (fun m => na (h a m)) ea, na⟩) e.tk

/-- the slots -/
noncomputable def getS : List (Option V) → Nat → Option V
  | [], _ => Option.none
  | o :: _, 0 => o
  | _ :: r, n + 1 => getS r n
noncomputable def setS : List (Option V) → Nat → V → List (Option V)
  | [], _, _ => []
  | _ :: r, 0, v => some v :: r
  | o :: r, n + 1, v => o :: setS r n v
theorem getS_setS : ∀ (l : List (Option V)) (i j : Nat) (v x : V), getS (setS l i v) j = some x → (i = j ∧ x = v) ∨ (i ≠ j ∧ getS l j = some x)
  | [], _, _, _, _, h => by simp [setS, getS] at h
  | _ :: _, 0, 0, _, _, h => by simp [setS, getS] at h; exact .inl ⟨rfl, h.symm⟩
  | _ :: _, 0, j + 1, _, _, h => by simp only [setS, getS] at h; exact .inr ⟨by omega, h⟩
  | _ :: _, i + 1, 0, _, _, h => by simp only [setS, getS] at h; exact .inr ⟨by omega, h⟩
  | _ :: r, i + 1, j + 1, v, x, h => by
    simp only [setS, getS] at h
    rcases getS_setS r i j v x h with ⟨a, b⟩ | ⟨a, b⟩
    · exact .inl ⟨by omega, b⟩
    · exact .inr ⟨by omega, b⟩

structure St where
  ρ : List (Option V)
  own : Option (List V)

structure Wd where
  prog : Program
  w : World
  hb : Heap
  mg : Str → Option Value
  mb : Str → Option Value
noncomputable abbrev Wd.M (W : Wd) : Model := model W.prog W.w

structure Wd.Ok (W : Wd) : Prop where
  g : W.hb.Ns mainGlobals W.mg
  b : W.hb.Ns builtinsNs W.mb
  lim : W.hb.NoLimit

structure Sx where
  scope : Scope
  names : List Str
  own : Str
structure Cx where
  env : Env
  out : Addr → Prop

noncomputable def Bound (env : Env) (h : Heap) (x : Str) (r : Value) : Prop :=
  (env.kindOf x = some .local ∧ ∃ m, h.Ns env.locals m ∧ m x = some r) ∨
  ((env.kindOf x = some .cell ∨ env.kindOf x = some .free) ∧ ∃ c, env.cells.lookup x = some c ∧ h.IsCell c (some r))

noncomputable def Cx.mut (C : Cx) (oa : Option Addr) (a : Addr) : Prop :=
  a = C.env.locals ∨ (∃ x, C.env.cells.lookup x = some a) ∨ oa = some a
noncomputable def Cx.avd (C : Cx) (oa : Option Addr) (a : Addr) : Prop := C.out a ∨ C.mut oa a
theorem Cx.mut_avd {C : Cx} {oa : Option Addr} {a : Addr} (h : C.mut oa a) : C.avd oa a := .inr h

/-- what is so of a frame throughout -/
structure FrS (S : Sx) (C : Cx) : Prop where
  scope : C.env.scope = S.scope
  kind : S.scope.kind = .function
  globals : C.env.globals = mainGlobals
  builtins : C.env.builtins = builtinsNs
  ne : ∀ x c, C.env.cells.lookup x = some c → c ≠ C.env.locals
  apart : ∀ x y c, C.env.cells.lookup x = some c → C.env.cells.lookup y = some c → x = y
  cell : ∀ x, S.scope.names.lookup x = some .cell ∨ S.scope.names.lookup x = some .free → ∃ c, C.env.cells.lookup x = some c

structure Rep (W : Wd) (S : Sx) (C : Cx) (oa : Option Addr) (s : Shared) (σ : St) : Prop where
  keep : ∀ b o, W.hb.get? b = some o → s.heap.get? b = some o
  base : ∀ a, C.mut oa a → W.hb.get? a = none
  live : ∀ a, C.avd oa a → ∃ o, s.heap.get? a = some o
  ns : ∃ m, s.heap.Ns C.env.locals m
  cells : ∀ x c, C.env.cells.lookup x = some c → ∃ v, s.heap.IsCell c v
  slot : ∀ (i : Nat) x v, S.names[i]? = some x → getS σ.ρ i = some v → ∃ r, Bound C.env s.heap x r ∧ Rd (C.avd oa) s r v
  tk : 0 < s.toks
  own : ∀ xs, σ.own = some xs → ∃ a vs, oa = some a ∧ Bound C.env s.heap S.own (.ref a) ∧ s.heap.PlainList a vs ∧ RdAll (C.avd oa) s vs.toList xs ∧ ¬ C.out a

theorem ns_at {h h' : Heap} {a : Addr} {m : Str → Option Value} (x : h.Ns a m) (k : ∀ o, h.get? a = some o → h'.get? a = some o) : h'.Ns a m :=
  let ⟨o, es, ep, ho, r⟩ := x; ⟨o, es, ep, k o ho, r⟩
theorem isCell_at {h h' : Heap} {c : Addr} {v : Option Value} (x : h.IsCell c v) (k : ∀ o, h.get? c = some o → h'.get? c = some o) : h'.IsCell c v :=
  let ⟨o, ho, r⟩ := x; ⟨o, k o ho, r⟩
theorem Bound.keep {env : Env} {h h' : Heap} {x : Str} {r : Value} (b : Bound env h x r) (k : ∀ a o, h.get? a = some o → h'.get? a = some o) : Bound env h' x r := by
  rcases b with ⟨h1, m, h2, h3⟩ | ⟨h1, c, h2, h3⟩
  · exact .inl ⟨h1, m, ns_at h2 (k _), h3⟩
  · exact .inr ⟨h1, c, h2, isCell_at h3 (k _)⟩

/-- a step that keeps every object keeps the frame -/
theorem Rep.ext {W : Wd} {S : Sx} {C : Cx} {oa : Option Addr} {s s' : Shared} {σ : St} (R : Rep W S C oa s σ) (e : Ext nobody s s') : Rep W S C oa s' σ := by
  have k : ∀ a o, s.heap.get? a = some o → s'.heap.get? a = some o := fun a o h => e.heap a o (fun x => x) h
  refine ⟨fun b o h => k b o (R.keep b o h), R.base, fun a h => let ⟨o, ho⟩ := R.live a h; ⟨o, k a o ho⟩, let ⟨m, h⟩ := R.ns; ⟨m, ns_at h (k _)⟩,
    fun x c h => let ⟨v, hv⟩ := R.cells x c h; ⟨v, isCell_at hv (k _)⟩, fun i x v h1 h2 => ?_, Nat.lt_of_lt_of_le R.tk e.tk, fun xs h => ?_⟩
  · obtain ⟨r, hb, hr⟩ := R.slot i x v h1 h2
    exact ⟨r, hb.keep k, hr.move (fun a o na ea => ⟨k a o ea, na⟩) e.tk⟩
  · obtain ⟨a, vs, h1, h2, h3, h4, h5⟩ := R.own xs h
    exact ⟨a, vs, h1, h2.keep k, h3.at (k a), h4.move (fun a o na ea => ⟨k a o ea, na⟩) e.tk, h5⟩

/-- room: frames, C units -/
structure Room (k : Nat) (A : Around) : Prop where
  handled : A.handled = Option.none
  depth : A.depth + k < recursionLimit
  units : A.units + 20 * k + 100 < cLine
theorem Room.mono {k k' : Nat} {A : Around} (r : Room k A) (h : k' ≤ k) : Room k' A := ⟨r.handled, by have := r.depth; omega, by have := r.units; omega⟩

noncomputable def GoodE (W : Wd) (k : Nat) (S : Sx) (e : Expr) (d : St → Option V) : Prop :=
  ∀ (A : Around) (C : Cx) (oa : Option Addr) (s : Shared) (σ : St) (v : V), Room k A → FrS S C → Rep W S C oa s σ → d σ = some v →
    ∀ (Q : Value → Shared → Prop) (E : Value → Shared → Prop), (∀ r s', Ext nobody s s' → Rd (C.avd oa) s' r v → Q r s') → wpAny W.M A (eval e C.env) Q E s
noncomputable def GoodT (W : Wd) (k : Nat) (S : Sx) (e : Expr) (d : St → Option Bool) : Prop :=
  ∀ (A : Around) (C : Cx) (oa : Option Addr) (s : Shared) (σ : St) (b : Bool), Room k A → FrS S C → Rep W S C oa s σ → d σ = some b →
    ∀ (Q : Bool → Shared → Prop) (E : Value → Shared → Prop), (∀ s', Ext nobody s s' → Q b s') → wpAny W.M A (isTrue e C.env (eval e C.env)) Q E s

/-- two expressions, one after the other -/
theorem good2 {W : Wd} {k : Nat} {S : Sx} {e₁ e₂ : Expr} {d₁ d₂ : St → Option V} (g₁ : GoodE W k S e₁ d₁) (g₂ : GoodE W k S e₂ d₂) {A : Around} {C : Cx} {oa : Option Addr} {s : Shared} {σ : St} {v₁ v₂ : V}
    (hA : Room k A) (hC : FrS S C) (R : Rep W S C oa s σ) (h₁ : d₁ σ = some v₁) (h₂ : d₂ σ = some v₂) {Q : Value → Value → Shared → Prop} {E : Value → Shared → Prop}
    (h : ∀ r₁ r₂ s', Ext nobody s s' → Rep W S C oa s' σ → Rd (C.avd oa) s' r₁ v₁ → Rd (C.avd oa) s' r₂ v₂ → Q r₁ r₂ s') :
    wpAny W.M A (eval e₁ C.env) (fun a s₁ => wpAny W.M A (eval e₂ C.env) (fun b s₂ => Q a b s₂) E s₁) E s :=
  g₁ A C oa s σ v₁ hA hC R h₁ _ _ fun r₁ s₁ x₁ q₁ => g₂ A C oa s₁ σ v₂ hA hC (R.ext x₁) h₂ _ _ fun r₂ s₂ x₂ q₂ =>
    h r₁ r₂ s₂ (x₁.trans' x₂) ((R.ext x₁).ext x₂) (q₁.ext x₂ fun _ h => h.elim) q₂

noncomputable def dVar (i : Nat) (σ : St) : Option V := getS σ.ρ i
theorem loadName_bound {W : Wd} {A : Around} {env : Env} {x : Str} {r : Value} {s : Shared} {Q : Value → Shared → Prop} {E : Value → Shared → Prop} (hk : env.scope.kind = .function) (hb : Bound env s.heap x r)
    (hd : (x == ("__classdict__" : Str)) = false) (h : Q r s) : wpAny W.M A (loadName env x) Q E s := by
  rcases hb with ⟨h1, m, h2, h3⟩ | ⟨h1 | h1, c, h2, h3⟩
  · exact wpAny_loadName_local hk h1 h2 h3 h
  · exact wpAny_loadName_cell hk h1 h2 h3 h
  · exact wpAny_loadName_free hk h1 h2 h3 h hd
theorem good_var {W : Wd} {k : Nat} {S : Sx} {x : Str} {pos : Pos} (i : Nat) (hx : S.names[i]? = some x) (hd : (x == ("__debug__" : Str)) = false) (hd' : (x == ("__classdict__" : Str)) = false) :
    GoodE W k S (.Name x pos) (dVar i) := by
  intro A C oa s σ v hA hC R hv Q E h
  obtain ⟨r, hb, hr⟩ := R.slot i x v hx hv
  exact wpAny_Name (loadName_bound (by rw [hC.scope]; exact hC.kind) hb hd' (h r s (Ext.refl _ _) hr)) hd

noncomputable def dConst (v : V) (_ : St) : Option V := some v
theorem good_int {W : Wd} {k : Nat} {S : Sx} {i : Int} {n : Nat} {pos : Pos} : GoodE W k S (.Constant (.int i) n pos) (dConst (.int i)) := by
  intro A C oa s σ v hA hC R hv Q E h
  cases hv
  exact wpAny_Constant_int (h _ _ (Ext.toks _ _) (.int _ _))
theorem good_str {W : Wd} {k : Nat} {S : Sx} {x : Str} {n : Nat} {pos : Pos} (l : List Nat) (hl : x.cps.toList = l) : GoodE W k S (.Constant (.str x) n pos) (dConst (.str l)) := by
  intro A C oa s σ v hA hC R hv Q E h
  cases hv
  subst hl
  exact Constant_str (h _ _ (Ext.toks _ _) (.str _ _))
theorem good_none {W : Wd} {k : Nat} {S : Sx} {n : Nat} {pos : Pos} : GoodE W k S (.Constant .none n pos) (dConst .none) := by
  intro A C oa s σ v hA hC R hv Q E h
  cases hv
  exact Constant_none (h _ _ (Ext.refl _ _) .none)
theorem good_bool {W : Wd} {k : Nat} {S : Sx} {b : Bool} {n : Nat} {pos : Pos} : GoodE W k S (.Constant (.bool b) n pos) (dConst (.bool b)) := by
  intro A C oa s σ v hA hC R hv Q E h
  cases hv
  exact Constant_bool (h _ _ (Ext.refl _ _) (.bool _))


end
end Lite
namespace Lite
section
open PySem PySem.Calls PyProof.Rows PySem.W

noncomputable def Live (av : Addr → Prop) (s : Shared) : Prop := ∀ a, av a → ∃ o, s.heap.get? a = some o
theorem Live.ext {av : Addr → Prop} {s s' : Shared} (l : Live av s) (e : Ext nobody s s') : Live av s' := fun a h => let ⟨o, ho⟩ := l a h; ⟨o, e.heap a o (fun x => x) ho⟩
theorem Live.fresh {av : Addr → Prop} {s : Shared} (l : Live av s) : ¬ av s.heap.objs.size := fun h => by
  obtain ⟨o, ho⟩ := l _ h
  exact Nat.lt_irrefl _ (Heap.lt_size ho)
theorem Live.none {av : Addr → Prop} {s : Shared} (l : Live av s) {a : Addr} (h : s.heap.get? a = Option.none) : ¬ av a := fun x => by
  obtain ⟨o, ho⟩ := l _ x
  rw [h] at ho; cases ho

/-- a command of two values gives f of them -/
noncomputable def Op2 (W : Wd) (t : Value → Value → Sem Value) (f : V → V → Option V) : Prop :=
  ∀ (A : Around) (av : Addr → Prop) (s : Shared) (r₁ r₂ : Value) (v₁ v₂ v : V), Room 0 A → Live av s → 0 < s.toks → (∀ b o, W.hb.get? b = some o → s.heap.get? b = some o) → Rd av s r₁ v₁ → Rd av s r₂ v₂ → f v₁ v₂ = some v →
    ∀ (Q : Value → Shared → Prop) (E : Value → Shared → Prop), (∀ r s', Ext nobody s s' → Rd av s' r v → Q r s') → wpAny W.M A (t r₁ r₂) Q E s
noncomputable def Op1 (W : Wd) (t : Value → Sem Value) (f : V → Option V) : Prop :=
  ∀ (A : Around) (av : Addr → Prop) (s : Shared) (r₁ : Value) (v₁ v : V), Room 0 A → Live av s → 0 < s.toks → (∀ b o, W.hb.get? b = some o → s.heap.get? b = some o) → Rd av s r₁ v₁ → f v₁ = some v →
    ∀ (Q : Value → Shared → Prop) (E : Value → Shared → Prop), (∀ r s', Ext nobody s s' → Rd av s' r v → Q r s') → wpAny W.M A (t r₁) Q E s

noncomputable def d2 (f : V → V → Option V) (d₁ d₂ : St → Option V) (σ : St) : Option V := (d₁ σ).bind fun a => (d₂ σ).bind fun b => f a b
noncomputable def d1 (f : V → Option V) (d₁ : St → Option V) (σ : St) : Option V := (d₁ σ).bind f
theorem d2_some {f : V → V → Option V} {d₁ d₂ : St → Option V} {σ : St} {v : V} (h : d2 f d₁ d₂ σ = some v) : ∃ a b, d₁ σ = some a ∧ d₂ σ = some b ∧ f a b = some v := by
  unfold d2 at h
  cases h1 : d₁ σ with
  | none => rw [h1] at h; cases h
  | some a =>
    rw [h1] at h
    cases h2 : d₂ σ with
    | none => rw [h2] at h; cases h
    | some b => rw [h2] at h; exact ⟨a, b, rfl, rfl, h⟩
theorem d1_some {f : V → Option V} {d₁ : St → Option V} {σ : St} {v : V} (h : d1 f d₁ σ = some v) : ∃ a, d₁ σ = some a ∧ f a = some v := by
  unfold d1 at h
  cases h1 : d₁ σ with
  | none => rw [h1] at h; cases h
  | some a => rw [h1] at h; exact ⟨a, rfl, h⟩

theorem Rep.liveA {W : Wd} {S : Sx} {C : Cx} {oa : Option Addr} {s : Shared} {σ : St} (R : Rep W S C oa s σ) : Live (C.avd oa) s := R.live

theorem good_bin {W : Wd} {k : Nat} {S : Sx} {l r : Expr} {op : Operator} {pos : Pos} {dl dr : St → Option V} {f : V → V → Option V} (ho : Op2 W (binaryOp op) f) (hl : GoodE W k S l dl) (hr : GoodE W k S r dr) :
    GoodE W k S (.BinOp l op r pos) (d2 f dl dr) := by
  intro A C oa s σ v hA hC R hv Q E h
  obtain ⟨a, b, h1, h2, h3⟩ := d2_some hv
  refine wpAny_BinOp (good2 hl hr hA hC R h1 h2 fun r₁ r₂ s' e R' q₁ q₂ => ?_)
  exact ho A _ s' r₁ r₂ a b v (hA.mono (Nat.zero_le _)) R'.liveA R'.tk R'.keep q₁ q₂ h3 _ _ fun r s'' e' q => h r s'' (e.trans' e') q
theorem good_cmp {W : Wd} {k : Nat} {S : Sx} {l r : Expr} {op : CmpOp} {pos : Pos} {dl dr : St → Option V} {f : V → V → Option V} (ho : Op2 W (compareOp op) f) (hl : GoodE W k S l dl) (hr : GoodE W k S r dr)
    (hm : behindInMarks op r = false := by with_unfolding_all rfl) : GoodE W k S (.Compare l [op] [r] pos) (d2 f dl dr) := by
  intro A C oa s σ v hA hC R hv Q E h
  obtain ⟨a, b, h1, h2, h3⟩ := d2_some hv
  refine wpAny_Compare1 (good2 hl hr hA hC R h1 h2 fun r₁ r₂ s' e R' q₁ q₂ => ?_) hm
  exact ho A _ s' r₁ r₂ a b v (hA.mono (Nat.zero_le _)) R'.liveA R'.tk R'.keep q₁ q₂ h3 _ _ fun r s'' e' q => h r s'' (e.trans' e') q

/-- truth -/
noncomputable def truthV : V → Option Bool
  | .none => some false
  | .bool b => some b
  | .int i => some (i != 0)
  | .str l => if l.length < 1000000 then some (!l.isEmpty) else none
  | .list xs => if xs.length < 1000000 then some (!xs.isEmpty) else none
  | .ch _ => none
  | .tup _ => none
theorem truthy_V {W : Wd} {A : Around} {av : Addr → Prop} {s : Shared} {r : Value} {v : V} {b : Bool} (q : Rd av s r v) (h : truthV v = some b) {Q : Bool → Shared → Prop} {E : Value → Shared → Prop}
    (hQ : ∀ s', Ext nobody s s' → Q b s') : wpAny W.M A (truthy r) Q E s := by
  cases q with
  | none => cases h; exact truthy_none (hQ _ (Ext.refl _ _))
  | bool b => cases h; exact wpAny_truthy_bool (hQ _ (Ext.refl _ _))
  | int i t => cases h; exact P.truthy_int (hQ _ (Ext.refl _ _))
  | str x t =>
    simp only [truthV] at h
    split at h
    · rename_i hl
      have hs : x.cps.toList.length = x.length := by simp [Str.length]
      refine P.truthy_str (by omega) ?_
      have e : ((x.length : Int) != 0) = b := by
        cases h
        rw [← hs]
        cases x.cps.toList <;> simp
        omega
      rw [e]
      exact hQ _ (Ext.toks _ _)
    · cases h
  | @list a vs xs hl na ha =>
    simp only [truthV] at h
    split at h
    · rename_i hlen
      have e1 := ha.length
      have e2 : vs.toList.length = vs.size := by simp
      refine wpAny_truthy_list hl.isList (by omega) ?_
      have e : (!vs.isEmpty) = b := by
        cases h
        have : vs.isEmpty = xs.isEmpty := by
          cases xs with
          | nil =>
            have : vs.size = 0 := by simpa using (e2.symm.trans e1)
            simp [Array.isEmpty, this]
          | cons x r =>
            have : vs.size ≠ 0 := by simp at e1; omega
            simp [Array.isEmpty, this]
        rw [this]
      rw [e]
      exact hQ _ (Ext.toks _ _)
    · cases h
  | ch => cases h
  | tup => cases h

/-- a test is the truth of its value -/
noncomputable def dT (d : St → Option V) (σ : St) : Option Bool := (d σ).bind truthV
theorem dT_some {d : St → Option V} {σ : St} {b : Bool} (h : dT d σ = some b) : ∃ v, d σ = some v ∧ truthV v = some b := by
  unfold dT at h
  cases h1 : d σ with
  | none => rw [h1] at h; cases h
  | some a => rw [h1] at h; exact ⟨a, rfl, h⟩
theorem test_plain {W : Wd} {k : Nat} {S : Sx} {e : Expr} {d : St → Option V} (g : GoodE W k S e d)
    (he : ∀ env whole, isTrue e env whole = (do let v ← whole; standAt e.pos; holding [v] (truthy v)) := by intro _ _; rfl) : GoodT W k S e (dT d) := by
  intro A C oa s σ b hA hC R hb Q E h
  obtain ⟨v, h1, h2⟩ := dT_some hb
  exact isTrue_plain (g A C oa s σ v hA hC R h1 _ _ fun r s' e' q => truthy_V q h2 fun s'' e'' => h s'' (e'.trans' e'')) (he _ _)
theorem test_cmp {W : Wd} {k : Nat} {S : Sx} {l r : Expr} {op : CmpOp} {pos : Pos} {dl dr : St → Option V} {f : V → V → Option V} (ho : Op2 W (compareOp op) f) (hl : GoodE W k S l dl) (hr : GoodE W k S r dr)
    (hm : behindInMarks op r = false := by with_unfolding_all rfl) : GoodT W k S (.Compare l [op] [r] pos) (dT (d2 f dl dr)) := by
  intro A C oa s σ b hA hC R hb Q E h
  obtain ⟨v, hv, h4⟩ := dT_some hb
  obtain ⟨a, b, h1, h2, h3⟩ := d2_some hv
  refine wpAny_isTrue_Compare1 (good2 hl hr hA hC R h1 h2 fun r₁ r₂ s' e R' q₁ q₂ => ?_) hm
  exact ho A _ s' r₁ r₂ a b v (hA.mono (Nat.zero_le _)) R'.liveA R'.tk R'.keep q₁ q₂ h3 _ _ fun r s'' e' q => truthy_V q h4 fun s3 e3 => h s3 ((e.trans' e').trans' e3)
noncomputable def tNot (d : St → Option Bool) (σ : St) : Option Bool := (d σ).map (!·)
theorem test_not {W : Wd} {k : Nat} {S : Sx} {x : Expr} {pos : Pos} {d : St → Option Bool} (g : GoodT W k S x d) : GoodT W k S (.UnaryOp .Not x pos) (tNot d) := by
  intro A C oa s σ b hA hC R hb Q E h
  unfold tNot at hb
  cases h1 : d σ with
  | none => rw [h1] at hb; cases hb
  | some c =>
    rw [h1] at hb
    cases hb
    exact isTrue_not (g A C oa s σ c hA hC R h1 _ _ fun s' e => h s' e)
noncomputable def tAnd (d₁ d₂ : St → Option Bool) (σ : St) : Option Bool := (d₁ σ).bind fun b => match b with | true => d₂ σ | false => some false
noncomputable def tOr (d₁ d₂ : St → Option Bool) (σ : St) : Option Bool := (d₁ σ).bind fun b => match b with | true => some true | false => d₂ σ
noncomputable def tTrue (_ : St) : Option Bool := some true
noncomputable def tFalse (_ : St) : Option Bool := some false
theorem test_and_nil {W : Wd} {k : Nat} {S : Sx} {pos : Pos} : GoodT W k S (.BoolOp .And [] pos) tTrue := by
  intro A C oa s σ b hA hC R hb Q E h
  cases hb
  exact isTrue_and_nil (h _ (Ext.refl _ _))
theorem test_or_nil {W : Wd} {k : Nat} {S : Sx} {pos : Pos} : GoodT W k S (.BoolOp .Or [] pos) tFalse := by
  intro A C oa s σ b hA hC R hb Q E h
  cases hb
  exact isTrue_or_nil (h _ (Ext.refl _ _))
theorem test_and {W : Wd} {k : Nat} {S : Sx} {x : Expr} {rest : List Expr} {pos : Pos} {d₁ d₂ : St → Option Bool} (g₁ : GoodT W k S x d₁) (g₂ : GoodT W k S (.BoolOp .And rest pos) d₂) :
    GoodT W k S (.BoolOp .And (x :: rest) pos) (tAnd d₁ d₂) := by
  intro A C oa s σ b hA hC R hb Q E h
  unfold tAnd at hb
  cases h1 : d₁ σ with
  | none => rw [h1] at hb; cases hb
  | some c =>
    rw [h1] at hb
    refine isTrue_and (g₁ A C oa s σ c hA hC R h1 _ _ fun s' e => ?_)
    cases c with
    | false => cases hb; exact h s' e
    | true => exact g₂ A C oa s' σ b hA hC (R.ext e) hb _ _ fun s'' e' => h s'' (e.trans' e')
theorem test_or {W : Wd} {k : Nat} {S : Sx} {x : Expr} {rest : List Expr} {pos : Pos} {d₁ d₂ : St → Option Bool} (g₁ : GoodT W k S x d₁) (g₂ : GoodT W k S (.BoolOp .Or rest pos) d₂) :
    GoodT W k S (.BoolOp .Or (x :: rest) pos) (tOr d₁ d₂) := by
  intro A C oa s σ b hA hC R hb Q E h
  unfold tOr at hb
  cases h1 : d₁ σ with
  | none => rw [h1] at hb; cases hb
  | some c =>
    rw [h1] at hb
    refine isTrue_or (g₁ A C oa s σ c hA hC R h1 _ _ fun s' e => ?_)
    cases c with
    | true => cases hb; exact h s' e
    | false => exact g₂ A C oa s' σ b hA hC (R.ext e) hb _ _ fun s'' e' => h s'' (e.trans' e')

/-- and, or as values -/
noncomputable def vAnd (d₁ d₂ : St → Option V) (σ : St) : Option V := (d₁ σ).bind fun v => (truthV v).bind fun b => match b with | true => d₂ σ | false => some v
noncomputable def vOr (d₁ d₂ : St → Option V) (σ : St) : Option V := (d₁ σ).bind fun v => (truthV v).bind fun b => match b with | true => some v | false => d₂ σ
theorem good_bool1 {W : Wd} {k : Nat} {S : Sx} {op : BoolOp} {x : Expr} {pos : Pos} {d : St → Option V} (g : GoodE W k S x d) : GoodE W k S (.BoolOp op [x] pos) d := by
  intro A C oa s σ v hA hC R hv Q E h
  exact BoolOp_one (g A C oa s σ v hA hC R hv Q E h)
theorem good_and {W : Wd} {k : Nat} {S : Sx} {x y : Expr} {rest : List Expr} {pos : Pos} {d₁ d₂ : St → Option V} (g₁ : GoodE W k S x d₁) (g₂ : GoodE W k S (.BoolOp .And (y :: rest) pos) d₂) :
    GoodE W k S (.BoolOp .And (x :: y :: rest) pos) (vAnd d₁ d₂) := by
  intro A C oa s σ v hA hC R hv Q E h
  unfold vAnd at hv
  cases h1 : d₁ σ with
  | none => rw [h1] at hv; cases hv
  | some c =>
    rw [h1] at hv
    change (truthV c).bind _ = _ at hv
    cases h2 : truthV c with
    | none => rw [h2] at hv; cases hv
    | some b =>
      rw [h2] at hv
      refine BoolOp_and (g₁ A C oa s σ c hA hC R h1 _ _ fun r s' e q => truthy_V q h2 fun s'' e' => ?_)
      cases b with
      | false => cases hv; exact h r s'' (e.trans' e') (q.ext e' fun _ x => x.elim)
      | true => exact g₂ A C oa s'' σ v hA hC ((R.ext e).ext e') hv _ _ fun r' s3 e3 q' => h r' s3 ((e.trans' e').trans' e3) q'
theorem good_or {W : Wd} {k : Nat} {S : Sx} {x y : Expr} {rest : List Expr} {pos : Pos} {d₁ d₂ : St → Option V} (g₁ : GoodE W k S x d₁) (g₂ : GoodE W k S (.BoolOp .Or (y :: rest) pos) d₂) :
    GoodE W k S (.BoolOp .Or (x :: y :: rest) pos) (vOr d₁ d₂) := by
  intro A C oa s σ v hA hC R hv Q E h
  unfold vOr at hv
  cases h1 : d₁ σ with
  | none => rw [h1] at hv; cases hv
  | some c =>
    rw [h1] at hv
    change (truthV c).bind _ = _ at hv
    cases h2 : truthV c with
    | none => rw [h2] at hv; cases hv
    | some b =>
      rw [h2] at hv
      refine BoolOp_or (g₁ A C oa s σ c hA hC R h1 _ _ fun r s' e q => truthy_V q h2 fun s'' e' => ?_)
      cases b with
      | true => cases hv; exact h r s'' (e.trans' e') (q.ext e' fun _ x => x.elim)
      | false => exact g₂ A C oa s'' σ v hA hC ((R.ext e).ext e') hv _ _ fun r' s3 e3 q' => h r' s3 ((e.trans' e').trans' e3) q'

noncomputable def vIf (t : St → Option Bool) (d₁ d₂ : St → Option V) (σ : St) : Option V := (t σ).bind fun b => match b with | true => d₁ σ | false => d₂ σ
theorem good_ifexp {W : Wd} {k : Nat} {S : Sx} {test x y : Expr} {pos : Pos} {t : St → Option Bool} {d₁ d₂ : St → Option V} (gt : GoodT W k S test t) (g₁ : GoodE W k S x d₁) (g₂ : GoodE W k S y d₂) :
    GoodE W k S (.IfExp test x y pos) (vIf t d₁ d₂) := by
  intro A C oa s σ v hA hC R hv Q E h
  unfold vIf at hv
  cases h1 : t σ with
  | none => rw [h1] at hv; cases hv
  | some b =>
    rw [h1] at hv
    refine IfExp_ (gt A C oa s σ b hA hC R h1 _ _ fun s' e => ?_)
    cases b with
    | true => exact g₁ A C oa s' σ v hA hC (R.ext e) hv _ _ fun r s'' e' q => h r s'' (e.trans' e') q
    | false => exact g₂ A C oa s' σ v hA hC (R.ext e) hv _ _ fun r s'' e' q => h r s'' (e.trans' e') q

/-- unary -/
noncomputable def negV : V → Option V
  | .int i => some (.int (-i))
  | _ => none
noncomputable def notV (v : V) : Option V := (truthV v).map fun b => .bool (!b)
theorem good_neg {W : Wd} {k : Nat} {S : Sx} {x : Expr} {pos : Pos} {d : St → Option V} (g : GoodE W k S x d) : GoodE W k S (.UnaryOp .USub x pos) (d1 negV d) := by
  intro A C oa s σ v hA hC R hv Q E h
  obtain ⟨a, h1, h2⟩ := d1_some hv
  refine UnaryOp_ (g A C oa s σ a hA hC R h1 _ _ fun r s' e q => ?_)
  cases q <;> try (cases h2)
  exact P.neg_int (h _ _ (e.trans' (Ext.toks _ _)) (.int _ _))
theorem good_not {W : Wd} {k : Nat} {S : Sx} {x : Expr} {pos : Pos} {d : St → Option V} (g : GoodE W k S x d) : GoodE W k S (.UnaryOp .Not x pos) (d1 notV d) := by
  intro A C oa s σ v hA hC R hv Q E h
  obtain ⟨a, h1, h2⟩ := d1_some hv
  refine UnaryOp_ (g A C oa s σ a hA hC R h1 _ _ fun r s' e q => ?_)
  unfold notV at h2
  cases h3 : truthV a with
  | none => rw [h3] at h2; cases h2
  | some b =>
    rw [h3] at h2
    cases h2
    exact not_of (truthy_V q h3 fun s'' e' => h _ _ (e.trans' e') (.bool _))

/-- arithmetic -/
noncomputable def addV : V → V → Option V
  | .int a, .int b => some (.int (a + b))
  | .str a, .str b => if a.length + b.length < 100000 then some (.str (a ++ b)) else none
  | .list a, .list b => if a.length + b.length < 100000 then some (.list (a ++ b)) else none
  | _, _ => none
noncomputable def b2V (b : Bool) : Int := match b with | true => 1 | false => 0
noncomputable def subV : V → V → Option V
  | .int a, .int b => some (.int (a - b))
  | .bool a, .bool b => some (.int (b2V a - b2V b))
  | _, _ => none
noncomputable def mulV : V → V → Option V
  | .int a, .int b => if a.natAbs < 18446744073709551616 then some (.int (a * b)) else none
  | _, _ => none
noncomputable def divV : V → V → Option V
  | .int a, .int b => if b.natAbs == 0 then none else if b.natAbs < 1073741824 then some (.int (a.fdiv b)) else none
  | _, _ => none
noncomputable def modV : V → V → Option V
  | .int a, .int b => if b.natAbs == 0 then none else some (.int (a.fmod b))
  | _, _ => none
noncomputable def powV : V → V → Option V
  | .int a, .int (.ofNat n) => if a.natAbs < 18446744073709551616 && n < 1000 then some (.int (a ^ n)) else none
  | _, _ => none

theorem add_list_heap {W : Wd} {A : Around} {s : Shared} {l b : Addr} {vs ws : Array Value} {Q : Value → Shared → Prop} {E : Value → Shared → Prop} (hl : s.heap.IsList l vs) (hb : s.heap.IsList b ws)
    (h : Q (.ref s.heap.objs.size) { s with heap := s.heap.push { cls := .type "list", data := .seq (vs ++ ws) } }) (hsz : vs.size + ws.size ≤ sizeLine) :
    wpAny W.M A (binaryOp .Add (.ref l) (.ref b)) Q E s := by
  obtain ⟨⟨cls, dd, data, sl⟩, ho, hc, n, hd⟩ := id hl
  obtain ⟨⟨cls2, dd2, data2, sl2⟩, ho2, hc2, n2, hd2⟩ := id hb
  simp only at hc hd hc2 hd2
  subst hc hd hc2 hd2
  exact concat_meets ⟨_, ho, rfl⟩ ⟨_, ho2, rfl⟩ noFill_list_add seq_list_add PySem.F.slot_list_add PySem.F.entry_list_add (PySem.F.args_list_add_2 _ _) (list_addW l b vs ws n n2 dd dd2 sl sl2 hsz) ⟨ho, ho2, h⟩

theorem rd_newList {av : Addr → Prop} {s : Shared} {vs : Array Value} {xs : List V} {n : Nat} {tk : Tok} (l : Live av s) (q : RdAll av s vs.toList xs) (ht : s.toks ≤ tk := by first | exact Nat.le_refl _ | omega) :
    Rd av ({ s with heap := s.heap.push { cls := .type "list", data := .seq vs n }, toks := tk } : Shared) (.ref s.heap.objs.size) (.list xs) :=
  .list ⟨n, Heap.get?_push_size _ rfl⟩ l.fresh (q.move (fun _ _ na e => ⟨Heap.get?_push_of_some _ e, na⟩) ht)
theorem rd_newTup {av : Addr → Prop} {s : Shared} {vs : Array Value} {xs : List V} {n : Nat} {d : Option Addr} {sl : Array (Option Value)} {tk : Tok} (l : Live av s) (q : RdAll av s vs.toList xs) (ht : s.toks ≤ tk := by first | exact Nat.le_refl _ | omega) :
    Rd av ({ s with heap := s.heap.push { cls := .type "tuple", dict := d, data := .seq vs n, slots := sl }, toks := tk } : Shared) (.ref s.heap.objs.size) (.tup xs) :=
  .tup ⟨_, Heap.get?_push_size _ rfl, rfl, n, rfl⟩ l.fresh (q.move (fun _ _ na e => ⟨Heap.get?_push_of_some _ e, na⟩) ht)

theorem op_add (W : Wd) : Op2 W (binaryOp .Add) addV := by
  intro A av s r₁ r₂ v₁ v₂ v hA hL htk0 hk q₁ q₂ hf Q E h
  cases q₁ with
  | int a t => cases q₂ <;> (try cases hf); exact add_int (h _ _ (Ext.toks _ _) (.int _ _))
  | str x t =>
    cases q₂ with
    | str y u =>
      simp only [addV] at hf
      split at hf
      · rename_i hl
        cases hf
        have e1 : x.cps.toList.length = x.length := by simp [Str.length]
        have e2 : y.cps.toList.length = y.length := by simp [Str.length]
        refine wpAny_with_toks (Nat.le_refl s.toks) (add_str (fun t' tk htk => h _ _ (Ext.toks _ _ htk) ?_) (by rw [sizeLine_eq]; omega))
        have : (x ++ y).cps.toList = x.cps.toList ++ y.cps.toList := by
          show (x.cps ++ y.cps).toList = _
          simp
        rw [← this]; exact .str _ _
      · cases hf
    | _ => cases hf
  | @list a vs xs hl na ha =>
    cases q₂ with
    | @list b ws ys hl' na' hb =>
      simp only [addV] at hf
      split at hf
      · rename_i hlen
        cases hf
        have e1 := ha.length
        have e2 := hb.length
        simp only [Array.length_toList] at e1 e2
        refine add_list_heap hl.isList hl'.isList (h _ _ (Ext.pushed s _ s.toks) ?_) (by rw [sizeLine_eq]; omega)
        exact rd_newList (tk := s.toks) hL (by rw [Array.toList_append]; exact ha.append hb)
      · cases hf
    | _ => cases hf
  | _ => cases hf
theorem op_sub (W : Wd) : Op2 W (binaryOp .Sub) subV := by
  intro A av s r₁ r₂ v₁ v₂ v hA hL htk0 hk q₁ q₂ hf Q E h
  cases q₁ with
  | int a t => cases q₂ <;> (try cases hf); exact sub_int (h _ _ (Ext.toks _ _) (.int _ _))
  | bool a =>
    cases q₂ <;> (try cases hf)
    rename_i b
    refine PyProof.Rows.sub_bool (h _ _ (Ext.toks _ _) ?_)
    have : b2i a - b2i b = b2V a - b2V b := by cases a <;> cases b <;> rfl
    rw [this]
    exact .int _ _
  | _ => cases hf
theorem bits64 {a : Int} (h : a.natAbs < 18446744073709551616) : Builtin.Int.intBits a ≤ 64 := by
  have e : (2 : Int) ^ 64 = 18446744073709551616 := by decide
  exact intBits_le_64 (by omega) (by omega)
theorem op_mul (W : Wd) : Op2 W (binaryOp .Mult) mulV := by
  intro A av s r₁ r₂ v₁ v₂ v hA hL htk0 hk q₁ q₂ hf Q E h
  unfold mulV at hf
  split at hf <;> try (cases hf; done)
  rename_i a b
  cases q₁; cases q₂
  split at hf
  · rename_i ha
    cases hf
    exact P.mul_int (h _ _ (Ext.toks _ _) (.int _ _)) (IntMulOk.of_left (bits64 ha))
  · cases hf
theorem op_div (W : Wd) : Op2 W (binaryOp .FloorDiv) divV := by
  intro A av s r₁ r₂ v₁ v₂ v hA hL htk0 hk q₁ q₂ hf Q E h
  unfold divV at hf
  split at hf <;> try (cases hf; done)
  rename_i a b
  cases q₁; cases q₂
  split at hf
  · cases hf
  · rename_i h0
    split at hf
    · rename_i h1
      cases hf
      exact floordiv_int (by simp at h0; exact h0) (h _ _ (Ext.toks _ _) (.int _ _)) (.inl (PyProof.noPylong_small h1))
    · cases hf
theorem op_mod (W : Wd) : Op2 W (binaryOp .Mod) modV := by
  intro A av s r₁ r₂ v₁ v₂ v hA hL htk0 hk q₁ q₂ hf Q E h
  unfold modV at hf
  split at hf <;> try (cases hf; done)
  rename_i a b
  cases q₁; cases q₂
  split at hf
  · cases hf
  · rename_i h0
    cases hf
    exact PyProof.Rows.mod_int' (by simp at h0; exact h0) (h _ _ (Ext.toks _ _) (.int _ _))
theorem pow_room {a : Int} {n : Nat} (h : (decide (a.natAbs < 18446744073709551616) && decide (n < 1000)) = true) : (Builtin.Int.intBits a : Int) * (n : Int) ≤ 2 ^ 27 := by
  simp only [Bool.and_eq_true, decide_eq_true_eq] at h
  have h1 := bits64 h.1
  have h2 : (Builtin.Int.intBits a) * n ≤ 64 * 1000 := Nat.mul_le_mul h1 (by omega)
  have h3 : ((Builtin.Int.intBits a * n : Nat) : Int) ≤ 64000 := by omega
  have e : (2 : Int) ^ 27 = 134217728 := by decide
  rw [← Int.natCast_mul]
  omega
theorem op_pow (W : Wd) : Op2 W (binaryOp .Pow) powV := by
  intro A av s r₁ r₂ v₁ v₂ v hA hL htk0 hk q₁ q₂ hf Q E h
  unfold powV at hf
  split at hf <;> try (cases hf; done)
  rename_i a n
  cases q₁; cases q₂
  · split at hf
    · rename_i hb
      cases hf
      exact pow_int (Int.natCast_nonneg n) (pow_room hb) (h _ _ (Ext.toks _ _) (.int _ _))
    · cases hf
theorem op_ipow (W : Wd) : Op2 W (inplaceOp .Pow) powV := by
  intro A av s r₁ r₂ v₁ v₂ v hA hL htk0 hk q₁ q₂ hf Q E h
  unfold powV at hf
  split at hf <;> try (cases hf; done)
  rename_i a n
  cases q₁; cases q₂
  · split at hf
    · rename_i hb
      cases hf
      exact ipow_int (Int.natCast_nonneg n) (pow_room hb) (h _ _ (Ext.toks _ _) (.int _ _))
    · cases hf
noncomputable def addI : V → V → Option V
  | .int a, .int b => some (.int (a + b))
  | _, _ => none
noncomputable def subI : V → V → Option V
  | .int a, .int b => some (.int (a - b))
  | _, _ => none
theorem op_iadd (W : Wd) : Op2 W (inplaceOp .Add) addI := by
  intro A av s r₁ r₂ v₁ v₂ v hA hL htk0 hk q₁ q₂ hf Q E h
  unfold addI at hf
  split at hf <;> try (cases hf; done)
  rename_i a b
  cases q₁; cases q₂
  cases hf
  exact iadd_int (h _ _ (Ext.toks _ _) (.int _ _))
theorem op_isub (W : Wd) : Op2 W (inplaceOp .Sub) subI := by
  intro A av s r₁ r₂ v₁ v₂ v hA hL htk0 hk q₁ q₂ hf Q E h
  unfold subI at hf
  split at hf <;> try (cases hf; done)
  rename_i a b
  cases q₁; cases q₂
  cases hf
  exact PyProof.Rows.isub_int (h _ _ (Ext.toks _ _) (.int _ _))

/-- comparisons -/
noncomputable def ltI : V → V → Option V
  | .int a, .int b => some (.bool (decide (a < b)))
  | .str a, .str b => some (.bool (decide (a < b)))
  | _, _ => none
noncomputable def gtI : V → V → Option V
  | .int a, .int b => some (.bool (decide (b < a)))
  | .str a, .str b => some (.bool (decide (b < a)))
  | _, _ => none
noncomputable def leI : V → V → Option V
  | .int a, .int b => some (.bool (decide (a ≤ b)))
  | _, _ => none
noncomputable def geI : V → V → Option V
  | .int a, .int b => some (.bool (decide (b ≤ a)))
  | _, _ => none
theorem op_lt (W : Wd) : Op2 W (compareOp .Lt) ltI := by
  intro A av s r₁ r₂ v₁ v₂ v hA hL htk0 hk q₁ q₂ hf Q E h
  unfold ltI at hf
  split at hf <;> try (cases hf; done)
  · cases q₁; cases q₂; cases hf; exact PyProof.Rows.lt_int (h _ _ (Ext.refl _ _) (.bool _))
  · cases q₁; cases q₂; cases hf; exact PyProof.Rows.lt_str (h _ _ (Ext.refl _ _) (.bool _))
theorem op_gt (W : Wd) : Op2 W (compareOp .Gt) gtI := by
  intro A av s r₁ r₂ v₁ v₂ v hA hL htk0 hk q₁ q₂ hf Q E h
  unfold gtI at hf
  split at hf <;> try (cases hf; done)
  · cases q₁; cases q₂; cases hf; exact PyProof.Rows.gt_int (h _ _ (Ext.refl _ _) (.bool _))
  · cases q₁; cases q₂; cases hf; exact P.gt_str (h _ _ (Ext.refl _ _) (.bool _))
theorem op_le (W : Wd) : Op2 W (compareOp .LtE) leI := by
  intro A av s r₁ r₂ v₁ v₂ v hA hL htk0 hk q₁ q₂ hf Q E h
  unfold leI at hf
  split at hf <;> try (cases hf; done)
  rename_i a b
  cases q₁; cases q₂
  cases hf; exact PyProof.Rows.le_int (h _ _ (Ext.refl _ _) (.bool _))
theorem op_ge (W : Wd) : Op2 W (compareOp .GtE) geI := by
  intro A av s r₁ r₂ v₁ v₂ v hA hL htk0 hk q₁ q₂ hf Q E h
  unfold geI at hf
  split at hf <;> try (cases hf; done)
  rename_i a b
  cases q₁; cases q₂
  cases hf; exact PyProof.Rows.ge_int (h _ _ (Ext.refl _ _) (.bool _))

/-- ints all through -/
noncomputable def intsOf : List V → Option (List Int)
  | [] => some []
  | .int i :: r => (intsOf r).map (i :: ·)
  | _ :: _ => none
theorem reads_ints {av : Addr → Prop} {s : Shared} : ∀ {vs : List Value} {xs : List V} {ns : List Int}, RdAll av s vs xs → intsOf xs = some ns → ReadsAll s.heap vs (ns.map .int) []
  | _, _, _, .nil, e => by cases e; exact .nil
  | _, _, _, .cons (x := x) (xs := xs) q r, e => by
    cases q <;> try (cases e; done)
    simp only [intsOf] at e
    cases h1 : intsOf xs with
    | none => rw [h1] at e; cases e
    | some ms =>
      rw [h1] at e
      cases e
      exact .cons (as := []) (.int _ _) (reads_ints r h1)
theorem intsAre_of {av : Addr → Prop} {s : Shared} : ∀ {vs : List Value} {xs : List V} {ns : List Int}, RdAll av s vs xs → intsOf xs = some ns → IntsAre vs ns
  | _, _, _, .nil, e => by cases e; exact .nil
  | _, _, _, .cons (x := x) (xs := xs) q r, e => by
    cases q <;> try (cases e; done)
    simp only [intsOf] at e
    cases h1 : intsOf xs with
    | none => rw [h1] at e; cases e
    | some ms =>
      rw [h1] at e
      cases e
      exact .cons _ _ (intsAre_of r h1)
theorem eqv_ints : ∀ (ns ms : List Int), PyData.eqvAll (ns.map .int) (ms.map .int) = (ns == ms)
  | [], [] => rfl
  | [], _ :: _ => rfl
  | _ :: _, [] => rfl
  | n :: ns, m :: ms => by
    show (n == m && PyData.eqvAll (ns.map .int) (ms.map .int)) = _
    rw [eqv_ints ns ms]; rfl
theorem shaped_ints_all (ns : List Int) : PyData.canLayAll0 (ns.map .int) = true ∧ PyData.depthAll (ns.map .int) = 0 := by
  induction ns with
  | nil => exact ⟨rfl, rfl⟩
  | cons n r ih =>
    refine ⟨?_, ?_⟩
    · show (true && PyData.canLayAll0 (r.map .int)) = true
      rw [ih.1]; rfl
    · show max 0 (PyData.depthAll (r.map .int)) = 0
      rw [ih.2]; rfl
theorem shaped_list (ns : List Int) : SeqAt.shaped (.list (ns.map .int)) = true := by
  have h := shaped_ints_all ns
  show (PyData.canLayAll0 (ns.map .int) && decide (PyData.depthAll (ns.map .int) + 1 ≤ 64)) = true
  rw [h.1, h.2]; rfl
theorem shaped_tup (ns : List Int) : SeqAt.shaped (.tuple (ns.map .int)) = true := by
  have h := shaped_ints_all ns
  show (PyData.canLayAll0 (ns.map .int) && decide (PyData.depthAll (ns.map .int) + 1 ≤ 64)) = true
  rw [h.1, h.2]; rfl
noncomputable def eqB : V → V → Option Bool
  | .int a, .int b => some (a == b)
  | .str a, .str b => some (a == b)
  | .ch a, .ch b => some (a == b)
  | .bool a, .bool b => some (a == b)
  | .list a, .list b => (intsOf a).bind fun x => (intsOf b).map fun y => x == y
  | .tup a, .tup b => (intsOf a).bind fun x => (intsOf b).map fun y => x == y
  | _, _ => none
noncomputable def eqI (a b : V) : Option V := (eqB a b).map .bool
noncomputable def neI (a b : V) : Option V := (eqB a b).map fun c => .bool (!c)
theorem ints2_some {a b : List V} {c : Bool} (h : ((intsOf a).bind fun x => (intsOf b).map fun y => x == y) = some c) : ∃ x y, intsOf a = some x ∧ intsOf b = some y ∧ (x == y) = c := by
  cases h1 : intsOf a with
  | none => rw [h1] at h; cases h
  | some x =>
    rw [h1] at h
    cases h2 : intsOf b with
    | none => rw [h2] at h; cases h
    | some y => rw [h2] at h; exact ⟨x, y, rfl, rfl, by simpa using h⟩
theorem eq_V {W : Wd} {A : Around} {av : Addr → Prop} {s : Shared} {r₁ r₂ : Value} {v₁ v₂ : V} {c : Bool} (hA : Room 0 A) (q₁ : Rd av s r₁ v₁) (q₂ : Rd av s r₂ v₂) (h : eqB v₁ v₂ = some c)
    {Q : Value → Shared → Prop} {E : Value → Shared → Prop} : (Q (.bool c) s → wpAny W.M A (compareOp .Eq r₁ r₂) Q E s) ∧ (Q (.bool (!c)) s → wpAny W.M A (compareOp .NotEq r₁ r₂) Q E s) := by
  have hu : A.units + 64 < cLine := by have := hA.units; omega
  cases q₁ <;> cases q₂ <;> try (cases h; done)
  · cases h; exact ⟨fun k => PyProof.Rows.eq_bool k, fun k => PyProof.Rows.ne_bool k⟩
  · cases h; exact ⟨fun k => PyProof.Rows.eq_int k, fun k => PyProof.Rows.ne_int k⟩
  · cases h
    refine ⟨fun k => PyProof.Rows.eq_str (by rw [← PyProof.Rows.toList_beq]; exact k), fun k => PyProof.Rows.ne_str ?_⟩
    rw [← PyProof.Rows.toList_bne]; exact k
  · rename_i a t _ _ b u _ _
    cases h
    have e : ((⟨#[a]⟩ : Str) == ⟨#[b]⟩) = (a == b) := by rw [Bool.eq_iff_iff]; simp
    have e' : ((⟨#[a]⟩ : Str) != ⟨#[b]⟩) = !(a == b) := by rw [bne, e]
    exact ⟨fun k => PyProof.Rows.eq_str (by rw [e]; exact k), fun k => PyProof.Rows.ne_str (by rw [e']; exact k)⟩
  · rename_i a vs xs ha na qa b ws ys hb nb qb
    obtain ⟨x, y, h1, h2, h3⟩ := ints2_some h
    obtain ⟨o, ho, hc, n, hd⟩ := ha.isList
    obtain ⟨o', ho', hc', n', hd'⟩ := hb.isList
    have ra := Reads.list ho hc hd (reads_ints qa h1)
    have rb := Reads.list ho' hc' hd' (reads_ints qb h2)
    have e : PyData.eqv (.list (x.map .int)) (.list (y.map .int)) = c := (eqv_ints x y).trans h3
    refine ⟨fun k => eq_dataH ra rb (shaped_list _) (shaped_list _) hu (by rw [e]; exact k), fun k => ne_dataH ra rb (shaped_list _) (shaped_list _) hu (by rw [e]; exact k)⟩
  · rename_i a vs xs ha na qa b ws ys hb nb qb
    obtain ⟨x, y, h1, h2, h3⟩ := ints2_some h
    obtain ⟨o, ho, hc, n, hd⟩ := ha
    obtain ⟨o', ho', hc', n', hd'⟩ := hb
    have ra := Reads.tuple ho hc hd (reads_ints qa h1)
    have rb := Reads.tuple ho' hc' hd' (reads_ints qb h2)
    have e : PyData.eqv (.tuple (x.map .int)) (.tuple (y.map .int)) = c := (eqv_ints x y).trans h3
    refine ⟨fun k => eq_dataH ra rb (shaped_tup _) (shaped_tup _) hu (by rw [e]; exact k), fun k => ne_dataH ra rb (shaped_tup _) (shaped_tup _) hu (by rw [e]; exact k)⟩
theorem op_eq (W : Wd) : Op2 W (compareOp .Eq) eqI := by
  intro A av s r₁ r₂ v₁ v₂ v hA hL htk0 hk q₁ q₂ hf Q E h
  unfold eqI at hf
  cases h1 : eqB v₁ v₂ with
  | none => rw [h1] at hf; cases hf
  | some c => rw [h1] at hf; cases hf; exact (eq_V hA q₁ q₂ h1).1 (h _ _ (Ext.refl _ _) (.bool _))
theorem op_ne (W : Wd) : Op2 W (compareOp .NotEq) neI := by
  intro A av s r₁ r₂ v₁ v₂ v hA hL htk0 hk q₁ q₂ hf Q E h
  unfold neI at hf
  cases h1 : eqB v₁ v₂ with
  | none => rw [h1] at hf; cases hf
  | some c => rw [h1] at hf; cases hf; exact (eq_V hA q₁ q₂ h1).2 (h _ _ (Ext.refl _ _) (.bool _))
noncomputable def inI : V → V → Option V
  | .int a, .list b => (intsOf b).map fun ns => .bool (ns.any (· == a))
  | _, _ => none
theorem op_in (W : Wd) : Op2 W (compareOp .In) inI := by
  intro A av s r₁ r₂ v₁ v₂ v hA hL htk0 hk q₁ q₂ hf Q E h
  unfold inI at hf
  split at hf <;> try (cases hf; done)
  rename_i a xs
  cases q₁
  cases q₂ with
  | @list l vs _ hl na q =>
  cases h1 : intsOf xs with
  | none => rw [h1] at hf; cases hf
  | some ns =>
    rw [h1] at hf; cases hf
    exact in_list_ints (vs := vs.toList) hl.isList (intsAre_of q h1) (h _ _ (Ext.refl _ _) (.bool _))
noncomputable def isNoneI : V → V → Option V
  | .none, .none => some (.bool true)
  | _, .none => some (.bool false)
  | _, _ => none
theorem op_isNone (W : Wd) : Op2 W (compareOp .Is) isNoneI := by
  intro A av s r₁ r₂ v₁ v₂ v hA hL htk0 hk q₁ q₂ hf Q E h
  unfold isNoneI at hf
  split at hf <;> try (cases hf; done)
  · cases q₁; cases q₂; cases hf; exact is_none_none (h _ _ (Ext.refl _ _) (.bool _))
  · rename_i hne
    cases q₂; cases hf
    exact is_none_ne (fun x => by subst x; cases q₁; exact hne rfl) (h _ _ (Ext.refl _ _) (.bool _))


end
end Lite
namespace Lite
section
open PySem PySem.Calls PyProof.Rows PySem.W

inductive Fl where
  | next | brk | cont
  | ret (v : V)

noncomputable def FlRd (out : Addr → Prop) (s : Shared) : Flow → Fl → Prop
  | .next, .next => True
  | .brk, .brk => True
  | .cont, .cont => True
  | .ret r, .ret v => Rd out s r v
  | _, _ => False

noncomputable abbrev Den := St → Option (Fl × St)

structure SxOk (S : Sx) : Prop where
  nodup : S.names.Nodup
  own : S.own ∉ S.names

noncomputable def Old (C : Cx) (oa : Option Addr) (s : Shared) (oa' : Option Addr) : Prop := ∀ a o, s.heap.get? a = some o → C.mut oa' a → C.mut oa a
theorem Old.refl (C : Cx) (oa : Option Addr) (s : Shared) : Old C oa s oa := fun _ _ _ h => h
theorem Old.trans {C : Cx} {oa oa' oa'' : Option Addr} {s s' : Shared} (x : Old C oa s oa') (e : ∀ a o, s.heap.get? a = some o → ∃ o', s'.heap.get? a = some o') (y : Old C oa' s' oa'') : Old C oa s oa'' :=
  fun a o h m => let ⟨o', h'⟩ := e a o h; x a o h (y a o' h' m)

noncomputable def GoodR (W : Wd) (k : Nat) (S : Sx) (run : Env → Sem Flow) (D : Den) : Prop :=
  ∀ (A : Around) (C : Cx) (oa : Option Addr) (s : Shared) (σ : St) (φ : Fl) (σ' : St), Room k A → FrS S C → Rep W S C oa s σ → D σ = some (φ, σ') →
    ∀ (Q : Flow → Shared → Prop) (E : Value → Shared → Prop),
      (∀ f oa' s', Ext (C.mut oa) s s' → (∀ a o, s.heap.get? a = some o → ∃ o', s'.heap.get? a = some o') → Old C oa s oa' → Rep W S C oa' s' σ' → FlRd C.out s' f φ → Q f s') → wpAny W.M A (run C.env) Q E s
noncomputable abbrev GoodS (W : Wd) (k : Nat) (S : Sx) (st : Stmt) (D : Den) : Prop := GoodR W k S (exec st) D
noncomputable abbrev GoodB (W : Wd) (k : Nat) (S : Sx) (b : List Stmt) (D : Den) : Prop := GoodR W k S (execs b) D

theorem Ext.there {s s' : Shared} (e : Ext nobody s s') : ∀ a o, s.heap.get? a = some o → ∃ o', s'.heap.get? a = some o' := fun a o h => ⟨o, e.heap a o (fun x => x) h⟩

/-- bodies -/
noncomputable def dNil (σ : St) : Option (Fl × St) := some (.next, σ)
noncomputable def dSeq (D₁ D₂ : Den) (σ : St) : Option (Fl × St) := (D₁ σ).bind fun p => match p.1 with | .next => D₂ p.2 | _ => some p
theorem body_nil {W : Wd} {k : Nat} {S : Sx} : GoodB W k S [] dNil := by
  intro A C oa s σ φ σ' hA hC R h Q E hQ
  cases h
  exact wpAny_execs_nil (hQ _ oa s (Ext.refl _ _) (fun a o h => ⟨o, h⟩) (Old.refl _ _ _) R trivial)
theorem body_cons {W : Wd} {k : Nat} {S : Sx} {st : Stmt} {rest : List Stmt} {D₁ D₂ : Den} (g₁ : GoodS W k S st D₁) (g₂ : GoodB W k S rest D₂) : GoodB W k S (st :: rest) (dSeq D₁ D₂) := by
  intro A C oa s σ φ σ' hA hC R h Q E hQ
  unfold dSeq at h
  cases h1 : D₁ σ with
  | none => rw [h1] at h; cases h
  | some p =>
    rw [h1] at h
    obtain ⟨φ₁, σ₁⟩ := p
    refine wpAny_execs_cons (g₁ A C oa s σ φ₁ σ₁ hA hC R h1 _ _ fun f oa₁ s₁ e₁ t₁ o₁ R₁ hf => ?_)
    cases φ₁ with
    | next =>
      (cases f <;> try (exact False.elim hf))
      exact g₂ A C oa₁ s₁ σ₁ φ σ' hA hC R₁ h _ _ fun f oa₂ s₂ e₂ t₂ o₂ R₂ hf₂ =>
        hQ f oa₂ s₂ (e₁.trans e₂ fun a o h m => o₁ a o h m) (fun a o h => let ⟨o', h'⟩ := t₁ a o h; t₂ a o' h') (o₁.trans t₁ o₂) R₂ hf₂
    | brk => cases h; (cases f <;> try (exact False.elim hf)); exact hQ _ oa₁ s₁ e₁ t₁ o₁ R₁ hf
    | cont => cases h; (cases f <;> try (exact False.elim hf)); exact hQ _ oa₁ s₁ e₁ t₁ o₁ R₁ hf
    | ret v => cases h; (cases f <;> try (exact False.elim hf)); exact hQ _ oa₁ s₁ e₁ t₁ o₁ R₁ hf

/-- storing a name -/
theorem Rd.out {C : Cx} {oa : Option Addr} {s : Shared} {r : Value} {v : V} (x : Rd (C.avd oa) s r v) : Rd C.out s r v :=
  x.move (fun _ _ na e => ⟨e, fun h => na (.inl h)⟩) (Nat.le_refl _)
theorem RdAll.out {C : Cx} {oa : Option Addr} {s : Shared} {r : List Value} {v : List V} (x : RdAll (C.avd oa) s r v) : RdAll C.out s r v :=
  x.move (fun _ _ na e => ⟨e, fun h => na (.inl h)⟩) (Nat.le_refl _)

theorem nodup_ne {l : List Str} (h : l.Nodup) {i j : Nat} {x y : Str} (hi : l[i]? = some x) (hj : l[j]? = some y) (hne : i ≠ j) : x ≠ y := by
  obtain ⟨h1, rfl⟩ := List.getElem?_eq_some_iff.mp hi
  obtain ⟨h2, rfl⟩ := List.getElem?_eq_some_iff.mp hj
  have hp := List.pairwise_iff_getElem.mp h
  rcases Nat.lt_or_gt_of_ne hne with q | q
  · exact hp i j h1 h2 q
  · exact (hp j i h2 h1 q).symm

/-- a write into one of the frame's own places keeps what is bound elsewhere -/
theorem Bound.frame {env : Env} {h h' : Heap} {y : Str} {r : Value} {a : Addr} (b : Bound env h y r) (hs : Heap.SameBut a h h') (h1 : env.kindOf y = some .local → a ≠ env.locals) (h2 : ∀ c, env.cells.lookup y = some c → c ≠ a) : Bound env h' y r := by
  rcases b with ⟨k, m, hm, e⟩ | ⟨k, c, hc, e⟩
  · exact .inl ⟨k, m, hm.sameBut hs (Ne.symm (h1 k)), e⟩
  · exact .inr ⟨k, c, hc, e.sameBut hs (h2 c hc)⟩

theorem sameBut_ext {mu : Addr → Prop} {s : Shared} {h' : Heap} {a : Addr} {tk : Nat} (hs : Heap.SameBut a s.heap h') (ha : mu a) (ht : s.toks ≤ tk := by first | exact Nat.le_refl _ | omega) : Ext mu s { s with heap := h', toks := tk } :=
  Ext.of_heap (fun b o nb e => hs.extBut b o (fun q => nb (q ▸ ha)) e) ht

/-- the place of a slot's name -/
noncomputable def placeOf (S : Sx) (C : Cx) (x : Str) (a : Addr) : Prop := (S.scope.names.lookup x = some .local ∧ a = C.env.locals) ∨ (S.scope.names.lookup x = some .cell ∧ C.env.cells.lookup x = some a)
theorem placeOf.mut {S : Sx} {C : Cx} {x : Str} {a : Addr} {oa : Option Addr} (h : placeOf S C x a) : C.mut oa a := by
  rcases h with ⟨_, h⟩ | ⟨_, h⟩
  · exact .inl h
  · exact .inr (.inl ⟨x, h⟩)
theorem Rep.storeAtB {W : Wd} {S : Sx} {C : Cx} {oa : Option Addr} {s : Shared} {σ : St} (R : Rep W S C oa s σ) (hS : SxOk S) (hC : FrS S C) {i : Nat} {x : Str} {r : Value} {v : V} (hx : S.names[i]? = some x) (hr : Rd (C.avd oa) s r v)
    (hk : S.scope.names.lookup x = some .local ∨ S.scope.names.lookup x = some .cell) {A : Around} {Q : Unit → Shared → Prop} {E : Value → Shared → Prop}
    (hQ : ∀ s', Ext (placeOf S C x) s s' → (∀ a o, s.heap.get? a = some o → ∃ o', s'.heap.get? a = some o') → Rep W S C oa s' { σ with ρ := setS σ.ρ i v } → (∀ y r', y ≠ x → Bound C.env s.heap y r' → Bound C.env s'.heap y r') → Bound C.env s'.heap x r → Q () s') : wpAny W.M A (storeName C.env x r) Q E s := by
  have hfn : C.env.scope.kind = .function := by rw [hC.scope]; exact hC.kind
  have hkind : ∀ y, C.env.kindOf y = S.scope.names.lookup y := fun y => by unfold Env.kindOf; rw [hC.scope]
  -- the common end
  have fin : ∀ (a : Addr) (h' : Heap) (tk : Nat), s.toks ≤ tk → Heap.SameBut a s.heap h' → placeOf S C x a → (∃ o, s.heap.get? a = some o) → (∃ o, h'.get? a = some o) → (∃ m, h'.Ns C.env.locals m) → (∀ y c, C.env.cells.lookup y = some c → ∃ v, h'.IsCell c v) →
      (∀ y r', y ≠ x → Bound C.env s.heap y r' → Bound C.env h' y r') → Bound C.env h' x r → Q () { s with heap := h', toks := tk } := by
    intro a h' tk htk hs hm hlive hlive' hns hcells hold hnew
    have hma : C.mut oa a := hm.mut
    have key : ∀ b o, s.heap.get? b = some o → ¬ C.avd oa b → h'.get? b = some o := fun b o e nb => hs.extBut b o (fun q => nb (.inr (q ▸ hma))) e
    have mv : ∀ {r' : Value} {v' : V}, Rd (C.avd oa) s r' v' → Rd (C.avd oa) { s with heap := h', toks := tk } r' v' := fun q => q.move (fun b o nb e => ⟨key b o e nb, nb⟩) htk
    have there : ∀ b o, s.heap.get? b = some o → ∃ o', h'.get? b = some o' := fun b o e => by
      by_cases q : b = a
      · subst q; exact hlive'
      · exact ⟨o, hs.extBut b o q e⟩
    refine hQ _ (sameBut_ext hs hm htk) there ⟨fun b o e => ?_, R.base, fun b hb => ?_, hns, hcells, fun j y u hj hu => ?_, Nat.lt_of_lt_of_le R.tk htk, fun xs hxs => ?_⟩ hold hnew
    · refine hs.extBut b o (fun q => ?_) (R.keep b o e)
      have := R.base a hma
      rw [← q, e] at this; cases this
    · obtain ⟨o, ho⟩ := R.live b hb
      exact there b o ho
    · rcases getS_setS _ _ _ _ _ hu with ⟨q1, q2⟩ | ⟨q1, q2⟩
      · subst q1 q2
        rw [hx] at hj; cases hj
        exact ⟨r, hnew, mv hr⟩
      · obtain ⟨r', hb, hr'⟩ := R.slot j y u hj q2
        exact ⟨r', hold y r' (nodup_ne hS.nodup hj hx (Ne.symm q1)) hb, mv hr'⟩
    · obtain ⟨b, vs, h1, h2, h3, h4, h5⟩ := R.own xs hxs
      have hb : S.own ≠ x := fun q => hS.own (q ▸ List.mem_of_getElem? hx)
      refine ⟨b, vs, h1, hold _ _ hb h2, ?_, h4.move (fun b o nb e => ⟨key b o e nb, nb⟩) htk, h5⟩
      -- the own list is not the place written
      obtain ⟨n, ho⟩ := h3
      refine ⟨n, hs.extBut b _ (fun q => ?_) ho⟩
      subst q
      rcases hm with ⟨_, h⟩ | ⟨_, h⟩
      · obtain ⟨m, hm⟩ := R.ns
        obtain ⟨o, es, ep, ho', hd, _⟩ := hm
        rw [← h, ho] at ho'; cases ho'; cases hd
      · obtain ⟨u, hu⟩ := R.cells x b h
        obtain ⟨o, ho', hd⟩ := hu
        rw [ho] at ho'; cases ho'; cases hd
  rcases hk with hk | hk
  · obtain ⟨m, hm⟩ := R.ns
    refine wpAny_storeName_local ((hkind x).trans hk) hm (fun h' hn' hs' => ?_) (by rw [hfn]; rfl)
    refine fin C.env.locals h' _ (Nat.le_succ _) hs' (.inl ⟨hk, rfl⟩) (let ⟨o, _, _, ho, _⟩ := hm; ⟨o, ho⟩) (let ⟨o, _, _, ho, _⟩ := hn'; ⟨o, ho⟩) ⟨_, hn'⟩ (fun y c hc => ?_) (fun y r' hy hb => ?_) (.inl ⟨(hkind x).trans hk, _, hn', by simp⟩)
    · obtain ⟨u, hu⟩ := R.cells y c hc
      exact ⟨u, hu.sameBut hs' (hC.ne y c hc)⟩
    · rcases hb with ⟨k, m', hm', e⟩ | ⟨k, c, hc, e⟩
      · refine .inl ⟨k, _, hn', ?_⟩
        have : m' = m := by
          obtain ⟨o, es, ep, ho, hd, _, hf⟩ := hm
          obtain ⟨o', es', ep', ho', hd', _, hf'⟩ := hm'
          rw [ho] at ho'; cases ho'
          rw [hd] at hd'; cases hd'
          funext z; rw [← hf z, ← hf' z]
        subst this
        simp [hy, e]
      · exact .inr ⟨k, c, hc, e.sameBut hs' (hC.ne y c hc)⟩
  · obtain ⟨c, hc⟩ := hC.cell x (.inl hk)
    obtain ⟨u, hu⟩ := R.cells x c hc
    refine wpAny_storeName_cell hfn ((hkind x).trans hk) hc hu fun h' hc' hs' => ?_
    have := fin c h' s.toks (Nat.le_refl _) hs' (.inr ⟨hk, hc⟩) (let ⟨o, ho, _⟩ := hu; ⟨o, ho⟩) (let ⟨o, ho, _⟩ := hc'; ⟨o, ho⟩) (let ⟨m, hm⟩ := R.ns; ⟨m, hm.sameBut hs' (Ne.symm (hC.ne x c hc))⟩) (fun y c' hcy => ?_) (fun y r' hy hb => ?_) (.inr ⟨.inl ((hkind x).trans hk), c, hc, hc'⟩)
    · exact this
    · by_cases q : c' = c
      · subst q; exact ⟨_, hc'⟩
      · obtain ⟨u', hu'⟩ := R.cells y c' hcy
        exact ⟨u', hu'.sameBut hs' q⟩
    · refine hb.frame hs' (fun _ => hC.ne x c hc) fun c' hcy q => ?_
      subst q
      exact hy (hC.apart y x c' hcy hc)

theorem Rep.storeAt {W : Wd} {S : Sx} {C : Cx} {oa : Option Addr} {s : Shared} {σ : St} (R : Rep W S C oa s σ) (hS : SxOk S) (hC : FrS S C) {i : Nat} {x : Str} {r : Value} {v : V} (hx : S.names[i]? = some x) (hr : Rd (C.avd oa) s r v)
    (hk : S.scope.names.lookup x = some .local ∨ S.scope.names.lookup x = some .cell) {A : Around} {Q : Unit → Shared → Prop} {E : Value → Shared → Prop}
    (hQ : ∀ s', Ext (placeOf S C x) s s' → (∀ a o, s.heap.get? a = some o → ∃ o', s'.heap.get? a = some o') → Rep W S C oa s' { σ with ρ := setS σ.ρ i v } → Q () s') : wpAny W.M A (storeName C.env x r) Q E s :=
  R.storeAtB hS hC hx hr hk fun s' e t R' _ _ => hQ s' e t R'

theorem Rep.store {W : Wd} {S : Sx} {C : Cx} {oa : Option Addr} {s : Shared} {σ : St} (R : Rep W S C oa s σ) (hS : SxOk S) (hC : FrS S C) {i : Nat} {x : Str} {r : Value} {v : V} (hx : S.names[i]? = some x) (hr : Rd (C.avd oa) s r v)
    (hk : S.scope.names.lookup x = some .local ∨ S.scope.names.lookup x = some .cell) {A : Around} {Q : Unit → Shared → Prop} {E : Value → Shared → Prop}
    (hQ : ∀ s', Ext (C.mut oa) s s' → (∀ a o, s.heap.get? a = some o → ∃ o', s'.heap.get? a = some o') → Rep W S C oa s' { σ with ρ := setS σ.ρ i v } → Q () s') : wpAny W.M A (storeName C.env x r) Q E s :=
  R.storeAt hS hC hx hr hk fun s' e t R' => hQ s' (e.mono fun _ _ _ h => h.mut) t R'


end
end Lite
namespace Lite
section
open PySem PySem.Calls PyProof.Rows PySem.W

/-- a target that is a slot -/
noncomputable def GoodT1 (W : Wd) (S : Sx) (t : Env → Value → Sem Unit) (i : Nat) : Prop :=
  ∀ (A : Around) (C : Cx) (oa : Option Addr) (s : Shared) (σ : St) (r : Value) (v : V), FrS S C → Rep W S C oa s σ → Rd (C.avd oa) s r v → ∀ (Q : Unit → Shared → Prop) (E : Value → Shared → Prop),
    (∀ s', Ext (C.mut oa) s s' → (∀ a o, s.heap.get? a = some o → ∃ o', s'.heap.get? a = some o') → Rep W S C oa s' { σ with ρ := setS σ.ρ i v } → Q () s') → wpAny W.M A (t C.env r) Q E s
noncomputable def isSlot (S : Sx) (i : Nat) (x : Str) : Bool := decide (S.names[i]? = some x) && (decide (S.scope.names.lookup x = some .local) || decide (S.scope.names.lookup x = some .cell))
theorem isSlot_ {S : Sx} {i : Nat} {x : Str} (h : isSlot S i x = true) : S.names[i]? = some x ∧ (S.scope.names.lookup x = some .local ∨ S.scope.names.lookup x = some .cell) := by
  simpa [isSlot] using h
theorem tgt_bind {W : Wd} {S : Sx} {x : Str} {i : Nat} (hS : SxOk S) (h : isSlot S i x = true) : GoodT1 W S (fun env => bindName env x) i := by
  intro A C oa s σ r v hC R q Q E hQ
  obtain ⟨h1, h2⟩ := isSlot_ h
  exact wpAny_bindName (R.store hS hC h1 q h2 hQ)
theorem tgt_name {W : Wd} {S : Sx} {x : Str} {i : Nat} {pos : Pos} (hS : SxOk S) (h : isSlot S i x = true) : GoodT1 W S (fun env => assign (.Name x pos) env) i := by
  intro A C oa s σ r v hC R q Q E hQ
  obtain ⟨h1, h2⟩ := isSlot_ h
  exact wpAny_assign_Name (R.store hS hC h1 q h2 hQ)

noncomputable def stores : List Nat → List V → St → Option St
  | [], [], σ => some σ
  | i :: is, v :: vs, σ => stores is vs { σ with ρ := setS σ.ρ i v }
  | _, _, _ => none
inductive Tgts (W : Wd) (S : Sx) : List (Env → Value → Sem Unit) → List Nat → Prop
  | nil : Tgts W S [] []
  | cons {t : Env → Value → Sem Unit} {ts : List (Env → Value → Sem Unit)} {i : Nat} {is : List Nat} : GoodT1 W S t i → Tgts W S ts is → Tgts W S (t :: ts) (i :: is)
theorem Ext.none' (mu : Addr → Prop) (s : Shared) : Ext mu s s := Ext.refl mu s
theorem Rep.mutRd {C : Cx} {oa : Option Addr} {s s' : Shared} {r : Value} {v : V} (q : Rd (C.avd oa) s r v) (e : Ext (C.mut oa) s s') : Rd (C.avd oa) s' r v := q.ext e fun _ h => .inr h
theorem Rep.mutRdAll {C : Cx} {oa : Option Addr} {s s' : Shared} {r : List Value} {v : List V} (q : RdAll (C.avd oa) s r v) (e : Ext (C.mut oa) s s') : RdAll (C.avd oa) s' r v := q.ext e fun _ h => .inr h
theorem assign_good {W : Wd} {S : Sx} {A : Around} {C : Cx} {oa : Option Addr} {E : Value → Shared → Prop} (hC : FrS S C) : ∀ {ts : List (Env → Value → Sem Unit)} {is : List Nat}, Tgts W S ts is → ∀ {rs : List Value} {vs : List V} {s : Shared} {σ σ' : St}, Rep W S C oa s σ → RdAll (C.avd oa) s rs vs → stores is vs σ = some σ' →
    ∀ {Q : Unit → Shared → Prop}, (∀ s', Ext (C.mut oa) s s' → (∀ a o, s.heap.get? a = some o → ∃ o', s'.heap.get? a = some o') → Rep W S C oa s' σ' → Q () s') → wpAny W.M A (assignInOrder (ts.map fun t => t C.env) rs) Q E s
  | _, _, .nil, rs, vs, s, σ, σ', R, q, h, Q, hQ => by
    cases vs with
    | nil =>
      cases q; cases h
      exact wpAny_pure (hQ s (Ext.refl _ _) (fun a o e => ⟨o, e⟩) R)
    | cons => cases h
  | _, _, .cons g gs, rs, vs, s, σ, σ', R, q, h, Q, hQ => by
    cases vs with
    | nil => cases h
    | cons v vs =>
      cases q with
      | cons q1 q2 =>
        simp only [List.map_cons, assignInOrder]
        refine wpAny_bind (wpAny_holding (g A C oa s σ _ v hC R q1 _ _ fun s₁ e₁ t₁ R₁ => ?_))
        exact assign_good hC gs R₁ (Rep.mutRdAll q2 e₁) h fun s₂ e₂ t₂ R₂ => hQ s₂ (e₁.trans' e₂) (fun a o e => let ⟨o', h'⟩ := t₁ a o e; t₂ a o' h') R₂

/-- x = e -/
noncomputable def dSet (i : Nat) (d : St → Option V) (σ : St) : Option (Fl × St) := (d σ).map fun v => (.next, { σ with ρ := setS σ.ρ i v })
theorem st_assign {W : Wd} {k : Nat} {S : Sx} {x : Str} {px pos : Pos} {e : Expr} {d : St → Option V} (i : Nat) (hS : SxOk S) (hx : isSlot S i x = true) (g : GoodE W k S e d)
    (hs : ∀ env, swapsWith e (some (.Name x px)) pos.line env = pure false := by intro _; rfl) : GoodS W k S (.Assign [.Name x px] e pos) (dSet i d) := by
  intro A C oa s σ φ σ' hA hC R h Q E hQ
  unfold dSet at h
  cases h1 : d σ with
  | none => rw [h1] at h; cases h
  | some v =>
    rw [h1] at h; cases h
    refine wpAny_Assign_Name (g A C oa s σ v hA hC R h1 _ _ fun r s₁ e₁ q => ?_) (hs _)
    obtain ⟨k1, k2⟩ := isSlot_ hx
    exact (R.ext e₁).store hS hC k1 q k2 fun s₂ e₂ t₂ R₂ => hQ _ oa s₂ (e₁.weak.trans' e₂) (fun a o h => let ⟨o', h'⟩ := e₁.there a o h; t₂ a o' h') (Old.refl _ _ _) R₂ trivial

/-- x op= e -/
theorem st_aug {W : Wd} {k : Nat} {S : Sx} {x : Str} {px pos : Pos} {e : Expr} {op : Operator} {d : St → Option V} {f : V → V → Option V} (i : Nat) (ho : Op2 W (inplaceOp op) f) (hS : SxOk S) (hx : isSlot S i x = true) (g : GoodE W k S e d)
    (hd' : (x == ("__classdict__" : Str)) = false) : GoodS W k S (.AugAssign (.Name x px) op e pos) (dSet i (d2 f (dVar i) d)) := by
  intro A C oa s σ φ σ' hA hC R h Q E hQ
  unfold dSet at h
  cases h1 : d2 f (dVar i) d σ with
  | none => rw [h1] at h; cases h
  | some v =>
    rw [h1] at h; cases h
    obtain ⟨a, b, h2, h3, h4⟩ := d2_some h1
    obtain ⟨k1, k2⟩ := isSlot_ hx
    obtain ⟨r, hb, hr⟩ := R.slot i x a k1 h2
    refine wpAny_AugAssign_Name (loadName_bound (by rw [hC.scope]; exact hC.kind) hb hd' (g A C oa s σ b hA hC R h3 _ _ fun r₂ s₁ e₁ q => ?_))
    refine ho A _ s₁ r r₂ a b v (hA.mono (Nat.zero_le _)) (R.ext e₁).liveA (R.ext e₁).tk (R.ext e₁).keep (hr.ext e₁ fun _ h => h.elim) q h4 _ _ fun r₃ s₂ e₂ q₃ => ?_
    exact ((R.ext e₁).ext e₂).store hS hC k1 q₃ k2 fun s₃ e₃ t₃ R₃ => hQ _ oa s₃ ((e₁.trans' e₂).weak.trans' e₃) (fun a o h => let ⟨o', h'⟩ := (e₁.trans' e₂).there a o h; t₃ a o' h') (Old.refl _ _ _) R₃ trivial

/-- return e -/
noncomputable def dRet (d : St → Option V) (σ : St) : Option (Fl × St) := (d σ).map fun v => (.ret v, σ)
theorem st_ret {W : Wd} {k : Nat} {S : Sx} {pos : Pos} {e : Expr} {d : St → Option V} (g : GoodE W k S e d) : GoodS W k S (.Return (some e) pos) (dRet d) := by
  intro A C oa s σ φ σ' hA hC R h Q E hQ
  unfold dRet at h
  cases h1 : d σ with
  | none => rw [h1] at h; cases h
  | some v =>
    rw [h1] at h; cases h
    exact wpAny_Return_some (g A C oa s σ v hA hC R h1 _ _ fun r s₁ e₁ q => hQ _ oa s₁ e₁.weak e₁.there (Old.refl _ _ _) (R.ext e₁) q.out)
noncomputable def dRetNone (σ : St) : Option (Fl × St) := some (.ret .none, σ)
theorem st_retNone {W : Wd} {k : Nat} {S : Sx} {pos : Pos} : GoodS W k S (.Return none pos) dRetNone := by
  intro A C oa s σ φ σ' hA hC R h Q E hQ
  cases h
  exact wpAny_Return_none (hQ _ oa s (Ext.refl _ _) (fun a o e => ⟨o, e⟩) (Old.refl _ _ _) R .none)

/-- if -/
noncomputable def dIf (t : St → Option Bool) (D₁ D₂ : Den) (σ : St) : Option (Fl × St) := (t σ).bind fun b => match b with | true => D₁ σ | false => D₂ σ
theorem st_if {W : Wd} {k : Nat} {S : Sx} {pos : Pos} {test : Expr} {body orelse : List Stmt} {t : St → Option Bool} {D₁ D₂ : Den} (gt : GoodT W k S test t) (g₁ : GoodB W k S body D₁) (g₂ : GoodB W k S orelse D₂) :
    GoodS W k S (.If test body orelse pos) (dIf t D₁ D₂) := by
  intro A C oa s σ φ σ' hA hC R h Q E hQ
  unfold dIf at h
  cases h1 : t σ with
  | none => rw [h1] at h; cases h
  | some b =>
    rw [h1] at h
    refine wpAny_If (gt A C oa s σ b hA hC R h1 _ _ fun s₁ e₁ => ?_)
    have fin : ∀ {D : Den} {bd : List Stmt}, GoodB W k S bd D → D σ = some (φ, σ') → wpAny W.M A (execs bd C.env) Q E s₁ := fun g hd =>
      g A C oa s₁ σ φ σ' hA hC (R.ext e₁) hd Q E fun f oa' s₂ e₂ t₂ o₂ R₂ hf => hQ f oa' s₂ (e₁.weak.trans' e₂) (fun a o h => let ⟨o', h'⟩ := e₁.there a o h; t₂ a o' h') (fun a o h => o₂ a o (e₁.heap a o (fun x => x) h)) R₂ hf
    cases b with
    | true => exact fin g₁ h
    | false => exact fin g₂ h

/-- while -/
noncomputable def dWhile (t : St → Option Bool) (B : Den) : Nat → Den
  | 0, _ => none
  | n + 1, σ => (t σ).bind fun b => match b with
    | false => some (.next, σ)
    | true => (B σ).bind fun p => match p.1 with
      | .next => dWhile t B n p.2
      | .cont => dWhile t B n p.2
      | .brk => some (.next, p.2)
      | .ret v => some (.ret v, p.2)
theorem st_while {W : Wd} {k : Nat} {S : Sx} {pos : Pos} {test : Expr} {body : List Stmt} {t : St → Option Bool} {B : Den} (n : Nat) (gt : GoodT W k S test t) (g : GoodB W k S body B) :
    GoodS W k S (.While test body [] pos) (dWhile t B n) := by
  intro A C oa s σ φ σ' hA hC R h Q E hQ
  refine wpAny_While ?_
  have hA' : Room k (A.mark none) := by obtain ⟨a, b, c⟩ := hA; exact ⟨by simp [Around.mark, a], b, c⟩
  refine codeAny_whileLoop (fun n s₁ => ∃ oa₁ σ₁, dWhile t B n σ₁ = some (φ, σ') ∧ Ext (C.mut oa) s s₁ ∧ (∀ a o, s.heap.get? a = some o → ∃ o', s₁.heap.get? a = some o') ∧ Old C oa s oa₁ ∧ Rep W S C oa₁ s₁ σ₁) ?_ n
    ⟨oa, σ, h, Ext.refl _ _, fun a o e => ⟨o, e⟩, Old.refl _ _ _, R⟩
  rintro n s₁ ⟨oa₁, σ₁, hd, e₁, t₁, o₁, R₁⟩
  cases n with
  | zero => cases hd
  | succ n =>
    unfold dWhile at hd
    cases h1 : t σ₁ with
    | none => rw [h1] at hd; cases hd
    | some b =>
      rw [h1] at hd
      refine gt _ C oa₁ s₁ σ₁ b hA' hC R₁ h1 _ _ fun s₂ e₂ => ?_
      have e12 : Ext (C.mut oa) s s₂ := e₁.trans' e₂.weak
      have t12 : ∀ a o, s.heap.get? a = some o → ∃ o', s₂.heap.get? a = some o' := fun a o h => let ⟨o', h'⟩ := t₁ a o h; e₂.there a o' h'
      cases b with
      | false =>
        simp only [Bool.false_eq_true, if_false]
        cases hd
        exact wpAny_execs_nil (hQ _ oa₁ s₂ e12 t12 o₁ (R₁.ext e₂) trivial)
      | true =>
        simp only [if_true]
        simp only [Option.bind_some] at hd
        cases h2 : B σ₁ with
        | none => rw [h2] at hd; cases hd
        | some p =>
          rw [h2] at hd
          obtain ⟨φ₁, σ₂⟩ := p
          refine g _ C oa₁ s₂ σ₁ φ₁ σ₂ hA' hC (R₁.ext e₂) h2 _ _ fun f oa₂ s₃ e₃ t₃ o₃ R₃ hf => ?_
          have e13 : Ext (C.mut oa) s s₃ := e12.trans e₃ fun a o h m => o₁ a o h m
          have t13 : ∀ a o, s.heap.get? a = some o → ∃ o', s₃.heap.get? a = some o' := fun a o h => let ⟨o', h'⟩ := t12 a o h; t₃ a o' h'
          have o13 : Old C oa s oa₂ := o₁.trans t12 o₃
          cases φ₁ with
          | next => (cases f <;> try (exact False.elim hf)); exact ⟨n, Nat.lt_succ_self n, oa₂, σ₂, hd, e13, t13, o13, R₃⟩
          | cont => (cases f <;> try (exact False.elim hf)); exact ⟨n, Nat.lt_succ_self n, oa₂, σ₂, hd, e13, t13, o13, R₃⟩
          | brk => (cases f <;> try (exact False.elim hf)); cases hd; exact hQ _ oa₂ s₃ e13 t13 o13 R₃ trivial
          | ret v => (cases f <;> try (exact False.elim hf)); cases hd; exact hQ _ oa₂ s₃ e13 t13 o13 R₃ hf


end
end Lite
namespace Lite
section
open PySem PySem.Calls PyProof.Rows PySem.W

/-- arguments, items of a display -/
noncomputable def GoodEs (W : Wd) (k : Nat) (S : Sx) (es : List Expr) (d : St → Option (List V)) : Prop :=
  ∀ (A : Around) (C : Cx) (oa : Option Addr) (s : Shared) (σ : St) (vs : List V) (pos : Pos), Room k A → FrS S C → Rep W S C oa s σ → d σ = some vs →
    ∀ (Q : List Value → Shared → Prop) (E : Value → Shared → Prop), (∀ rs s', Ext nobody s s' → RdAll (C.avd oa) s' rs vs → Q rs s') → wpAny W.M A (spliced (backTo pos (starEach es C.env))) Q E s
noncomputable def esNil (_ : St) : Option (List V) := some []
noncomputable def esCons (d : St → Option V) (ds : St → Option (List V)) (σ : St) : Option (List V) := (d σ).bind fun v => (ds σ).map (v :: ·)
theorem es_nil {W : Wd} {k : Nat} {S : Sx} : GoodEs W k S [] esNil := by
  intro A C oa s σ vs pos hA hC R h Q E hQ
  cases h
  exact spliced_nil (hQ [] s (Ext.refl _ _) .nil)
theorem es_cons {W : Wd} {k : Nat} {S : Sx} {e : Expr} {es : List Expr} {d : St → Option V} {ds : St → Option (List V)} (g : GoodE W k S e d) (gs : GoodEs W k S es ds)
    (he : ∀ env, starEach (e :: es) env = (false, eval e env) :: starEach es env := by intro _; rfl) : GoodEs W k S (e :: es) (esCons d ds) := by
  intro A C oa s σ vs pos hA hC R h Q E hQ
  unfold esCons at h
  cases h1 : d σ with
  | none => rw [h1] at h; cases h
  | some v =>
    rw [h1] at h
    cases h2 : ds σ with
    | none => simp [h2] at h
    | some ws =>
      simp [h2] at h
      subst h
      rw [he]
      show wpAny W.M A (spliced ((false, eval e C.env) :: backTo pos (starEach es C.env))) Q E s
      refine spliced_cons (g A C oa s σ v hA hC R h1 _ _ fun r s₁ e₁ q₁ => ?_)
      exact gs A C oa s₁ σ ws pos hA hC (R.ext e₁) h2 _ _ fun rs s₂ e₂ q₂ => hQ _ s₂ (e₁.trans' e₂) (.cons (q₁.ext e₂ fun _ x => x.elim) q₂)
theorem GoodEs.mono {W : Wd} {k k' : Nat} {S : Sx} {es : List Expr} {d : St → Option (List V)} (g : GoodEs W k S es d) (h : k ≤ k') : GoodEs W k' S es d := fun A C oa s σ vs pos hA => g A C oa s σ vs pos (hA.mono h)
theorem GoodE.mono {W : Wd} {k k' : Nat} {S : Sx} {e : Expr} {d : St → Option V} (g : GoodE W k S e d) (h : k ≤ k') : GoodE W k' S e d := fun A C oa s σ v hA => g A C oa s σ v (hA.mono h)

noncomputable def small (l : List V) : Bool := decide (l.length < 1000000)
noncomputable def dTup (ds : St → Option (List V)) (σ : St) : Option V := (ds σ).bind fun l => match small l with | true => some (.tup l) | false => none
theorem good_tup {W : Wd} {k : Nat} {S : Sx} {es : List Expr} {n : Nat} {pos : Pos} {ds : St → Option (List V)} (gs : GoodEs W k S es ds) : GoodE W k S (.Tuple es n pos) (dTup ds) := by
  intro A C oa s σ v hA hC R h Q E hQ
  unfold dTup at h
  cases h1 : ds σ with
  | none => rw [h1] at h; cases h
  | some l =>
    rw [h1] at h
    simp only [Option.bind_some] at h
    cases h2 : small l with
    | false => rw [h2] at h; cases h
    | true =>
      rw [h2] at h; cases h
      rw [arm_eval_Tuple]
      refine wpAny_bind (wpAny_standAt (wpAny_bind (gs A C oa s σ l pos hA hC R h1 _ _ fun rs s₁ e₁ q => ?_)))
      have hl : l.length < 1000000 := by simpa [small] using h2
      have hn := q.length
      refine wpAny_newObj_type (hQ _ _ (e₁.trans' (Ext.pushed s₁ _ s₁.toks)) (rd_newTup (tk := s₁.toks) (R.ext e₁).liveA (by simpa using q))) ?_
      show rs.toArray.size ≤ sizeLine
      rw [sizeLine_eq]; simp; omega

/-- a fresh list -/
noncomputable def GoodN (W : Wd) (k : Nat) (S : Sx) (e : Expr) (d : St → Option (List V)) : Prop :=
  ∀ (A : Around) (C : Cx) (oa : Option Addr) (s : Shared) (σ : St) (xs : List V), Room k A → FrS S C → Rep W S C oa s σ → d σ = some xs →
    ∀ (Q : Value → Shared → Prop) (E : Value → Shared → Prop), (∀ a vs s', Ext nobody s s' → s.heap.get? a = none → s'.heap.PlainList a vs → RdAll (fun b => C.avd oa b ∨ b = a) s' vs.toList xs → Q (.ref a) s') → wpAny W.M A (eval e C.env) Q E s
noncomputable def dN (d : St → Option (List V)) (σ : St) : Option V := (d σ).map .list
theorem GoodN.e {W : Wd} {k : Nat} {S : Sx} {e : Expr} {d : St → Option (List V)} (g : GoodN W k S e d) : GoodE W k S e (dN d) := by
  intro A C oa s σ v hA hC R h Q E hQ
  unfold dN at h
  cases h1 : d σ with
  | none => rw [h1] at h; cases h
  | some l =>
    rw [h1] at h; cases h
    exact g A C oa s σ l hA hC R h1 _ _ fun a vs s' e' hn hl q => hQ _ s' e' (.list hl (R.liveA.none hn) (q.move (fun b o nb hb => ⟨hb, fun x => nb (.inl x)⟩) (Nat.le_refl _)))
theorem Heap.none_size (h : Heap) : h.get? h.objs.size = none := by
  cases e : h.get? h.objs.size with
  | none => rfl
  | some o => exact absurd (Heap.lt_size e) (Nat.lt_irrefl _)
theorem none_of_ext {s s' : Shared} (e : Ext nobody s s') {a : Addr} (h : s'.heap.get? a = none) : s.heap.get? a = none := by
  cases q : s.heap.get? a with
  | none => rfl
  | some o => have := e.heap a o (fun x => x) q; rw [h] at this; cases this
noncomputable def dList (ds : St → Option (List V)) (σ : St) : Option (List V) := (ds σ).bind fun l => match small l with | true => some l | false => none
theorem new_list {W : Wd} {k : Nat} {S : Sx} {es : List Expr} {pos : Pos} {ds : St → Option (List V)} (gs : GoodEs W k S es ds) : GoodN W k S (.List es pos) (dList ds) := by
  intro A C oa s σ v hA hC R h Q E hQ
  unfold dList at h
  cases h1 : ds σ with
  | none => rw [h1] at h; cases h
  | some l =>
    rw [h1] at h
    simp only [Option.bind_some] at h
    cases h2 : small l with
    | false => rw [h2] at h; cases h
    | true =>
      rw [h2] at h; obtain rfl : l = v := Option.some.inj h
      rw [arm_eval_List]
      refine wpAny_bind (wpAny_standAt (wpAny_bind (gs A C oa s σ l pos hA hC R h1 _ _ fun rs s₁ e₁ q => ?_)))
      have hl : l.length < 1000000 := by simpa [small] using h2
      have hn := q.length
      refine wpAny_newObj_type (hQ s₁.heap.objs.size rs.toArray _ (e₁.trans' (Ext.pushed s₁ _ s₁.toks)) (none_of_ext e₁ (Heap.none_size _)) ⟨_, Heap.get?_push_size _ rfl⟩ ?_) ?_
      · refine RdAll.move (s := s₁) (av := C.avd oa) ?_ ?_ (by simpa using q)
        rotate_left
        · exact Nat.le_refl _
        intro b o nb hb
        refine ⟨Heap.get?_push_of_some _ hb, fun x => ?_⟩
        rcases x with x | x
        · exact nb x
        · rw [x] at hb; exact Nat.lt_irrefl _ (Heap.lt_size hb)
      · show rs.toArray.size ≤ sizeLine
        rw [sizeLine_eq]; simp; omega

/-- the own list: made -/
noncomputable def dOwn (d : St → Option (List V)) (σ : St) : Option (Fl × St) := (d σ).map fun l => (.next, { σ with own := some l })
theorem st_own {W : Wd} {k : Nat} {S : Sx} {x : Str} {px pos : Pos} {e : Expr} {d : St → Option (List V)} (hS : SxOk S) (hx : S.own = x) (hk : S.scope.names.lookup x = some .local) (g : GoodN W k S e d)
    (hs : ∀ env, swapsWith e (some (.Name x px)) pos.line env = pure false := by intro _; rfl) : GoodS W k S (.Assign [.Name x px] e pos) (dOwn d) := by
  intro A C oa s σ φ σ' hA hC R h Q E hQ
  unfold dOwn at h
  cases h1 : d σ with
  | none => rw [h1] at h; cases h
  | some xs =>
    rw [h1] at h; cases h
    refine wpAny_Assign_Name (g A C oa s σ xs hA hC R h1 _ _ fun a vs s₁ e₁ hn hl q => ?_) (hs _)
    subst hx
    have hfn : C.env.scope.kind = .function := by rw [hC.scope]; exact hC.kind
    have hkind : ∀ y, C.env.kindOf y = S.scope.names.lookup y := fun y => by unfold Env.kindOf; rw [hC.scope]
    have R₁ := R.ext e₁
    obtain ⟨m, hm⟩ := R₁.ns
    have hna : ¬ C.avd oa a := R.liveA.none hn
    refine wpAny_storeName_local ((hkind _).trans hk) hm (fun h' hn' hs' => ?_) (by rw [hfn]; rfl)
    have haL : a ≠ C.env.locals := fun q => hna (.inr (.inl q))
    have e2 : Ext (C.mut oa) s₁ { s₁ with heap := h', toks := s₁.toks + 1 } := sameBut_ext hs' (.inl rfl)
    have there : ∀ b o, s₁.heap.get? b = some o → ∃ o', h'.get? b = some o' := fun b o e => by
      by_cases q : b = C.env.locals
      · subst q; obtain ⟨o', _, _, ho', _⟩ := hn'; exact ⟨o', ho'⟩
      · exact ⟨o, hs'.extBut b o q e⟩
    have key : ∀ b o, s.heap.get? b = some o → ¬ C.avd oa b → h'.get? b = some o := fun b o e nb => hs'.extBut b o (fun q => nb (.inr (.inl q))) (e₁.heap b o (fun x => x) e)
    have av : ∀ b o, s.heap.get? b = some o → ¬ C.avd oa b → ¬ C.avd (some a) b := fun b o e nb x => by
      rcases x with x | x | x | x
      · exact nb (.inl x)
      · exact nb (.inr (.inl x))
      · exact nb (.inr (.inr (.inl x)))
      · cases x; rw [hn] at e; cases e
    refine hQ _ (some a) _ (e₁.weak.trans' e2) (fun b o e => there b o (e₁.heap b o (fun x => x) e)) (fun b o e x => ?_) ⟨fun b o e => ?_, fun b hb => ?_, fun b hb => ?_, ⟨_, hn'⟩, fun y c hc => ?_, fun j y u hj hu => ?_, Nat.succ_pos _, fun ys hys => ?_⟩ trivial
    · rcases x with x | x | x
      · exact .inl x
      · exact .inr (.inl x)
      · cases x; rw [hn] at e; cases e
    · refine hs'.extBut b o (fun q => ?_) (R₁.keep b o e)
      have := R.base C.env.locals (.inl rfl)
      rw [← q, e] at this; cases this
    · rcases hb with x | x | x
      · exact R.base b (.inl x)
      · exact R.base b (.inr (.inl x))
      · cases x
        cases q : W.hb.get? a with
        | none => rfl
        | some o => have := R.keep a o q; rw [hn] at this; cases this
    · rcases hb with x | x | x | x
      · obtain ⟨o, ho⟩ := R₁.live b (.inl x); exact there b o ho
      · obtain ⟨o, ho⟩ := R₁.live b (.inr (.inl x)); exact there b o ho
      · obtain ⟨o, ho⟩ := R₁.live b (.inr (.inr (.inl x))); exact there b o ho
      · cases x; obtain ⟨n, ho⟩ := hl; exact there a _ ho
    · obtain ⟨u, hu⟩ := R₁.cells y c hc
      exact ⟨u, hu.sameBut hs' (hC.ne y c hc)⟩
    · obtain ⟨r', hb, hr'⟩ := R.slot j y u hj hu
      refine ⟨r', ?_, hr'.move (fun b o nb e => ⟨key b o e nb, av b o e nb⟩) (Nat.le_succ_of_le e₁.tk)⟩
      have hne : y ≠ S.own := fun q => hS.own (q ▸ List.mem_of_getElem? hj)
      have hb₁ := hb.keep (h' := s₁.heap) fun b o e => e₁.heap b o (fun x => x) e
      rcases hb₁ with ⟨k', m', hm', e⟩ | ⟨k', c, hc, e⟩
      · refine .inl ⟨k', _, hn', ?_⟩
        have : m' = m := by
          obtain ⟨o, es, ep, ho, hd, _, hf⟩ := hm
          obtain ⟨o', es', ep', ho', hd', _, hf'⟩ := hm'
          rw [ho] at ho'; cases ho'
          rw [hd] at hd'; cases hd'
          funext z; rw [← hf z, ← hf' z]
        subst this
        simp [hne, e]
      · exact .inr ⟨k', c, hc, e.sameBut hs' (hC.ne y c hc)⟩
    · cases hys
      refine ⟨a, vs, rfl, .inl ⟨(hkind _).trans hk, _, hn', by simp⟩, hl.extBut hs'.extBut haL, q.move (fun b o nb e => ⟨hs'.extBut b o (fun x => nb (.inl (.inr (.inl x)))) e, fun x => ?_⟩) (Nat.le_succ _), fun x => hna (.inl x)⟩
      rcases x with x | x | x | x
      · exact nb (.inl (.inl x))
      · exact nb (.inl (.inr (.inl x)))
      · exact nb (.inl (.inr (.inr (.inl x))))
      · cases x; exact nb (.inr rfl)

/-- the own list: given back -/
noncomputable def dRetOwn (σ : St) : Option (Fl × St) := σ.own.map fun l => (.ret (.list l), σ)
theorem st_retOwn {W : Wd} {k : Nat} {S : Sx} {x : Str} {px pos : Pos} (hx : S.own = x) (hd : (x == ("__debug__" : Str)) = false) (hd' : (x == ("__classdict__" : Str)) = false) : GoodS W k S (.Return (some (.Name x px)) pos) dRetOwn := by
  intro A C oa s σ φ σ' hA hC R h Q E hQ
  unfold dRetOwn at h
  cases h1 : σ.own with
  | none => rw [h1] at h; cases h
  | some xs =>
    rw [h1] at h; cases h
    subst hx
    obtain ⟨a, vs, h2, h3, h4, h5, h6⟩ := R.own xs h1
    refine wpAny_Return_some (wpAny_Name (loadName_bound (by rw [hC.scope]; exact hC.kind) h3 hd' ?_) hd)
    exact hQ _ oa s (Ext.refl _ _) (fun a o e => ⟨o, e⟩) (Old.refl _ _ _) R (.list h4 h6 h5.out)

/-- tuple assignment -/
noncomputable def dTo (is : List Nat) (d : St → Option V) (σ : St) : Option (Fl × St) := (d σ).bind fun v => match v with | .tup l => (stores is l σ).map fun σ' => (.next, σ') | _ => none
noncomputable def dSwap (is : List Nat) (d : St → Option V) (σ : St) : Option (Fl × St) := (d σ).bind fun v => match v with | .tup l => (match l.length == is.length with | true => (stores is l.reverse σ).map fun σ' => (.next, σ') | false => none) | _ => none
theorem stores_length : ∀ {is : List Nat} {l : List V} {σ σ' : St}, stores is l σ = some σ' → is.length = l.length
  | [], [], _, _, _ => rfl
  | _ :: is, _ :: l, _, _, h => by simp only [stores] at h; simp [stores_length h]
  | [], _ :: _, _, _, h => by cases h
  | _ :: _, [], _, _, h => by cases h
theorem Tgts.length {W : Wd} {S : Sx} : ∀ {ts : List (Env → Value → Sem Unit)} {is : List Nat}, Tgts W S ts is → ts.length = is.length
  | _, _, .nil => rfl
  | _, _, .cons _ h => by simp [Tgts.length h]
theorem ext_size {s : Shared} {h' : Heap} (he : Heap.ExtBut s.heap.objs.size s.heap h') : Ext nobody s { s with heap := h' } :=
  Ext.of_heap fun b o _ e => he b o (Nat.ne_of_lt (Heap.lt_size e)) e
theorem RdAll.reverse {av : Addr → Prop} {s : Shared} : ∀ {r : List Value} {v : List V}, RdAll av s r v → RdAll av s r.reverse v.reverse
  | _, _, .nil => .nil
  | _, _, .cons a b => by simp only [List.reverse_cons]; exact (RdAll.reverse b).append (.cons a .nil)
theorem st_to {W : Wd} {k : Nat} {S : Sx} {elts : List Expr} {n : Nat} {tpos pos : Pos} {e : Expr} {d : St → Option V} {ts : List (Env → Value → Sem Unit)} {is : List Nat} (hT : Tgts W S ts is) (g : GoodE W k S e d)
    (ht : ∀ env, (assignEach elts env).map (·.2) = ts.map fun t => t env := by intro _; rfl) (hstar : ∀ env, (assignEach elts env).findIdx? (·.1) = none := by intro _; rfl)
    (hs : ∀ env, swapsWithSole [.Tuple elts n tpos] e pos.line env = pure false := by intro _; rfl) (hw : ∀ env, swappedStores [.Tuple elts n tpos] e env = pure none := by intro _; rfl) : GoodS W k S (.Assign [.Tuple elts n tpos] e pos) (dTo is d) := by
  intro A C oa s σ φ σ' hA hC R h Q E hQ
  unfold dTo at h
  cases h1 : d σ with
  | none => rw [h1] at h; cases h
  | some v =>
    rw [h1] at h
    cases v <;> try (cases h; done)
    rename_i l
    simp only [Option.bind_some] at h
    cases h2 : stores is l σ with
    | none => rw [h2] at h; cases h
    | some σ₁ =>
      rw [h2] at h; cases h
      refine Assign_Tuple (g A C oa s σ _ hA hC R h1 _ _ fun r s₁ e₁ q => ?_) (hs _) (hw _)
      cases q with
      | @tup a vs xs htu na qa =>
        show wpAny _ _ (do standAt tpos; unpack (.ref a) (assignEach elts C.env)) _ _ _
        have hlen : (assignEach elts C.env).length = vs.size := by
          have := congrArg List.length (ht C.env)
          have h3 := qa.length
          simp only [List.length_map, Array.length_toList] at this h3
          rw [this, hT.length, stores_length h2, h3]
        refine wpAny_bind (wpAny_standAt (unpack_tuple hA.handled htu hlen (hstar _) fun h' he => ?_))
        rw [ht]
        have e2 := ext_size he
        exact assign_good hC hT ((R.ext e₁).ext e2) (qa.ext e2 fun _ x => x.elim) h2 fun s₃ e₃ t₃ R₃ =>
          hQ _ oa s₃ ((e₁.trans' e2).weak.trans' e₃) (fun b o e => let ⟨o', h'⟩ := (e₁.trans' e2).there b o e; t₃ b o' h') (Old.refl _ _ _) R₃ trivial
theorem st_swap {W : Wd} {k : Nat} {S : Sx} {elts : List Expr} {n : Nat} {tpos pos : Pos} {e : Expr} {d : St → Option V} (names : List Str) {is : List Nat} (hT : Tgts W S (names.reverse.map fun x env => bindName env x) is) (g : GoodE W k S e d)
    (hw : ∀ env, env.scope = S.scope → swappedStores [.Tuple elts n tpos] e env = pure (some names))
    (hs : ∀ env, swapsWithSole [.Tuple elts n tpos] e pos.line env = pure false := by intro _; rfl) : GoodS W k S (.Assign [.Tuple elts n tpos] e pos) (dSwap is d) := by
  intro A C oa s σ φ σ' hA hC R h Q E hQ
  unfold dSwap at h
  cases h1 : d σ with
  | none => rw [h1] at h; cases h
  | some v =>
    rw [h1] at h
    cases v <;> try (cases h; done)
    rename_i l
    simp only [Option.bind_some] at h
    cases hl : l.length == is.length with
    | false => rw [hl] at h; cases h
    | true =>
    rw [hl] at h
    have hl' : l.length = is.length := by simpa using hl
    cases h2 : stores is l.reverse σ with
    | none => simp [h2] at h
    | some σ₁ =>
      simp [h2] at h
      obtain ⟨rfl, rfl⟩ := h
      refine Assign_Tuple_swapped (g A C oa s σ _ hA hC R h1 _ _ fun r s₁ e₁ q => ?_) (hs _) (hw _ hC.scope)
      cases q with
      | @tup a vs xs htu na qa =>
        have hlen : names.length = vs.size := by
          have h3 := qa.length
          have h4 := hT.length
          simp only [List.length_map, Array.length_toList, List.length_reverse] at h3 h4
          omega
        rw [hlen]
        refine unpackItems_tuple hA.handled htu fun h' he => ?_
        have e2 := ext_size he
        have hts : (names.reverse.map fun n => bindName C.env n) = (names.reverse.map fun x env => bindName env x).map fun t => t C.env := by simp [List.map_map, Function.comp_def]
        rw [hts]
        exact assign_good hC hT ((R.ext e₁).ext e2) ((qa.ext e2 fun _ x => x.elim).reverse) h2 fun s₃ e₃ t₃ R₃ =>
          hQ _ oa s₃ ((e₁.trans' e2).weak.trans' e₃) (fun b o e => let ⟨o', h'⟩ := (e₁.trans' e2).there b o e; t₃ b o' h') (Old.refl _ _ _) R₃ trivial


end
end Lite
namespace Lite
section
open PySem PySem.Calls PyProof.Rows PySem.W

theorem Rd.upd {av av' : Addr → Prop} {s : Shared} {h' : Heap} {r : Value} {v : V} (x : Rd av s r v) (k : ∀ a o, ¬ av a → s.heap.get? a = some o → h'.get? a = some o ∧ ¬ av' a) : Rd av' { s with heap := h' } r v := Rd.move (s' := { s with heap := h' }) k (Nat.le_refl _) x
theorem RdAll.upd {av av' : Addr → Prop} {s : Shared} {h' : Heap} {r : List Value} {v : List V} (x : RdAll av s r v) (k : ∀ a o, ¬ av a → s.heap.get? a = some o → h'.get? a = some o ∧ ¬ av' a) : RdAll av' { s with heap := h' } r v := RdAll.move (s' := { s with heap := h' }) k (Nat.le_refl _) x

/-- the own list: changed -/
theorem Rep.ownUpd {W : Wd} {S : Sx} {C : Cx} {a : Addr} {s : Shared} {σ : St} {xs xs' : List V} {vs vs' : Array Value} {h' : Heap} (R : Rep W S C (some a) s σ) (hC : FrS S C) (hx : σ.own = some xs) (hl : s.heap.PlainList a vs) (hs : Heap.SameBut a s.heap h') (hl' : h'.PlainList a vs')
    (hr : RdAll (C.avd (some a)) s vs'.toList xs') : Rep W S C (some a) { s with heap := h' } { σ with own := some xs' } := by
  have hm : C.mut (some a) a := .inr (.inr rfl)
  have key : ∀ b o, s.heap.get? b = some o → ¬ C.avd (some a) b → h'.get? b = some o := fun b o e nb => hs.extBut b o (fun q => nb (.inr (q ▸ hm))) e
  have there : ∀ b o, s.heap.get? b = some o → ∃ o', h'.get? b = some o' := fun b o e => by
    by_cases q : b = a
    · subst q; obtain ⟨n, ho⟩ := hl'; exact ⟨_, ho⟩
    · exact ⟨o, hs.extBut b o q e⟩
  obtain ⟨nn, hal⟩ := id hl
  have hL : a ≠ C.env.locals := fun q => by
    obtain ⟨m, o, es, ep, ho, hd, _⟩ := R.ns
    rw [← q, hal] at ho; cases ho; cases hd
  have hc : ∀ y c, C.env.cells.lookup y = some c → c ≠ a := fun y c h q => by
    obtain ⟨u, o, ho, hd⟩ := R.cells y c h
    rw [q, hal] at ho; cases ho; cases hd
  have hb : ∀ y r, Bound C.env s.heap y r → Bound C.env h' y r := fun y r b => b.frame hs (fun _ => hL) (hc y)
  refine ⟨fun b o e => ?_, R.base, fun b h => let ⟨o, ho⟩ := R.live b h; there b o ho, let ⟨m, h⟩ := R.ns; ⟨m, h.sameBut hs (Ne.symm hL)⟩, fun y c h => let ⟨u, hu⟩ := R.cells y c h; ⟨u, hu.sameBut hs (hc y c h)⟩, fun j y u hj hu => ?_, R.tk, fun ys hys => ?_⟩
  · refine hs.extBut b o (fun q => ?_) (R.keep b o e)
    have := R.base a hm
    rw [← q, e] at this; cases this
  · obtain ⟨r, h1, h2⟩ := R.slot j y u hj hu
    exact ⟨r, hb y r h1, h2.upd fun b o nb e => ⟨key b o e nb, nb⟩⟩
  · cases hys
    obtain ⟨a', ws, h1, h2, h3, h4, h5⟩ := R.own xs hx
    cases h1
    exact ⟨a, vs', rfl, hb _ _ h2, hl', hr.upd fun b o nb e => ⟨key b o e nb, nb⟩, h5⟩

noncomputable def short (l : List V) : Bool := decide (l.length < 1000000)
/-- own.append(e) -/
noncomputable def dApp (d : St → Option V) (σ : St) : Option (Fl × St) := σ.own.bind fun l => (d σ).bind fun v => match short l with | true => some (.next, { σ with own := some (l ++ [v]) }) | false => none
theorem st_app {W : Wd} {k : Nat} {S : Sx} {x : Str} {p1 apos cpos epos : Pos} {e : Expr} {d : St → Option V} (hx : S.own = x) (g : GoodE W k S e d) (hline : (apos.endLine == cpos.line) = true)
    (hd : (x == ("__debug__" : Str)) = false) (hd' : (x == ("__classdict__" : Str)) = false)
    (hi : S.scope.kind = .function := by rfl) (hsw : ∀ env, swapsWith (.Call (.Attribute (.Name x p1) "append" apos) [e] [] cpos) none epos.line env = pure false := by intro _; rfl)
    (hbase : ∀ env t, attributeBase (.Name x p1) "append" env t = t := by intro _ _; rfl) (htrees : ∀ env, backTo cpos (starEach [e] env) = [(false, eval e env)] := by intro _; rfl) :
    GoodS W k S (.Expr (.Call (.Attribute (.Name x p1) "append" apos) [e] [] cpos) epos) (dApp d) := by
  intro A C oa s σ φ σ' hA hC R h Q E hQ
  unfold dApp at h
  cases h1 : σ.own with
  | none => rw [h1] at h; cases h
  | some xs =>
    rw [h1] at h
    simp only [Option.bind_some] at h
    cases h2 : d σ with
    | none => rw [h2] at h; cases h
    | some v =>
      rw [h2] at h
      simp only [Option.bind_some] at h
      cases h3 : short xs with
      | false => rw [h3] at h; cases h
      | true =>
        rw [h3] at h; cases h
        subst hx
        obtain ⟨a, vs, ho, hb, hl, hr, hno⟩ := R.own xs h1
        subst ho
        have hint : interactive C.env = false := by unfold interactive; rw [hC.scope, hi]; rfl
        refine wpAny_Expr ?_ hint (hsw _)
        refine wpAny_Call_append (hbase _ _) (by rw [htrees]; rfl) hline (htrees _) (wpAny_Name (loadName_bound (by rw [hC.scope]; exact hC.kind) hb hd' ?_) hd)
        obtain ⟨n, hal⟩ := id hl
        refine ⟨a, vs, rfl, ⟨_, n, hal, rfl, rfl, rfl⟩, g A C _ s σ v hA hC R h2 _ _ fun r s₁ e₁ q => ?_⟩
        have hl₁ : s₁.heap.PlainList a vs := hl.at fun o e => e₁.heap a o (fun x => x) e
        have hsz : vs.size ≤ sizeLine := by
          have e1 := hr.length
          have e2 : xs.length < 1000000 := by simpa [short] using h3
          simp only [Array.length_toList] at e1
          rw [sizeLine_eq]; omega
        refine wpAny_list_append_plain hl₁ (fun h' hl' hs' => ?_) hsz
        refine hQ .next (some a) _ (e₁.weak.trans' (Ext.of_heap (tk := s₁.toks) fun b o nb e => hs'.extBut b o (fun q => nb (q ▸ .inr (.inr rfl))) e)) (fun b o e => ?_) (Old.refl _ _ _)
          ((R.ext e₁).ownUpd hC h1 hl₁ hs' hl' (by rw [Array.toList_push]; exact (hr.ext e₁ fun _ x => x.elim).append (.cons q .nil))) trivial
        by_cases q : b = a
        · subst q; obtain ⟨n, ho⟩ := hl'; exact ⟨_, ho⟩
        · exact ⟨o, hs'.extBut b o q (e₁.heap b o (fun x => x) e)⟩

/-- items -/
noncomputable def itemS (l : List Nat) (i : Int) : Option Nat := match decide (0 ≤ i) with
  | true => l[i.toNat]?
  | false => match decide (-(l.length : Int) ≤ i) with
    | true => l[(i + l.length).toNat]?
    | false => none
noncomputable def itemV : V → V → Option V
  | .list l, .int i => match decide (0 ≤ i) && decide (i < 1000000) with | true => l[i.toNat]? | false => none
  | .str l, .int i => match decide (i.natAbs < 1000000) with | true => (itemS l i).map fun c => .str [c] | false => none
  | _, _ => none
theorem itemS_ {x : Str} {i : Int} {c : Nat} (h : itemS x.cps.toList i = some c) : (seqIndex? i x.length).bind (x.cps[·]?) = some c := by
  have hlen : x.cps.toList.length = x.length := by simp [Str.length]
  unfold itemS at h
  unfold seqIndex?
  by_cases h0 : 0 ≤ i
  · simp only [h0, decide_true] at h
    have hlt : i.toNat < x.length := by
      obtain ⟨h1, _⟩ := List.getElem?_eq_some_iff.mp h
      rwa [hlen] at h1
    have e1 : ¬ i < 0 := by omega
    have e2 : 0 ≤ i ∧ i < (x.length : Int) := by omega
    simp [e1, e2]
    simpa using h
  · simp only [h0, decide_false] at h
    by_cases h1 : -(x.cps.toList.length : Int) ≤ i
    · simp only [h1, decide_true] at h
      rw [hlen] at h h1
      have e1 : i < 0 := by omega
      have e2 : 0 ≤ i + (x.length : Int) ∧ i + (x.length : Int) < (x.length : Int) := by omega
      simp [e1, e2]
      simpa using h
    · simp only [h1, decide_false] at h
      cases h
theorem item_V {W : Wd} {A : Around} {av : Addr → Prop} {s : Shared} {value slice : Expr} {r₁ r₂ : Value} {v₁ v₂ v : V} (q₁ : Rd av s r₁ v₁) (q₂ : Rd av s r₂ v₂) (h : itemV v₁ v₂ = some v) (hs : ∀ o i, subscripted slice false o i = operate [o, i] (getItem o i))
    {Q : Value → Shared → Prop} {E : Value → Shared → Prop} (hQ : ∀ r s', Ext nobody s s' → Rd av s' r v → Q r s') : wpAny W.M A (subscriptTail value slice r₁ r₂) Q E s := by
  cases q₁ with
  | @list a vs xs hl na ha =>
    cases q₂ <;> try (cases h; done)
    rename_i i t
    simp only [itemV] at h
    cases hb : decide (0 ≤ i) && decide (i < 1000000) with
    | false => rw [hb] at h; cases h
    | true =>
      rw [hb] at h
      simp only [Bool.and_eq_true, decide_eq_true_eq] at hb
      obtain ⟨y, hy, q⟩ := ha.get h
      exact tail_any hl.isList.typeIs slot_list_getitem.lookup (wpAny_getItem_list hl.isList hb.1 (by omega) (by simpa using hy) (hQ y s (Ext.refl _ _) q)) (hs _ _)
  | str x t =>
    cases q₂ <;> try (cases h; done)
    rename_i i u
    simp only [itemV] at h
    cases hb : decide (i.natAbs < 1000000) with
    | false => rw [hb] at h; cases h
    | true =>
      rw [hb] at h
      simp only [decide_eq_true_eq] at hb
      cases hc : itemS x.cps.toList i with
      | none => simp [hc] at h
      | some c =>
        simp [hc] at h
        subst h
        exact tail_any (typeIs_str s x t) F.slot_str_getitem.lookup (PySem.P.getItem_str (by simp; omega) (itemS_ hc) (hQ _ _ (Ext.toks s _) (.str ⟨#[c]⟩ _))) (hs _ _)
  | _ => cases h
theorem good_item {W : Wd} {k : Nat} {S : Sx} {value slice : Expr} {pos : Pos} {d₁ d₂ : St → Option V} (g₁ : GoodE W k S value d₁) (g₂ : GoodE W k S slice d₂) (hs : ∀ o i, subscripted slice false o i = operate [o, i] (getItem o i) := by intro _ _; rfl) :
    GoodE W k S (.Subscript value slice pos) (d2 itemV d₁ d₂) := by
  intro A C oa s σ v hA hC R hv Q E h
  obtain ⟨a, b, h1, h2, h3⟩ := d2_some hv
  refine Subscript_ (good2 g₁ g₂ hA hC R h1 h2 fun r₁ r₂ s' e R' q₁ q₂ => ?_)
  exact item_V q₁ q₂ h3 hs fun r s'' e' q => h r s'' (e.trans' e') q
/-- own[i] -/
noncomputable def dOwnItem (d : St → Option V) (σ : St) : Option V := σ.own.bind fun l => (d σ).bind fun v => itemV (.list l) v
theorem good_ownItem {W : Wd} {k : Nat} {S : Sx} {x : Str} {px : Pos} {slice : Expr} {pos : Pos} {d : St → Option V} (hx : S.own = x) (g : GoodE W k S slice d) (hd : (x == ("__debug__" : Str)) = false) (hd' : (x == ("__classdict__" : Str)) = false)
    (hs : ∀ o i, subscripted slice false o i = operate [o, i] (getItem o i) := by intro _ _; rfl) : GoodE W k S (.Subscript (.Name x px) slice pos) (dOwnItem d) := by
  intro A C oa s σ v hA hC R hv Q E h
  unfold dOwnItem at hv
  cases h1 : σ.own with
  | none => rw [h1] at hv; cases hv
  | some xs =>
    rw [h1] at hv
    simp only [Option.bind_some] at hv
    cases h2 : d σ with
    | none => rw [h2] at hv; cases hv
    | some u =>
      rw [h2] at hv
      simp only [Option.bind_some] at hv
      subst hx
      obtain ⟨a, vs, ho, hb, hl, hr, hno⟩ := R.own xs h1
      refine Subscript_ (wpAny_Name (loadName_bound (by rw [hC.scope]; exact hC.kind) hb hd' (g A C oa s σ u hA hC R h2 _ _ fun r s₁ e₁ q => ?_)) hd)
      cases q <;> try (cases hv; done)
      rename_i i t
      simp only [itemV] at hv
      cases hb : decide (0 ≤ i) && decide (i < 1000000) with
      | false => rw [hb] at hv; cases hv
      | true =>
        rw [hb] at hv
        simp only [Bool.and_eq_true, decide_eq_true_eq] at hb
        have hl₁ : s₁.heap.PlainList a vs := hl.at fun o e => e₁.heap a o (fun x => x) e
        obtain ⟨y, hy, q⟩ := hr.get hv
        exact tail_any hl₁.isList.typeIs slot_list_getitem.lookup (wpAny_getItem_list hl₁.isList hb.1 (by omega) (by simpa using hy) (h y s₁ e₁ (q.ext e₁ fun _ x => x.elim))) (hs _ _)
/-- own[i] = e -/
noncomputable def dOwnSet (di d : St → Option V) (σ : St) : Option (Fl × St) := (d σ).bind fun v => σ.own.bind fun l => (di σ).bind fun i => match i with
  | .int j => (match decide (0 ≤ j) && decide (j < (l.length : Int)) && short l with | true => some (.next, { σ with own := some (l.set j.toNat v) }) | false => none)
  | _ => none
theorem st_ownSet {W : Wd} {k : Nat} {S : Sx} {x : Str} {px tpos pos : Pos} {i e : Expr} {di d : St → Option V} (hx : S.own = x) (gi : GoodE W k S i di) (g : GoodE W k S e d) (hd : (x == ("__debug__" : Str)) = false) (hd' : (x == ("__classdict__" : Str)) = false)
    (hs : ∀ env, swapsWith e (some (.Subscript (.Name x px) i tpos)) pos.line env = pure false := by intro _; rfl) : GoodS W k S (.Assign [.Subscript (.Name x px) i tpos] e pos) (dOwnSet di d) := by
  intro A C oa s σ φ σ' hA hC R h Q E hQ
  unfold dOwnSet at h
  cases h1 : d σ with
  | none => rw [h1] at h; cases h
  | some v =>
  rw [h1] at h; simp only [Option.bind_some] at h
  cases h2 : σ.own with
  | none => rw [h2] at h; cases h
  | some xs =>
  rw [h2] at h; simp only [Option.bind_some] at h
  cases h3 : di σ with
  | none => rw [h3] at h; cases h
  | some u =>
  rw [h3] at h; simp only [Option.bind_some] at h
  cases u <;> try (cases h; done)
  rename_i j
  simp only at h
  cases hb : decide (0 ≤ j) && decide (j < (xs.length : Int)) && short xs with
  | false => rw [hb] at h; cases h
  | true =>
  rw [hb] at h; cases h
  simp only [Bool.and_eq_true, decide_eq_true_eq, short] at hb
  subst hx
  obtain ⟨a, vs, ho, hbd, hl, hr, hno⟩ := R.own xs h2
  subst ho
  refine wpAny_Assign_Subscript (g A C _ s σ v hA hC R h1 _ _ fun r s₁ e₁ q => ?_) (hs _)
  refine wpAny_Name (loadName_bound (by rw [hC.scope]; exact hC.kind) (hbd.keep fun b o e => e₁.heap b o (fun x => x) e) hd' ?_) hd
  refine gi A C _ s₁ σ _ hA hC (R.ext e₁) h3 _ _ fun r₂ s₂ e₂ q₂ => ?_
  cases q₂ with
  | int _ t =>
  have e12 := e₁.trans' e₂
  have hl₂ : s₂.heap.PlainList a vs := hl.at fun o e => e12.heap a o (fun x => x) e
  obtain ⟨n, hal⟩ := id hl₂
  have hlen := hr.length
  simp only [Array.length_toList] at hlen
  refine PySem.W.ki_setAt hal hb.1.1 (by omega) (by omega) ?_
  have hs' : Heap.SameBut a s₂.heap (s₂.heap.update a (Obj.mapSeq (·.setIfInBounds j.toNat r))) := Heap.SameBut.update ..
  have hl' : (s₂.heap.update a (Obj.mapSeq (·.setIfInBounds j.toNat r))).PlainList a (vs.setIfInBounds j.toNat r) := ⟨n, by
    rw [Heap.get?_update_self _ hal (by simp [Obj.mapSeq, Obj.isFreed])]
    simp [Obj.mapSeq]⟩
  have hrr : RdAll (C.avd (some a)) s₂ (vs.setIfInBounds j.toNat r).toList (xs.set j.toNat v) := by
    rw [Array.toList_setIfInBounds]
    exact (hr.ext e12 fun _ x => x.elim).set _ (q.ext e₂ fun _ x => x.elim)
  refine hQ .next (some a) _ (e12.weak.trans' (Ext.of_heap (tk := s₂.toks) fun b o nb e => hs'.extBut b o (fun q => nb (q ▸ .inr (.inr rfl))) e)) (fun b o e => ?_) (Old.refl _ _ _)
    ((R.ext e12).ownUpd hC h2 hl₂ hs' hl' hrr) trivial
  by_cases q : b = a
  · subst q; obtain ⟨n, ho⟩ := hl'; exact ⟨_, ho⟩
  · exact ⟨o, hs'.extBut b o q (e12.heap b o (fun x => x) e)⟩


end
end Lite
namespace Lite
section
open PySem PySem.Calls PyProof.Rows PySem.W

/-- slices -/
noncomputable def cutS (l : List Nat) : Option Int → Option Int → Option (List Nat)
  | none, none => some l
  | some i, none => match decide (0 ≤ i) && decide (i ≤ (l.length : Int)) with | true => some (l.drop i.toNat) | false => none
  | none, some j => match decide (0 ≤ j) with
    | true => (match decide (j ≤ (l.length : Int)) with | true => some (l.take j.toNat) | false => none)
    | false => (match decide (-(l.length : Int) ≤ j) with | true => some (l.take (j + l.length).toNat) | false => none)
  | _, _ => none
theorem txt_slice (x : Str) (l u : Option Int) : Txt.slice x l u = StrLaws.sliceText x l u := rfl
theorem cutS_ {x : Str} {lo hi : Option Int} {r : List Nat} (h : cutS x.cps.toList lo hi = some r) : (Txt.slice x lo hi).cps.toList = r := by
  have hlen : x.cps.toList.length = x.length := by simp [Str.length]
  rw [txt_slice]
  cases lo with
  | none =>
    cases hi with
    | none =>
      cases h
      have e : StrLaws.sliceText x none none = StrLaws.sliceText x (some 0) none := by unfold StrLaws.sliceText; rw [StrLaws.sliceIdx_none_lo]
      rw [e, StrLaws.sliceText_from ⟨by omega, by omega⟩]
      simp
      exact List.take_of_length_le (by simp)
    | some j =>
      simp only [cutS] at h
      by_cases h0 : 0 ≤ j
      · simp only [h0, decide_true] at h
        by_cases h1 : j ≤ (x.cps.toList.length : Int)
        · simp only [h1, decide_true] at h
          cases h
          rw [StrLaws.sliceText_to ⟨h0, h1⟩]
          simp
        · simp only [h1, decide_false] at h; cases h
      · simp only [h0, decide_false] at h
        by_cases h1 : -(x.cps.toList.length : Int) ≤ j
        · simp only [h1, decide_true] at h
          cases h
          rw [StrLaws.sliceText_to_neg (by omega) (by rw [← hlen]; exact h1)]
          simp [hlen]
        · simp only [h1, decide_false] at h; cases h
  | some i =>
    cases hi with
    | none =>
      simp only [cutS] at h
      cases hb : decide (0 ≤ i) && decide (i ≤ (x.cps.toList.length : Int)) with
      | false => rw [hb] at h; cases h
      | true =>
        rw [hb] at h; cases h
        simp only [Bool.and_eq_true, decide_eq_true_eq] at hb
        rw [StrLaws.sliceText_from hb]
        have e : ((x.cps.toList.length : Int) - i).toNat = (x.cps.toList.drop i.toNat).length := by simp; omega
        rw [e, List.take_length]
    | some j => cases h
noncomputable def cutL (l : List V) : Option Int → Option Int → Option (List V)
  | some i, none => match decide (0 ≤ i) && decide (i ≤ (l.length : Int)) with | true => some (l.drop i.toNat) | false => none
  | none, some j => match decide (0 ≤ j) with | true => some (l.take j.toNat) | false => none
  | _, _ => none
theorem pick_to (items : Array Value) (b : Nat) : slicePick items none (some (b : Int)) none = (items.toList.take b).toArray := by
  by_cases hb : b ≤ items.size
  · exact slicePick_upto items b hb
  · have e : slicePick items none (some (b : Int)) none = slicePick items none (some (items.size : Int)) none := by
      unfold slicePick
      have : sliceBounds none (some (b : Int)) none items.size = sliceBounds none (some (items.size : Int)) none items.size := by
        simp only [sliceBounds, Option.getD_none]
        have h2 : ¬ ((b : Int) < 0) := by omega
        have h3 : ¬ ((items.size : Int) < 0) := by omega
        simp only [h2, h3, if_false, show (1 : Int) > 0 by decide, if_true]
        congr 2; omega
      rw [this]
    rw [e, slicePick_upto items items.size (Nat.le_refl _)]
    rw [List.take_of_length_le (by simp), List.take_of_length_le (by simp; omega)]
theorem cutL_ {av : Addr → Prop} {s : Shared} {items : Array Value} {l r : List V} {lo hi : Option Int} (q : RdAll av s items.toList l) (h : cutL l lo hi = some r) : RdAll av s (slicePick items lo hi none).toList r := by
  have hlen := q.length
  simp only [Array.length_toList] at hlen
  cases lo with
  | none =>
    cases hi with
    | none => cases h
    | some j =>
      simp only [cutL] at h
      by_cases h0 : 0 ≤ j
      · simp only [h0, decide_true] at h
        cases h
        obtain ⟨b, rfl⟩ := Int.eq_ofNat_of_zero_le h0
        rw [pick_to]
        simpa using q.take b
      · simp only [h0, decide_false] at h; cases h
  | some i =>
    cases hi with
    | some j => cases h
    | none =>
      simp only [cutL] at h
      cases hb : decide (0 ≤ i) && decide (i ≤ (l.length : Int)) with
      | false => rw [hb] at h; cases h
      | true =>
        rw [hb] at h; cases h
        simp only [Bool.and_eq_true, decide_eq_true_eq] at hb
        obtain ⟨b, rfl⟩ := Int.eq_ofNat_of_zero_le hb.1
        rw [slicePick_from _ _ (by omega)]
        simpa using q.drop b
noncomputable def partV : V → Option (Option Int)
  | .none => some none
  | .int i => some (some i)
  | _ => none
noncomputable def cutV (v : V) (lo hi : Option Int) : Option V := match v with
  | .list l => (match short l with | true => (cutL l lo hi).map .list | false => none)
  | .str l => (match decide (l.length < 1000000) with | true => (cutS l lo hi).map .str | false => none)
  | _ => none
theorem part_of {av : Addr → Prop} {s : Shared} {r : Value} {v : V} {p : Option Int} (q : Rd av s r v) (h : partV v = some p) : IsPart r p := by
  cases q <;> cases h
  · exact .none
  · exact .int _ _
theorem cut_V {W : Wd} {A : Around} {av : Addr → Prop} {s : Shared} {value slice : Expr} {r vl vu : Value} {lo hi : Option Int} {v u : V} (hL : Live av s) (q : Rd av s r v) (pl : IsPart vl lo) (pu : IsPart vu hi) (h : cutV v lo hi = some u)
    (hs : ∀ o i, subscripted slice false o i = operate [i, o] (getItem o i)) {Q : Value → Shared → Prop} {E : Value → Shared → Prop} (hQ : ∀ r s', Ext nobody s s' → Rd av s' r u → Q r s') :
    wpAny W.M A (subscriptTail value slice r (.ref s.heap.objs.size)) Q E { s with heap := s.heap.push { cls := .type "slice", data := .fields #[vl, vu, .none] } } := by
  cases q with
  | @list a vs xs hl na ha =>
    simp only [cutV] at h
    cases hb : short xs with
    | false => rw [hb] at h; cases h
    | true =>
    rw [hb] at h
    cases hc : cutL xs lo hi with
    | none => simp [hc] at h
    | some ys =>
      simp [hc] at h
      subst h
      have hsz : vs.size ≤ sizeLine := by
        have e1 := ha.length
        have e2 : xs.length < 1000000 := by simpa [short] using hb
        simp only [Array.length_toList] at e1
        rw [sizeLine_eq]; omega
      let s₁ : Shared := { s with heap := s.heap.push { cls := .type "slice", data := .fields #[vl, vu, .none] } }
      have e1 : Ext nobody s s₁ := Ext.pushed s _ s.toks
      have hl₁ : s₁.heap.IsList a vs := (hl.at fun o e => Heap.get?_push_of_some _ e).isList
      refine tail_any (T := "list") hl₁.typeIs slot_list_getitem.lookup ?_ (hs _ _)
      refine wpAny_getItem_list_slice (s := s₁) (vl := vl) (vu := vu) (vs := .none) (lo := lo) (hi := hi) (st := none) hl₁ (Heap.IsSliceOf.new ..) pl pu .none (by simp) ?_ hsz
      refine hQ _ _ (e1.trans' (Ext.pushed s₁ _ s₁.toks)) (rd_newList (tk := s₁.toks) (hL.ext e1) (cutL_ (ha.ext e1 fun _ x => x.elim) hc))
  | str x t =>
    simp only [cutV] at h
    cases hb : decide (x.cps.toList.length < 1000000) with
    | false => rw [hb] at h; cases h
    | true =>
    rw [hb] at h
    cases hc : cutS x.cps.toList lo hi with
    | none => simp [hc] at h
    | some ys =>
      simp [hc] at h
      subst h
      have hsz : x.length ≤ sizeLine := by
        have e2 : x.cps.toList.length < 1000000 := by simpa using hb
        have e3 : x.cps.toList.length = x.length := by simp [Str.length]
        rw [sizeLine_eq]; omega
      have hk : KeptH (fun h => ∀ b o, s.heap.get? b = some o → h.get? b = some o) := fun h ob p b o e => Heap.get?_push_of_some _ (p b o e)
      have e1 : s.toks ≤ ({ s with heap := s.heap.push { cls := .type "slice", data := .fields #[vl, vu, .none] } } : Shared).toks := Nat.le_refl _
      refine wpAny_with_toks e1 ?_
      have fin : ∀ h' t' k, (∀ b o, s.heap.get? b = some o → h'.get? b = some o) → s.toks ≤ k → Q (.str (Txt.slice x lo hi) t') { s with heap := h', toks := k } := fun h' t' k hp hk => by
        refine hQ _ _ (Ext.of_heap (fun b o _ e => hp b o e) hk) ?_
        rw [← cutS_ hc]; exact .str _ _
      cases pl with
      | none =>
        cases pu with
        | none => exact tail_of_ItemOn' (SBH.sliceItem_nn hk (fun _ _ e => e) (fun h' t' k hp htk => fin h' t' k hp htk) hsz) (hs _ _)
        | int j uj => exact tail_of_ItemOn' (SBH.sliceItem_ns hk (fun _ _ e => e) (fun h' t' k hp htk => fin h' t' k hp htk) hsz) (hs _ _)
      | int i ui =>
        cases pu with
        | none => exact tail_of_ItemOn' (SBH.sliceItem_sn hk (fun _ _ e => e) (fun h' t' k hp htk => fin h' t' k hp htk) hsz) (hs _ _)
        | int j uj => exact tail_of_ItemOn' (SBH.sliceItem_ss hk (fun _ _ e => e) (fun h' t' k hp htk => fin h' t' k hp htk) hsz) (hs _ _)
  | _ => cases h
where
  tail_of_ItemOn' {prog : Program} {w : World} {A : Around} {E : Value → Shared → Prop} {s : Shared} {value slice : Expr} {o i : Value} {ops : List Value} {Q : Value → Shared → Prop} (h : ItemOn (model prog w) A E o i Q s)
    (hs : subscripted slice false o i = operate ops (getItem o i)) : wpAny (model prog w) A (subscriptTail value slice o i) Q E s := by
    obtain ⟨T, id, hl, hT, hg⟩ := h
    exact tail_any hT hl hg hs

noncomputable def dCut (v : St → Option V) (lo hi : St → Option V) (σ : St) : Option V := (v σ).bind fun a => (lo σ).bind fun b => (hi σ).bind fun c => (partV b).bind fun p => (partV c).bind fun q => cutV a p q
theorem good_cut {W : Wd} {k : Nat} {S : Sx} {value : Expr} {lower upper : Option Expr} {spos pos : Pos} {d dl du : St → Option V} (g : GoodE W k S value d)
    (gl : match lower with | some e => GoodE W k S e dl | none => dl = dConst .none) (gu : match upper with | some e => GoodE W k S e du | none => du = dConst .none) : GoodE W k S (.Subscript value (.Slice lower upper none spos) pos) (dCut d dl du) := by
  intro A C oa s σ v hA hC R hv Q E h
  unfold dCut at hv
  cases h1 : d σ with
  | none => rw [h1] at hv; cases hv
  | some a =>
  cases h2 : dl σ with
  | none => simp [h1, h2] at hv
  | some b =>
  cases h3 : du σ with
  | none => simp [h1, h2, h3] at hv
  | some c =>
  cases h4 : partV b with
  | none => simp [h1, h2, h3, h4] at hv
  | some p =>
  cases h5 : partV c with
  | none => simp [h1, h2, h3, h4, h5] at hv
  | some q =>
  simp [h1, h2, h3, h4, h5] at hv
  have part : ∀ {e : Option Expr} {de : St → Option V} {u : V} {s₁ : Shared}, (match e with | some e => GoodE W k S e de | none => de = dConst .none) → Rep W S C oa s₁ σ → de σ = some u → ∀ (Q' : Value → Shared → Prop),
      (∀ r s', Ext nobody s₁ s' → Rd (C.avd oa) s' r u → Q' r s') → wpAny W.M A (valueOrNone (evalOpt e C.env)) Q' E s₁ := by
    intro e de u s₁ ge R₁ hd Q' hq
    cases e with
    | none =>
      subst ge
      cases hd
      exact wpAny_pure (hq _ _ (Ext.refl _ _) .none)
    | some e => exact ge A C oa s₁ σ u hA hC R₁ hd _ _ hq
  refine Subscript_ (g A C oa s σ a hA hC R h1 _ _ fun r s₁ e₁ q₁ => ?_)
  show wpAny _ _ (do
    let l ← valueOrNone (evalOpt lower C.env)
    let u ← holding [l] (valueOrNone (evalOpt upper C.env))
    let s ← holding [l, u] (valueOrNone (evalOpt none C.env))
    newFields "slice" [l, u, s]) _ _ _
  refine wpAny_bind (part gl (R.ext e₁) h2 _ fun r₂ s₂ e₂ q₂ => wpAny_bind (wpAny_holding (part gu ((R.ext e₁).ext e₂) h3 _ fun r₃ s₃ e₃ q₃ => wpAny_bind (wpAny_holding (wpAny_pure ?_)))))
  refine wpAny_newObj_type ?_
  have e13 := (e₁.trans' e₂).trans' e₃
  have e23 := e₂.trans' e₃
  exact cut_V (R.ext e13).liveA (q₁.ext e23 fun _ x => x.elim) (part_of q₂ h4) (part_of q₃ h5) hv (fun _ _ => rfl) fun r' s' e' q' => h r' s' (e13.trans' e') q'


end
end Lite
namespace Lite
section
open PySem PySem.Calls PyProof.Rows PySem.W

/-- global names -/
noncomputable def isGlob (S : Sx) (x : Str) : Bool := decide (S.scope.names.lookup x = some .globalImplicit) && !(x == ("__debug__" : Str))
theorem glob_name {W : Wd} {S : Sx} {C : Cx} {oa : Option Addr} {s : Shared} {σ : St} {A : Around} {x : Str} {pos : Pos} {v : Value} {Q : Value → Shared → Prop} {E : Value → Shared → Prop} (hW : W.Ok) (hC : FrS S C) (R : Rep W S C oa s σ) (hx : isGlob S x = true)
    (hv : W.mg x = some v ∨ (W.mg x = none ∧ W.mb x = some v)) (h : Q v s) : wpAny W.M A (eval (.Name x pos) C.env) Q E s := by
  simp only [isGlob, Bool.and_eq_true, decide_eq_true_eq, Bool.not_eq_true'] at hx
  have hk : C.env.scope.kind = .function := by rw [hC.scope]; exact hC.kind
  have hx' : C.env.kindOf x = some .globalImplicit := by unfold Env.kindOf; rw [hC.scope]; exact hx.1
  refine Name_function_global hk hx' ?_ hx.2
  have hg : s.heap.Ns C.env.globals W.mg := by rw [hC.globals]; exact ns_at hW.g fun o e => R.keep _ o e
  have hb : s.heap.Ns C.env.builtins W.mb := by rw [hC.builtins]; exact ns_at hW.b fun o e => R.keep _ o e
  rcases hv with hv | ⟨h1, h2⟩
  · exact loadGlobal_global hg hv h
  · exact loadGlobal_builtin hg h1 hb h2 h
noncomputable def GInt (W : Wd) (x : Str) (i : Int) : Prop := ∃ t, W.mg x = some (.int i t)
theorem good_gint {W : Wd} {k : Nat} {S : Sx} {x : Str} {pos : Pos} {i : Int} (hW : W.Ok) (hi : GInt W x i) (hx : isGlob S x = true) : GoodE W k S (.Name x pos) (dConst (.int i)) := by
  intro A C oa s σ v hA hC R hv Q E h
  cases hv
  obtain ⟨t, ht⟩ := hi
  exact glob_name hW hC R hx (.inl ht) (h _ s (Ext.refl _ _) (.int _ _))

/-- a def that answers by d -/
noncomputable def FnOk (W : Wd) (k : Nat) (name : Str) (d : List V → Option V) : Prop :=
  ∃ a, W.mg name = some (.ref a) ∧ (∃ o fd, W.hb.get? a = some o ∧ o.data = .func fd) ∧
    ∀ (A : Around) (av : Addr → Prop) (s : Shared) (rs : List Value) (vs : List V) (v : V), Room k A → Live av s → (∀ b o, W.hb.get? b = some o → s.heap.get? b = some o) → RdAll av s rs vs → d vs = some v →
      ∀ (R : Result → Shared → Prop), (∀ r s', Ext nobody s s' → Rd av s' r v → R (.ok (.ret r)) s') → codeAny W.M A (.call (.ref a) ⟨rs, []⟩) R s
noncomputable def dCall (d : List V → Option V) (ds : St → Option (List V)) (σ : St) : Option V := (ds σ).bind d
theorem good_call {W : Wd} {k k' : Nat} {S : Sx} {f : Str} {np pos : Pos} {e : Expr} {es : List Expr} {d : List V → Option V} {ds : St → Option (List V)} (hW : W.Ok) (hf : FnOk W k f d) (hk : k ≤ k') (hx : isGlob S f = true) (gs : GoodEs W k' S (e :: es) ds)
    (he : ∀ env, starEach (e :: es) env = (false, eval e env) :: starEach es env := by intro _; rfl) (hp : ∀ env, (backTo pos (starEach (e :: es) env)).any (·.1) = false := by intro _; rfl) : GoodE W k' S (.Call (.Name f np) (e :: es) [] pos) (dCall d ds) := by
  intro A C oa s σ v hA hC R hv Q E h
  unfold dCall at hv
  cases h1 : ds σ with
  | none => rw [h1] at hv; cases hv
  | some vs =>
    rw [h1] at hv
    obtain ⟨a, ha, ⟨o, fd, ho, hd⟩, hcall⟩ := hf
    refine wpAny_Call_NameR (glob_name hW hC R hx (.inl ha) (callWith_function (o := o) (fd := fd) ?_))
    have hsp := gs A C oa s σ vs pos hA hC R h1 (fun rs s' => (s'.heap.get? a = some o ∧ o.data = .func fd) ∧ wpAny W.M A (call (.ref a) ([] ++ rs) []) Q E s') E
      fun rs s' e' q => ⟨⟨e'.heap a o (fun x => x) (R.keep a o ho), hd⟩, wpAny_call (hcall A _ s' rs vs v (hA.mono hk) (R.ext e').liveA (R.ext e').keep q hv _ fun r s'' e'' q' => h r s'' (e'.trans' e'') q')⟩
    rw [he] at hsp ⊢
    exact evalArgs_plain hsp

/-- a call's frame -/
theorem cells_lookup_some : ∀ (names : List (Str × NameKind)) (n : Nat) (acc : List (Str × Addr)) (x : Str), names.lookup x = some .cell → ∃ c, (cellsFrom n names acc).lookup x = some c
  | [], _, _, _, h => by cases h
  | (y, k) :: r, n, acc, x, h => by
    have mono : ∀ (r : List (Str × NameKind)) (n : Nat) (acc : List (Str × Addr)), (∃ c, acc.lookup x = some c) → ∃ c, (cellsFrom n r acc).lookup x = some c := by
      intro r
      induction r with
      | nil => exact fun _ _ h => h
      | cons p r ih =>
        intro n acc h
        obtain ⟨y, k⟩ := p
        unfold cellsFrom
        split
        · refine ih _ _ ?_
          rw [List.lookup_cons]
          split
          · exact ⟨_, rfl⟩
          · exact h
        · exact ih _ _ h
    rw [List.lookup_cons] at h
    unfold cellsFrom
    cases hxy : x == y with
    | true =>
      rw [hxy] at h
      cases h
      simp only [beq_self_eq_true, if_true]
      refine mono r _ _ ⟨n, ?_⟩
      rw [List.lookup_cons, hxy]
    | false =>
      rw [hxy] at h
      split
      · exact cells_lookup_some r _ _ x h
      · exact cells_lookup_some r _ _ x h
theorem bindL_other {kindOf : Str → Option NameKind} : ∀ (binds : List (Str × Value)) (m : Str → Option Value) (x : Str), x ∉ binds.map (·.1) → bindL kindOf binds m x = m x
  | [], _, _, _ => rfl
  | (n, v) :: r, m, x, h => by
    unfold bindL
    simp only [List.map_cons, List.mem_cons, not_or] at h
    rw [bindL_other r _ x h.2]
    split
    · simp [h.1]
    · rfl
theorem bindC_other {kindOf : Str → Option NameKind} : ∀ (binds : List (Str × Value)) (m : Str → Option Value) (x : Str), x ∉ binds.map (·.1) → bindC kindOf binds m x = m x
  | [], _, _, _ => rfl
  | (n, v) :: r, m, x, h => by
    unfold bindC
    simp only [List.map_cons, List.mem_cons, not_or] at h
    rw [bindC_other r _ x h.2]
    split
    · rfl
    · simp [h.1]
theorem bindL_get {kindOf : Str → Option NameKind} {x : Str} {v : Value} (hk : kindOf x = some .local) : ∀ (binds : List (Str × Value)) (m : Str → Option Value), (binds.map (·.1)).Nodup → (x, v) ∈ binds → bindL kindOf binds m x = some v
  | [], _, _, h => nomatch h
  | (n, w) :: r, m, hn, h => by
    unfold bindL
    simp only [List.map_cons, List.nodup_cons] at hn
    rcases List.mem_cons.mp h with h | h
    · cases h
      rw [bindL_other r _ x hn.1, if_pos hk]; simp
    · exact bindL_get hk r _ hn.2 h
theorem bindC_get {kindOf : Str → Option NameKind} {x : Str} {v : Value} (hk : kindOf x = some .cell) : ∀ (binds : List (Str × Value)) (m : Str → Option Value), (binds.map (·.1)).Nodup → (x, v) ∈ binds → bindC kindOf binds m x = some v
  | [], _, _, h => nomatch h
  | (n, w) :: r, m, hn, h => by
    unfold bindC
    simp only [List.map_cons, List.nodup_cons] at hn
    rcases List.mem_cons.mp h with h | h
    · cases h
      rw [bindC_other r _ x hn.1, if_neg (by rw [hk]; decide)]; simp
    · exact bindC_get hk r _ hn.2 h
noncomputable def blank : Nat → List (Option V)
  | 0 => []
  | n + 1 => none :: blank n
noncomputable def slotsOf : List V → Nat → List (Option V)
  | [], n => blank n
  | v :: r, n => some v :: slotsOf r n
theorem getS_blank : ∀ (n i : Nat), getS (blank n) i = none
  | 0, _ => rfl
  | _ + 1, 0 => rfl
  | n + 1, i + 1 => getS_blank n i
theorem getS_slots : ∀ (vs : List V) (n i : Nat) (v : V), getS (slotsOf vs n) i = some v → vs[i]? = some v
  | [], n, i, v, h => by rw [slotsOf, getS_blank] at h; cases h
  | w :: r, n, 0, v, h => by simpa [slotsOf, getS] using h
  | w :: r, n, i + 1, v, h => by
    simp only [slotsOf, getS] at h
    simpa using getS_slots r n i v h

/-- a call's frame, whose first bind draws a token -/
theorem env_local {M : Model} {A : Around} {E : Value → Shared → Prop} {s : Shared} {scope : Scope} {globals : Addr} {n : Str} {v : Value} {binds : List (Str × Value)} {qual : Str} {func : Option Addr} {code : Value} {builtins : Addr} {Q : Env → Shared → Prop}
    (hk : scope.kind = .function) (hl : scope.names.lookup n = some .local) (hkind : ∀ x ∈ binds, scope.names.lookup x.1 = some .local)
    (hQ : ∀ env, env = newEnv scope s.heap.objs.size globals (cellsFrom (s.heap.objs.size + 1) scope.names []) qual func code none builtins →
      ∀ s', InCallC s env.locals (bindL env.kindOf ((n, v) :: binds) fun _ => none) env.cells (bindC env.kindOf ((n, v) :: binds) fun _ => none) s' → s.toks + 1 ≤ s'.toks → Q env s') :
    wpAny M A (newFunctionEnv scope globals [] ((n, v) :: binds) qual func code none builtins) Q E s := by
  simp only [newFunctionEnv, Option.isSome_none, Bool.false_eq_true, if_false]
  refine wpAny_bind (wpAny_alloc ?_)
  refine wpAny_bind (wpAny_layCells _ (fun name kind cells => by cases hkc : kind == NameKind.cell <;> simp [hkc]) _ _ _ _ ?_)
  have ok := cellsFrom_ok scope.names (s.heap.push { cls := .type "frame", data := .dict #[] }) (s.heap.objs.size + 1) [] ⟨fun _ _ hm => (nomatch hm), List.Pairwise.nil⟩ (by rw [Heap.size_push]; exact Nat.le_refl _)
  rw [Heap.size_push] at ok
  rw [show ({ s with heap := s.heap.push { cls := .type "frame", data := .dict #[] } } : Shared).heap.objs.size = s.heap.objs.size + 1 from Heap.size_push ..]
  generalize hH : pushCells ({ s with heap := s.heap.push { cls := .type "frame", data := .dict #[] } } : Shared).heap scope.names = H at *
  have hkeep : ∀ b o, s.heap.get? b = some o → H.get? b = some o := fun b o e => by rw [← hH]; exact pushCells_keeps _ _ b o (Heap.get?_push_of_some _ e)
  have hns : H.Ns s.heap.objs.size (fun _ => none) := by rw [← hH]; exact (Heap.Ns.new s.heap (.type "frame")).keeps (pushCells_keeps _ _)
  refine wpAny_bind ?_
  rw [List.forIn_cons]
  refine wpAny_bind (wpAny_bind (wpAny_storeName_local (env := newEnv scope s.heap.objs.size globals (cellsFrom (s.heap.objs.size + 1) scope.names []) qual func code none builtins) hl hns (fun h' hn' hs' => wpAny_pure ?_) (by show (scope.kind == .class || (scope.kind == .module && _)) = false; rw [hk]; rfl)))
  have x : InCallC s s.heap.objs.size (fun y => if y = n then some v else none) (cellsFrom (s.heap.objs.size + 1) scope.names []) (fun _ => none) { s with heap := h', toks := s.toks + 1 } :=
    ⟨⟨⟨h', _, rfl⟩, hn', fun b o e => hs'.extBut b o (Nat.ne_of_lt (Heap.lt_size e)) (hkeep b o e), Nat.le_refl _⟩, fun k c hc => (ok.empty k c (mem_of_lookup hc)).1.sameBut hs' (fun e => by
      have := (ok.empty k c (mem_of_lookup hc)).2
      rw [e] at this; exact Nat.not_succ_le_self _ this), ok.apart, fun k c hm => (ok.empty k c hm).2⟩
  refine wpAny_with_toks (n := s.toks + 1) (Nat.le_refl _) (wpAny_bindParams (s₀ := s) (env := newEnv scope s.heap.objs.size globals (cellsFrom (s.heap.objs.size + 1) scope.names []) qual func code none builtins) _ (fun _ _ _ => rfl) hk binds _ _ _ _ x (fun y hy => .inl (hkind y hy)) fun s' x' htk => wpAny_pure (hQ _ rfl s' ?_ htk))
  have hl' : (newEnv scope s.heap.objs.size globals (cellsFrom (s.heap.objs.size + 1) scope.names []) qual func code none builtins).kindOf n = some .local := hl
  unfold bindL bindC
  rw [if_pos hl', if_pos hl']
  exact x'

/-- what a body gives a call -/
noncomputable def runFn (D : Den) (np nl : Nat) (vs : List V) : Option V := match vs.length == np with
  | true => (D ⟨slotsOf vs nl, none⟩).bind fun p => match p.1 with | .ret v => some v | .next => some .none | _ => none
  | false => none
structure Wd.Has (W : Wd) (P : Program) : Prop where
  ok : W.Ok
  fn : ∀ d ∈ recsOf P, ∃ a o pm code doc, W.mg d.name = some (.ref a) ∧ W.hb.get? a = some o ∧ o.data = .func (docDef d.name d.params d.body d.scope pm code doc) ∧ W.hb.CodeRec code d.name

theorem fn_ok {W : Wd} {P : Program} {k : Nat} {S : Sx} {D : Den} (hW : W.Has P) (d : DefRec) (hd : d ∈ recsOf P) (ps : List Str) (nl : Nat) (hS : SxOk S) (hsc : S.scope = d.scope) (hk : d.scope.kind = .function) (hco : d.scope.isCoroutine = false) (hgen : d.scope.isGenerator = false)
    (hps : S.names.take ps.length = ps) (hkind : ps.all (fun x => decide (d.scope.names.lookup x = some .local)) = true) (hfree : d.scope.names.all (fun x => decide (d.scope.names.lookup x.1 ≠ some .free)) = true)
    (hbind : ∀ pm code doc (rs : List Value), rs.length = ps.length → bindArgs (docDef d.name d.params d.body d.scope pm code doc) ⟨rs, []⟩ = pure (ps.zip rs)) (g : GoodB W k S d.body D) (hne : ps ≠ []) : FnOk W (k + 1) d.name (runFn D ps.length nl) := by
  obtain ⟨a, o, pm, code, doc, hmg, ho, hdat, hcd⟩ := hW.fn d hd
  refine ⟨a, hmg, ⟨o, _, ho, hdat⟩, fun A av s rs vs v hA hL hkeep q hv RR hQ => ?_⟩
  unfold runFn at hv
  cases hlen : vs.length == ps.length with
  | false => rw [hlen] at hv; cases hv
  | true =>
  rw [hlen] at hv
  have hlen' : vs.length = ps.length := by simpa using hlen
  have hrl : rs.length = ps.length := q.length.trans hlen'
  cases hD : D ⟨slotsOf vs nl, none⟩ with
  | none => simp [hD] at hv
  | some p =>
  obtain ⟨φ, σ'⟩ := p
  simp [hD] at hv
  have hnd : ps.Nodup := by rw [← hps]; exact (List.take_sublist _ _).nodup hS.nodup
  have hfst : (ps.zip rs).map (·.1) = ps := List.map_fst_zip (by omega)
  have hmem : ∀ x ∈ ps.zip rs, x.1 ∈ ps := fun x hx => by rw [← hfst]; exact List.mem_map_of_mem hx
  have hkl : ∀ x ∈ ps, d.scope.names.lookup x = some .local := fun x hx => by
    have := List.all_eq_true.mp hkind x hx
    simpa using this
  have hkd : ∀ x ∈ ps, d.scope.names.lookup x = some .local ∨ d.scope.names.lookup x = some .cell := fun x hx => .inl (hkl x hx)
  obtain ⟨p0, ps', hps0⟩ : ∃ p0 ps', ps = p0 :: ps' := by
    cases ps with
    | nil => exact absurd rfl hne
    | cons a b => exact ⟨a, b, rfl⟩
  obtain ⟨r0, rs', hrs0⟩ : ∃ r0 rs', rs = r0 :: rs' := by
    cases rs with
    | nil => rw [hps0] at hrl; cases hrl
    | cons a b => exact ⟨a, b, rfl⟩
  have hz : ps.zip rs = (p0, r0) :: ps'.zip rs' := by rw [hps0, hrs0]; rfl
  refine codeAny_call_function (fd := docDef d.name d.params d.body d.scope pm code doc) (body := d.body) ?_ (hkeep _ _ ho) hdat hco hgen rfl (hcd.keeps hkeep) ?_
  · have := hA.depth; omega
  rw [hbind pm code doc rs hrl]
  rw [hz]
  refine wpAny_pure (env_local hk (hkl p0 (by rw [hps0]; exact List.mem_cons_self)) (fun y hy => hkl y.1 (hmem y (by rw [hz]; exact List.mem_cons_of_mem _ hy))) fun env he s₁ x htk₁ => ?_)
  rw [← hz] at x
  subst he
  refine ⟨(hW.ok.lim.keeps hkeep).keeps x.toInCall.keep, codeAny_func ?_⟩
  -- the frame
  let C : Cx := ⟨callEnvC (docDef d.name d.params d.body d.scope pm code doc) s.heap.objs.size a, av⟩
  have x : InCallC s C.env.locals (bindL C.env.kindOf (ps.zip rs) fun _ => none) C.env.cells (bindC C.env.kindOf (ps.zip rs) fun _ => none) s₁ := x
  have hks : ∀ y, C.env.kindOf y = d.scope.names.lookup y := fun _ => rfl
  have hC : FrS S C := {
    scope := hsc.symm
    kind := by rw [hsc]; exact hk
    globals := rfl
    builtins := rfl
    ne := fun y c hc => Nat.ne_of_gt (x.above y c (mem_of_lookup hc))
    apart := fun y z c hy hz => name_of_addr x.apart (mem_of_lookup hy) (mem_of_lookup hz)
    cell := fun y hy => by
      rw [hsc] at hy
      rcases hy with hy | hy
      · exact cells_lookup_some d.scope.names _ _ y hy
      · exfalso
        obtain ⟨k', hk'⟩ : ∃ k', (y, k') ∈ d.scope.names := ⟨_, mem_of_lookup hy⟩
        have := List.all_eq_true.mp hfree _ hk'
        simp [hy] at this }
  obtain ⟨hh, tk, hs₁⟩ := x.toInCall.same
  have hle : s.heap.objs.size ≤ C.env.locals := x.toInCall.fresh
  have fresh : ∀ b, s.heap.objs.size ≤ b → s.heap.get? b = none := fun b hb => by
    cases e : s.heap.get? b with
    | none => rfl
    | some o' => exact absurd (Heap.lt_size e) (Nat.not_lt.mpr hb)
  have hmut : ∀ b, C.mut none b → s.heap.objs.size ≤ b := fun b hb => by
    rcases hb with rfl | ⟨y, hy⟩ | h
    · exact hle
    · exact Nat.le_of_lt (Nat.lt_of_le_of_lt hle (x.above y b (mem_of_lookup hy)))
    · cases h
  have e₁ : Ext nobody s s₁ := by
    subst hs₁
    exact Ext.of_heap (fun b o _ e => x.toInCall.keep b o e) (Nat.le_of_succ_le htk₁)
  have hbound : ∀ (i : Nat) (y : Str) (r : Value), ps[i]? = some y → rs[i]? = some r → Bound C.env s₁.heap y r := by
    intro i y r hy hr
    have hin : (y, r) ∈ ps.zip rs := by
      have : (ps.zip rs)[i]? = some (y, r) := by rw [List.getElem?_zip_eq_some]; exact ⟨hy, hr⟩
      exact List.mem_of_getElem? this
    rcases hkd y (List.mem_of_getElem? hy) with h | h
    · exact .inl ⟨h, _, x.toInCall.ns, bindL_get h _ _ (by rw [hfst]; exact hnd) hin⟩
    · obtain ⟨c, hc⟩ := cells_lookup_some d.scope.names (s.heap.objs.size + 1) [] y h
      refine .inr ⟨.inl h, c, hc, ?_⟩
      have := x.cell y c hc
      rwa [bindC_get h _ _ (by rw [hfst]; exact hnd) hin] at this
  have R : Rep W S C none s₁ ⟨slotsOf vs nl, none⟩ := {
    keep := fun b o e => e₁.heap b o (fun x => x) (hkeep b o e)
    base := fun b hb => by
      cases e : W.hb.get? b with
      | none => rfl
      | some o' =>
        have := hkeep b o' e
        rw [fresh b (hmut b hb)] at this; cases this
    live := fun b hb => by
      rcases hb with hb | rfl | ⟨y, hy⟩ | h
      · obtain ⟨o', ho'⟩ := hL b hb; exact ⟨o', e₁.heap b o' (fun x => x) ho'⟩
      · obtain ⟨o', _, _, ho', _⟩ := x.toInCall.ns; exact ⟨o', ho'⟩
      · obtain ⟨o', ho', _⟩ := x.cell y b hy; exact ⟨o', ho'⟩
      · cases h
    ns := ⟨_, x.toInCall.ns⟩
    cells := fun y c hc => ⟨_, x.cell y c hc⟩
    slot := fun i y u hy hu => by
      have hu' := getS_slots _ _ _ _ hu
      obtain ⟨r, hr, hq⟩ := q.get hu'
      have hi : i < ps.length := by
        have := (List.getElem?_eq_some_iff.mp hu').1
        omega
      have hy' : ps[i]? = some y := by
        rw [← hps, List.getElem?_take]
        simp [hi, hy]
      refine ⟨r, hbound i y r hy' hr, hq.move (fun b o nb e => ⟨e₁.heap b o (fun x => x) e, fun hb => ?_⟩) e₁.tk⟩
      rcases hb with hb | hb
      · exact nb hb
      · rw [fresh b (hmut b hb)] at e; cases e
    tk := Nat.lt_of_lt_of_le (Nat.succ_pos _) htk₁
    own := fun xs h => by cases h }
  have hA' : Room k (A.deeper C.env) := ⟨hA.handled, by show A.depth + 1 + k < _; have := hA.depth; omega, by show A.units + 3 + 20 * k + 100 < _; have := hA.units; omega⟩
  refine g _ C none s₁ _ φ σ' hA' hC R hD _ _ fun f oa' s₂ e₂ t₂ o₂ R₂ hf => ?_
  have e₂' : Ext nobody s s₂ := e₁.trans e₂ fun b o e hb => by rw [fresh b (hmut b hb)] at e; cases e
  cases φ with
  | next =>
    (cases f <;> try (exact False.elim hf))
    cases hv
    exact hQ _ _ e₂' .none
  | brk => cases hv
  | cont => cases hv
  | ret u =>
    (cases f <;> try (exact False.elim hf))
    cases hv
    exact hQ _ _ e₂' hf


end
end Lite
namespace Lite
section
open PySem PySem.Calls PyProof.Rows PySem.W

noncomputable def OpN (W : Wd) (t : List Value → Sem Value) (f : List V → Option V) : Prop :=
  ∀ (A : Around) (av : Addr → Prop) (s : Shared) (rs : List Value) (vs : List V) (v : V), Room 0 A → Live av s → 0 < s.toks → (∀ b o, W.hb.get? b = some o → s.heap.get? b = some o) → RdAll av s rs vs → f vs = some v →
    ∀ (Q : Value → Shared → Prop) (E : Value → Shared → Prop), (∀ r s', Ext nobody s s' → Rd av s' r v → Q r s') → wpAny W.M A (t rs) Q E s
noncomputable def Bi (W : Wd) (x : Str) (v : Value) : Prop := W.mg x = none ∧ W.mb x = some v

theorem good_bi {W : Wd} {k : Nat} {S : Sx} {f : Str} {np pos : Pos} {e : Expr} {es : List Expr} {id : String} {d : List V → Option V} {ds : St → Option (List V)} (hW : W.Ok) (hb : Bi W f (.builtin id)) (op : OpN W (fun rs => call (.builtin id) rs) d) (hx : isGlob S f = true) (gs : GoodEs W k S (e :: es) ds)
    (he : ∀ env, starEach (e :: es) env = (false, eval e env) :: starEach es env := by intro _; rfl) (hp : ∀ env, (backTo pos (starEach (e :: es) env)).any (·.1) = false := by intro _; rfl) : GoodE W k S (.Call (.Name f np) (e :: es) [] pos) (dCall d ds) := by
  intro A C oa s σ v hA hC R hv Q E h
  unfold dCall at hv
  cases h1 : ds σ with
  | none => rw [h1] at hv; cases hv
  | some vs =>
    rw [h1] at hv
    refine wpAny_Call_NameR (glob_name hW hC R hx (.inr hb) (callWith_builtin (hp _) ?_))
    have hsp := gs A C oa s σ vs pos hA hC R h1 (fun rs s' => wpAny W.M A (call (.builtin id) ([] ++ rs) []) Q E s') E
      fun rs s' e' q => op A _ s' rs vs v (hA.mono (Nat.zero_le _)) (R.ext e').liveA (R.ext e').tk (R.ext e').keep q hv Q E fun r s'' e'' q' => h r s'' (e'.trans' e'') q'
    rw [he] at hsp ⊢
    exact evalArgs_plain hsp
theorem good_ty {W : Wd} {k : Nat} {S : Sx} {f : Str} {np pos : Pos} {e : Expr} {es : List Expr} {T : String} {d : List V → Option V} {ds : St → Option (List V)} (hW : W.Ok) (hb : Bi W f (.type T)) (op : OpN W (fun rs => call (.type T) rs) d) (hx : isGlob S f = true) (gs : GoodEs W k S (e :: es) ds)
    (he : ∀ env, starEach (e :: es) env = (false, eval e env) :: starEach es env := by intro _; rfl) (hp : ∀ env, (backTo pos (starEach (e :: es) env)).any (·.1) = false := by intro _; rfl) : GoodE W k S (.Call (.Name f np) (e :: es) [] pos) (dCall d ds) := by
  intro A C oa s σ v hA hC R hv Q E h
  unfold dCall at hv
  cases h1 : ds σ with
  | none => rw [h1] at hv; cases hv
  | some vs =>
    rw [h1] at hv
    refine wpAny_Call_NameR (glob_name hW hC R hx (.inr hb) (PySem.callWith_type (hp _) ?_))
    have hsp := gs A C oa s σ vs pos hA hC R h1 (fun rs s' => wpAny W.M A (call (.type T) ([] ++ rs) []) Q E s') E
      fun rs s' e' q => op A _ s' rs vs v (hA.mono (Nat.zero_le _)) (R.ext e').liveA (R.ext e').tk (R.ext e').keep q hv Q E fun r s'' e'' q' => h r s'' (e'.trans' e'') q'
    rw [he] at hsp ⊢
    exact evalArgs_plain hsp

/-- methods -/
structure Meth (T : String) (name : Str) (id : String) : Prop where
  pa : PlainAttrs T
  slot : Slot T name id
  ty : typeOf (.builtin id) = pure (.type "method_descriptor")
noncomputable def isT (T : String) : V → Bool
  | .str _ => T == "str"
  | .list _ => T == "list"
  | _ => false
theorem isT_of {T : String} {av : Addr → Prop} {s : Shared} {r : Value} {v : V} (q : Rd av s r v) (h : isT T v = true) : s.TypeIs r T ∧ ∀ a, r = .ref a → ∃ ob, s.heap.get? a = some ob ∧ ob.dict = none := by
  cases q <;> try (cases h; done)
  · simp only [isT, beq_iff_eq] at h; subst h; exact ⟨typeIs_str _ _ _, fun _ e => nomatch e⟩
  · rename_i a vs xs hl na ha
    simp only [isT, beq_iff_eq] at h; subst h
    obtain ⟨n, ho⟩ := id hl
    exact ⟨hl.isList.typeIs, fun b e => by cases e; exact ⟨_, ho, rfl⟩⟩
noncomputable def dMeth (T : String) (f : List V → Option V) (d : St → Option V) (ds : St → Option (List V)) (σ : St) : Option V := (d σ).bind fun v => match isT T v with | true => (ds σ).bind fun vs => f (v :: vs) | false => none
theorem good_meth {W : Wd} {k : Nat} {S : Sx} {o : Expr} {name : Str} {apos pos : Pos} {args : List Expr} {T id : String} {f : List V → Option V} {d : St → Option V} {ds : St → Option (List V)} (m : Meth T name id) (op : OpN W (fun rs => call (.builtin id) rs) f) (g : GoodE W k S o d) (gs : GoodEs W k S args ds)
    (hline : (apos.endLine == pos.line) = true) (hbase : ∀ env t, attributeBase o name env t = t := by intro _ _; rfl)
    (hfew : ∀ env, ((backTo pos (starEach args env)).all (fun x => !x.1) && (backToKw pos (keywordEach [] env)).all (fun x => x.1.isSome) && decide (args.length + ([] : List Keyword).length + (if ([] : List Keyword).isEmpty then 0 else 1) < 30)) = true := by intro _; rfl)
    (hp : ∀ env, (backTo pos (starEach args env)).any (·.1) = false := by intro _; rfl) (he : ∀ env, (∃ t r, backTo pos (starEach args env) = (false, t) :: r) ∨ backTo pos (starEach args env) = [] := by intro _; first | exact .inr rfl | exact .inl ⟨_, _, rfl⟩) :
    GoodE W k S (.Call (.Attribute o name apos) args [] pos) (dMeth T f d ds) := by
  intro A C oa s σ v hA hC R hv Q E h
  unfold dMeth at hv
  cases h1 : d σ with
  | none => rw [h1] at hv; cases hv
  | some u =>
  rw [h1] at hv; simp only [Option.bind_some] at hv
  cases hT : isT T u with
  | false => rw [hT] at hv; cases hv
  | true =>
  rw [hT] at hv
  simp only at hv
  cases h2 : ds σ with
  | none => rw [h2] at hv; cases hv
  | some vs =>
  rw [h2] at hv
  simp only [Option.bind_some] at hv
  refine wpAny_Call_method_lateS (hbase _ _) (hfew _) hline (g A C oa s σ u hA hC R h1 _ _ fun r s₁ e₁ q => ?_)
  obtain ⟨hty, hdict⟩ := isT_of q hT
  refine ⟨T, id, m.pa, m.slot, m.ty, hty, hdict, callWith_builtin (hp _) ?_⟩
  have hsp := gs A C oa s₁ σ vs pos hA hC (R.ext e₁) h2 (fun rs s' => wpAny W.M A (call (.builtin id) ([r] ++ rs) []) Q E s') E
    fun rs s' e' q' => op A _ s' (r :: rs) (u :: vs) v (hA.mono (Nat.zero_le _)) ((R.ext e₁).ext e').liveA ((R.ext e₁).ext e').tk ((R.ext e₁).ext e').keep (.cons (q.ext e' fun _ x => x.elim) q') hv Q E fun r s'' e'' q'' => h r s'' ((e₁.trans' e').trans' e'') q''
  rcases he C.env with ⟨t, rest, ht⟩ | ht
  · rw [ht] at hsp ⊢
    exact evalArgs_plain hsp
  · rw [ht] at hsp ⊢
    refine PyProof.Rows.evalArgs_nil3 ?_
    intro Γ p hΓ
    exact hsp Γ p hΓ Γ p hΓ

/-- len -/
noncomputable def lenV : List V → Option V
  | [.list l] => match short l with | true => some (.int l.length) | false => none
  | [.str l] => match decide (l.length < 1000000) with | true => some (.int l.length) | false => none
  | _ => none
theorem op_len (W : Wd) : OpN W (fun rs => call (.builtin "len") rs) lenV := by
  intro A av s rs vs v hA hL htk hk q hf Q E hQ
  unfold lenV at hf
  split at hf <;> try (cases hf; done)
  rotate_left
  · cases q with
    | cons q q' =>
    cases q'
    cases q with
    | str x t =>
    cases hb : decide (x.cps.toList.length < 1000000) with
    | false => rw [hb] at hf; cases hf
    | true =>
    rw [hb] at hf; cases hf
    simp only [decide_eq_true_eq] at hb
    have e : x.cps.toList.length = x.length := by simp [Str.length]
    refine PySem.P.len_str (by omega) ?_
    exact hQ _ _ (Ext.toks s _) (by rw [e]; exact .int _ _)
  · rename_i xs
    cases q with
    | cons q q' =>
    cases q'
    cases q with
    | @list a ws _ hl na ha =>
    cases hb : short xs with
    | false => rw [hb] at hf; cases hf
    | true =>
    rw [hb] at hf; cases hf
    simp only [short, decide_eq_true_eq] at hb
    have e := ha.length
    simp only [Array.length_toList] at e
    refine call_len_list hl.isList (by omega) ?_
    rw [e]
    exact hQ _ _ (Ext.toks s _) (.int _ _)

/-- chr, ord, min -/
noncomputable def chrV : List V → Option V
  | [.int i] => match decide (0 ≤ i) && decide (i ≤ 1114111) with | true => some (.ch i.toNat) | false => none
  | _ => none
theorem op_chr (W : Wd) : OpN W (fun rs => call (.builtin "chr") rs) chrV := by
  intro A av s rs vs v hA hL htk hk q hf Q E hQ
  unfold chrV at hf
  split at hf <;> try (cases hf; done)
  rename_i i
  cases q with
  | cons q q' =>
  cases q'
  cases q
  cases hb : decide (0 ≤ i) && decide (i ≤ 1114111) with
  | false => rw [hb] at hf; cases hf
  | true =>
  rw [hb] at hf; cases hf
  simp only [Bool.and_eq_true, decide_eq_true_eq] at hb
  refine PySem.P.chr_of_int (by simp; omega) ?_
  exact hQ _ _ (Ext.toks s _) (.ch _ _ htk (Nat.lt_succ_self _))
noncomputable def ordV : List V → Option V
  | [.ch c] => some (.int c)
  | _ => none
theorem op_ord (W : Wd) : OpN W (fun rs => call (.builtin "ord") rs) ordV := by
  intro A av s rs vs v hA hL htk hk q hf Q E hQ
  unfold ordV at hf
  split at hf <;> try (cases hf; done)
  cases q with
  | cons q q' =>
  cases q'
  cases q
  cases hf
  exact PySem.P.ord_of_char (hQ _ _ (Ext.toks s _) (.int _ _))
noncomputable def minV : List V → Option V
  | [.int a, .int b] => some (.int (match decide (b < a) with | true => b | false => a))
  | _ => none
theorem op_min (W : Wd) : OpN W (fun rs => call (.builtin "min") rs) minV := by
  intro A av s rs vs v hA hL htk hk q hf Q E hQ
  unfold minV at hf
  split at hf <;> try (cases hf; done)
  rename_i a b
  cases q with
  | cons q q' =>
  cases q' with
  | cons q₂ q'' =>
  cases q''
  cases q with
  | int _ t =>
  cases q₂ with
  | int _ u =>
  cases hf
  refine wpAny_with_toks (Nat.le_refl s.toks) (PySem.Flt.min_two_num hA.handled (.int a t) (.int b u) fun h' tk hk' htk' => ?_)
  have e : (if PySem.Flt.ltV (.int b u) (.int a t) = true then Value.int b u else .int a t) = .int (match decide (b < a) with | true => b | false => a) (match decide (b < a) with | true => u | false => t) := by
    show (if decide (b < a) = true then _ else _) = _
    cases decide (b < a) <;> rfl
  rw [e]
  exact hQ _ _ (Ext.of_heap (fun b o _ e => hk' b o e) htk') (.int _ _)

/-- list.index -/
noncomputable def indexV : List V → Option V
  | [.list l, .int k] => (intsOf l).bind fun ns => match short l && ns.contains k with | true => some (.int (ns.idxOf k : Nat)) | false => none
  | _ => none
theorem op_index (W : Wd) : OpN W (fun rs => call (.builtin "list.index") rs) indexV := by
  intro A av s rs vs v hA hL htk hk q hf Q E hQ
  unfold indexV at hf
  split at hf <;> try (cases hf; done)
  rename_i xs k
  cases q with
  | cons q q' =>
  cases q' with
  | cons q₂ q'' =>
  cases q''
  cases q with
  | @list a ws _ hl na ha =>
  cases q₂ with
  | int _ t =>
  cases hn : intsOf xs with
  | none => rw [hn] at hf; cases hf
  | some ns =>
  rw [hn] at hf
  simp only [Option.bind_some] at hf
  cases hb : short xs && ns.contains k with
  | false => rw [hb] at hf; cases hf
  | true =>
  rw [hb] at hf; cases hf
  simp only [Bool.and_eq_true, short, decide_eq_true_eq, List.contains_iff_mem] at hb
  obtain ⟨n, ho⟩ := hl
  have hi := intsAre_of ha hn
  have hlen := hi.length
  have hlen2 := ha.length
  have hj : ns.idxOf k < ns.length := List.idxOf_lt_length_iff.mpr hb.2
  simp only [Array.length_toList] at hlen hlen2
  have htl : ws.toList.toArray = ws := by simp
  refine call_meets PySem.F.slot_list_index ⟨_, ho, rfl⟩ PySem.F.entry_list_index (PySem.F.args_list_index_2 _ _)
    (PySem.SeqAt.list_indexAt a ws n none #[] (.int k t) (isInt k) (ns.idxOf k) (by omega) (by omega) ?_ ?_) ⟨ho, fun y hy => (eq_isInt k t hi y (by simpa using hy)).at _ _, hQ _ _ (Ext.toks s _) (.int _ _)⟩
  · have := isInt_at k hi (ns.idxOf k) (by simp; omega) hj
    simp only [Array.getElem_toList] at this
    rw [this]
    simpa using List.getElem_idxOf hj
  · intro j hjs hlt
    have := isInt_at k hi j (by simpa using hjs) (by omega)
    simp only [Array.getElem_toList] at this
    rw [this]
    exact ne_of_lt_idxOf hlt _

/-- str.join, str.lower, sorted -/
noncomputable def strOf : V → Option (List Nat)
  | .str l => some l
  | .ch c => some [c]
  | _ => none
noncomputable def strsOf : List V → Option (List (List Nat))
  | [] => some []
  | v :: r => (strOf v).bind fun x => (strsOf r).map (x :: ·)
theorem strs_of {av : Addr → Prop} {s : Shared} : ∀ {vs : List Value} {xs : List V} {ns : List (List Nat)}, RdAll av s vs xs → strsOf xs = some ns → ∃ ys : List Str, StrsAre vs ys ∧ ys.map (fun y => y.cps.toList) = ns
  | _, _, _, .nil, e => by cases e; exact ⟨[], .nil, rfl⟩
  | _, _, _, .cons (x := x) (xs := xs) q r, e => by
    simp only [strsOf] at e
    cases h0 : strOf x with
    | none => rw [h0] at e; cases e
    | some u =>
    cases h1 : strsOf xs with
    | none => simp [h0, h1] at e
    | some ms =>
    simp [h0, h1] at e
    subst e
    obtain ⟨ys, k1, k2⟩ := strs_of r h1
    cases q <;> try (cases h0; done)
    · rename_i y t; cases h0; exact ⟨y :: ys, .cons y t k1, by simp [k2]⟩
    · rename_i c t _ _; cases h0; exact ⟨⟨#[c]⟩ :: ys, .cons _ t k1, by simp [k2]⟩
noncomputable def flatN : List (List Nat) → List Nat
  | [] => []
  | x :: r => x ++ flatN r
theorem join_flat (sep : Str) (hs : sep.cps.toList = []) : ∀ ys : List Str, (Str.join sep ys).cps.toList = flatN (ys.map fun y => y.cps.toList)
  | [] => rfl
  | [x] => by simp [flatN, Str.join]
  | x :: y :: r => by
    have := join_flat sep hs (y :: r)
    have e : Str.join sep (x :: y :: r) = x ++ sep ++ Str.join sep (y :: r) := rfl
    have e2 : ∀ a b : Str, (a ++ b).cps.toList = a.cps.toList ++ b.cps.toList := fun a b => by show (a.cps ++ b.cps).toList = _; simp
    rw [e, e2, e2, hs, this]
    simp [flatN]
noncomputable def joinV : List V → Option V
  | [.str x, .list l] => match x.isEmpty with | true => ((strsOf l).bind fun ss => match decide ((flatN ss).length < 1000000) with | true => some (.str (flatN ss)) | false => none) | false => none
  | _ => none
theorem sum_flat : ∀ ys : List Str, (ys.map (·.length)).sum = (flatN (ys.map fun y => y.cps.toList)).length
  | [] => rfl
  | y :: r => by
    show y.length + (r.map (·.length)).sum = (y.cps.toList ++ flatN _).length
    rw [sum_flat r, List.length_append]; simp [Str.length]
theorem op_join (W : Wd) : OpN W (fun rs => call (.builtin "str.join") rs) joinV := by
  intro A av s rs vs v hA hL htk hk q hf Q E hQ
  unfold joinV at hf
  split at hf <;> try (cases hf; done)
  rename_i x0 xs
  cases q with
  | cons q q' =>
  cases q' with
  | cons q₂ q'' =>
  cases q''
  cases q with
  | str x t =>
  cases q₂ with
  | @list a ws _ hl na ha =>
  cases hxe : x.cps.toList.isEmpty with
  | false => rw [hxe] at hf; cases hf
  | true =>
  rw [hxe] at hf
  simp only at hf
  have hx : x.cps.toList = [] := List.isEmpty_iff.mp hxe
  cases hn : strsOf xs with
  | none => rw [hn] at hf; cases hf
  | some ss =>
  rw [hn] at hf
  simp only [Option.bind_some] at hf
  cases hb : decide ((flatN ss).length < 1000000) with
  | false => rw [hb] at hf; cases hf
  | true =>
  rw [hb] at hf; cases hf
  simp only [decide_eq_true_eq] at hb
  obtain ⟨ys, k1, k2⟩ := strs_of ha hn
  subst k2
  have hx0 : x.length = 0 := by
    have : x.cps.toList.length = x.length := by simp [Str.length]
    rw [hx] at this; simpa using this.symm
  refine wpAny_with_toks (Nat.le_refl s.toks) (join_list hl.isList k1 (by rw [sum_flat, hx0]; omega) fun t' k htk' => ?_)
  refine hQ _ _ (Ext.toks s _ htk') ?_
  have e : (Txt.join x ys).cps.toList = flatN (ys.map fun y => y.cps.toList) := by
    rw [← join_flat x hx ys, ← PySem.StrLaws.glued_eq_join]; rfl
  rw [← e]
  exact .str _ _

noncomputable def lowerC (c : Nat) : Bool := decide (97 ≤ c) && decide (c ≤ 122)
noncomputable def lowerV : List V → Option V
  | [.str [c]] => match lowerC c with | true => some (.str [c]) | false => none
  | _ => none
theorem lower_all : ∀ i : Fin 26, Txt.lower ⟨#[97 + i.val]⟩ = ⟨#[97 + i.val]⟩ := by decide +kernel
theorem lower_one {c : Nat} (h : lowerC c = true) : Txt.lower ⟨#[c]⟩ = ⟨#[c]⟩ := by
  simp only [lowerC, Bool.and_eq_true, decide_eq_true_eq] at h
  have := lower_all ⟨c - 97, by omega⟩
  have e : 97 + (c - 97) = c := by omega
  simpa [e] using this


end
end Lite
namespace Lite
section
open PySem PySem.Calls PyProof.Rows PySem.W

/-- lower -/
theorem op_lower (W : Wd) : OpN W (fun rs => call (.builtin "str.lower") rs) lowerV := by
  intro A av s rs vs v hA hL htk hk q hf Q E hQ
  cases q with
  | nil => cases hf
  | cons q q' =>
  cases q' with
  | cons => cases q <;> simp only [lowerV] at hf <;> (try split at hf) <;> simp_all
  | nil =>
  cases q <;> try (cases hf; done)
  rename_i x t
  cases hc : x.cps.toList with
  | nil => rw [hc] at hf; cases hf
  | cons c r =>
  cases r with
  | cons => rw [hc] at hf; cases hf
  | nil =>
  rw [hc] at hf
  simp only [lowerV] at hf
  cases hb : lowerC c with
  | false => rw [hb] at hf; cases hf
  | true =>
  rw [hb] at hf; cases hf
  have hx : x = ⟨#[c]⟩ := by
    obtain ⟨⟨l⟩⟩ := x
    simp only at hc
    subst hc; rfl
  subst hx
  have hl := lower_one hb
  have hg := gives_str_lower ⟨#[c]⟩ t (by
    show Builtin.Str.tooLong (Txt.lower ⟨#[c]⟩).length = false
    rw [hl]; rfl)
  refine call_gives F.slot_str_lower (typeIs_str _ _ _) F.entry_str_lower (F.args_str_lower_1 _) hg ⟨?_, ?_⟩
  · show (Txt.lower ⟨#[c]⟩).length ≤ sizeLine
    rw [hl, sizeLine_eq]; show 1 ≤ _; omega
  · show Q (.str (Txt.lower ⟨#[c]⟩) s.toks) _
    rw [hl]
    exact hQ _ _ (Ext.toks s _) (.str ⟨#[c]⟩ _)

/-- sorting codes -/
noncomputable def insN (a : Nat) : List Nat → List Nat
  | [] => [a]
  | b :: r => match Nat.ble a b with | true => a :: b :: r | false => b :: insN a r
noncomputable def sortN : List Nat → List Nat
  | [] => []
  | a :: r => insN a (sortN r)
theorem insN_perm (a : Nat) : ∀ l, (insN a l).Perm (a :: l)
  | [] => .refl _
  | b :: r => by
    unfold insN
    cases h : Nat.ble a b with
    | true => exact .refl _
    | false => exact ((insN_perm a r).cons b).trans (.swap a b r)
theorem sortN_perm : ∀ l, (sortN l).Perm l
  | [] => .refl _
  | a :: r => (insN_perm a _).trans ((sortN_perm r).cons a)
theorem insN_sorted (a : Nat) : ∀ l : List Nat, l.Pairwise (· ≤ ·) → (insN a l).Pairwise (· ≤ ·)
  | [], _ => List.pairwise_singleton ..
  | b :: r, h => by
    unfold insN
    obtain ⟨h1, h2⟩ := List.pairwise_cons.mp h
    cases hb : Nat.ble a b with
    | true =>
      have hab := Nat.le_of_ble_eq_true hb
      exact List.pairwise_cons.mpr ⟨fun c hc => by
        rcases List.mem_cons.mp hc with rfl | hc
        · exact hab
        · exact Nat.le_trans hab (h1 c hc), h⟩
    | false =>
      have hab : b ≤ a := by
        have : ¬ a ≤ b := fun q => by rw [Nat.ble_eq_true_of_le q] at hb; cases hb
        omega
      refine List.pairwise_cons.mpr ⟨fun c hc => ?_, insN_sorted a r h2⟩
      rcases List.mem_cons.mp ((insN_perm a r).mem_iff.mp hc) with rfl | hc
      · exact hab
      · exact h1 c hc
theorem sortN_sorted : ∀ l : List Nat, (sortN l).Pairwise (· ≤ ·)
  | [] => .nil
  | a :: r => insN_sorted a _ (sortN_sorted r)
theorem sortN_unique {l l' : List Nat} (hp : l'.Perm l) (hs : l'.Pairwise (· ≤ ·)) : l' = sortN l :=
  List.Perm.eq_of_pairwise (le := (· ≤ ·)) (fun _ _ _ _ h1 h2 => Nat.le_antisymm h1 h2) hs (sortN_sorted l) (hp.trans (sortN_perm l).symm)

noncomputable def one (c : Nat) : Str := ⟨#[c]⟩
theorem rising_codes : ∀ (p : Nat) (cs : List Nat), risingS (one p) (cs.map one) = true → (p :: cs).Pairwise (· ≤ ·)
  | p, [], _ => List.pairwise_singleton ..
  | p, c :: r, h => by
    simp only [List.map_cons, risingS, Bool.and_eq_true, Bool.not_eq_true'] at h
    have ih := rising_codes c r h.2
    have hpc : p ≤ c := by
      have := h.1
      rw [ltCps_eq] at this
      have this : ¬ ([c] < [p]) := of_decide_eq_false this
      by_cases q : p ≤ c
      · exact q
      · exact absurd (List.cons_lt_cons_iff.mpr (.inl (by omega : c < p))) this
    refine List.pairwise_cons.mpr ⟨fun d hd => ?_, ih⟩
    rcases List.mem_cons.mp hd with rfl | hd
    · exact hpc
    · exact Nat.le_trans hpc ((List.pairwise_cons.mp ih).1 d hd)
theorem sorted_codes : ∀ (cs : List Nat), sortedS (cs.map one) = true → cs.Pairwise (· ≤ ·)
  | [], _ => .nil
  | c :: r, h => rising_codes c r h
theorem map_one_of {l : List Nat} {ss : List Str} (h : ss.Perm (l.map one)) : ∃ cs : List Nat, ss = cs.map one ∧ cs.Perm l := by
  refine ⟨ss.map fun x => x.cps.toList.headD 0, ?_, ?_⟩
  · rw [List.map_map]
    refine (List.map_id ss).symm.trans (List.map_congr_left fun x hx => ?_)
    obtain ⟨c, _, rfl⟩ := List.mem_map.mp (h.mem_iff.mp hx)
    rfl
  · have := h.map fun x => x.cps.toList.headD 0
    rw [List.map_map] at this
    have e : ((fun x : Str => x.cps.toList.headD 0) ∘ one) = id := by funext c; rfl
    rwa [e, List.map_id] at this
theorem strs_signs {x : Str} {acc : Array Value} (h : ItemsOf (SignAt x) acc x.cps.size) : StrsAre acc.toList (x.cps.toList.map one) := by
  obtain ⟨hsz, hall⟩ := h
  have key : ∀ (n : Nat) (l : List Value) (cs : List Nat), l.length = n → cs.length = n → (∀ (j : Nat) (v : Value), l[j]? = some v → ∃ c u, cs[j]? = some c ∧ v = Value.str ⟨#[c]⟩ u) → StrsAre l (cs.map one) := by
    intro n
    induction n with
    | zero =>
      intro l cs hl hc _
      have e1 : l = [] := List.length_eq_zero_iff.mp hl
      have e2 : cs = [] := List.length_eq_zero_iff.mp hc
      subst e1 e2; exact .nil
    | succ n ih =>
      intro l cs hl hc ha
      cases l with
      | nil => cases hl
      | cons v l =>
        cases cs with
        | nil => cases hc
        | cons c cs =>
          obtain ⟨c', u, h1, h2⟩ := ha 0 v rfl
          simp at h1; subst h1 h2
          refine .cons _ u (ih l cs (by simpa using hl) (by simpa using hc) fun j w hw => ?_)
          have := ha (j + 1) w (by simpa using hw)
          simpa using this
  refine key acc.size acc.toList x.cps.toList (by simp) (by simp [hsz]) fun j v hv => ?_
  obtain ⟨c, u, h1, h2⟩ := hall j v (by simpa using hv)
  exact ⟨c, u, by simpa using h1, h2⟩
theorem rd_ones {av : Addr → Prop} {s : Shared} : ∀ {vs : List Value} {cs : List Nat}, StrsAre vs (cs.map one) → RdAll av s vs (cs.map fun c => .str [c])
  | _, [], .nil => .nil
  | _, c :: cs, .cons _ t r => .cons (.str ⟨#[c]⟩ t) (rd_ones r)

/-- sorted of what collect gives -/
theorem sorted_by {prog : Program} {w : World} {A : Around} {E : Value → Shared → Prop} {s : Shared} {v : Value} {Q : Value → Shared → Prop}
    (h : wpAny (model prog w) A.in1 (collect v) (fun vs s₁ => vs.length ≤ sizeLine ∧
      ∃ P : Array Value → Prop, (∀ R : Fin → Shared → Prop, (∀ out, P out → R (.done (.ret .none)) { s₁ with heap := sortedHeap (s₁.heap.push (seqObj "list" vs.toArray 0)) s₁.heap.objs.size vs out }) →
          wpAny (model prog w) A.in1.in1 (Builtin.«list.sort» ⟨[.ref s₁.heap.objs.size], []⟩) R E { s₁ with heap := s₁.heap.push (seqObj "list" vs.toArray 0) }) ∧
        (∀ (out : Array Value) (h' : Heap) (e : Nat), P out → h'.get? s₁.heap.objs.size = some (seqObj "list" out e) → (∀ b o, s₁.heap.get? b = some o → h'.get? b = some o) → Q (.ref s₁.heap.objs.size) { s₁ with heap := h' })) E s) :
    wpAny (model prog w) A (call (.builtin "sorted") [v]) Q E s := by
  refine Calls.call_function_entry kind_sorted plain_sorted entry_sorted (args_sorted1 _) ?_
  unfold Builtin.«sorted»
  refine wpAny_bind (m := checkCount "sorted" 1 1 _) (wpAny_pure ?_)
  refine wpAny_bind (wpAny_mono h (fun vs s₁ h₁ => ?_) fun _ _ e => e)
  obtain ⟨hsz, P, h1, h2⟩ := h₁
  refine wpAny_bind (wpAny_newObj_type ?_ (by show vs.toArray.size ≤ sizeLine; simpa using hsz))
  have hoL : (s₁.heap.push (seqObj "list" vs.toArray 0)).get? s₁.heap.objs.size = some (seqObj "list" vs.toArray 0) := Heap.get?_push_size _ rfl
  refine wpAny_bind (wpAny_holding (wpAny_call_entry slot_list_sort ⟨_, hoL, rfl⟩ entry_list_sort (h1 _ fun out hP => ⟨_, rfl, ?_⟩) (args_list_sort _)))
  obtain ⟨e, he⟩ := sortedHeap_at (out := out) hoL
  refine wpAny_pure ⟨_, rfl, h2 out _ e hP he fun b o ho => ?_⟩
  have hlt := Heap.lt_size ho
  rw [sortedHeap_old (Nat.ne_of_lt hlt) (by rw [Heap.size_push]; exact Nat.lt_succ_of_lt hlt)]
  exact Heap.get?_push_of_some _ ho

noncomputable def len64 (n : Nat) : Bool := Nat.blt n 64
noncomputable def sortedV : List V → Option V
  | [.str l] => match len64 l.length with | true => some (.list ((sortN l).map fun c => .str [c])) | false => none
  | _ => none
theorem op_sorted (W : Wd) : OpN W (fun rs => call (.builtin "sorted") rs) sortedV := by
  intro A av s rs vs v hA hL htk hk q hf Q E hQ
  unfold sortedV at hf
  split at hf <;> try (cases hf; done)
  cases q with
  | cons q q' =>
  cases q'
  cases q with
  | str x t =>
  cases hb : len64 x.cps.toList.length with
  | false => rw [hb] at hf; cases hf
  | true =>
  rw [hb] at hf; cases hf
  have hb' : x.cps.toList.length < 64 := by simpa [len64, Nat.blt_eq] using hb
  refine sorted_by (wpAny_with_toks (n := s.toks) (Nat.le_refl _) (wpAny_collect_str (A := A.in1) hA.handled x t (fun s₁ acc hkp hg _ hos hit htk₁ => ?_) (by rw [sizeLine_eq]; simp at hb'; omega)))
  have hS := strs_signs hit
  have hl : acc.toList.length < 64 := by
    have := hit.1
    simp at hb' ⊢; omega
  refine ⟨by rw [sizeLine_eq]; omega, fun out => StrsAre out.toList ((sortN x.cps.toList).map one), fun R hR => ?_, fun out h' e hP he hkp' => ?_⟩
  · refine list_sort_treeK strKind_oneLt (n := 0) (Heap.get?_push_size _ rfl) hS.keysOf (fun v₁ v₂ rest e => keyKind_strs (by rw [← e]; exact hS)) hl fun st' hp hs => hR _ ?_
    obtain ⟨ss', h1, h2, h3⟩ := sorted_out_str hS hp hs
    obtain ⟨cs, rfl, hcs⟩ := map_one_of h2
    rw [← sortN_unique hcs (sorted_codes cs h3)]
    exact h1
  · have ex : Ext nobody s { s₁ with heap := h' } := ⟨fun b o _ q => hkp' b o (hkp b o q), hos, fun i g q => by show s₁.gens[i]? = _; rw [hg]; exact q, fun i g hi q => (by
      have q' : s₁.gens[i]? = some g := q
      rw [hg, Array.getElem?_eq_none hi] at q'; cases q'), htk₁⟩
    refine hQ _ _ ex (.list ⟨e, he⟩ (fun h => ?_) (rd_ones hP))
    obtain ⟨o, ho⟩ := hL _ h
    exact Nat.lt_irrefl _ (Heap.lt_size (hkp _ o ho))


end
end Lite
namespace Lite
section
open PySem PySem.Calls PyProof.Rows PySem.W

/-- an iterator that gives xs: s₀ the state before it was made, P its own objects, J its state -/
structure Src (W : Wd) (av : Addr → Prop) (target : Expr) (s₀ : Shared) (I : Addr) (s₁ : Shared) (P : Addr → Prop) (J : List V → Shared → Prop) (xs : List V) : Prop where
  ext : Ext nobody s₀ s₁
  new : ∀ a, P a → s₀.heap.get? a = none
  start : J xs s₁
  live : ∀ ys t, J ys t → ∀ a, P a → ∃ o, t.heap.get? a = some o
  keep : ∀ ys t t' mu, J ys t → Ext mu t t' → (∀ a o, s₀.heap.get? a = some o → mu a → av a) → (∀ a, mu a → ¬ P a) → J ys t'
  step : ∀ (A : Around) (av' : Addr → Prop) (x : V) (ys : List V) (t : Shared), A.handled = none → 0 < t.toks → Live av' t → (∀ a o, s₀.heap.get? a = some o → av' a → av a) → J (x :: ys) t →
    ∀ (Q : Value → Shared → Prop) (E : Value → Shared → Prop), (∀ r t', Ext P t t' → Rd (fun a => av' a ∨ P a) t' r x → J ys t' → Q r t') →
      wpAny W.M A (pyNext (.ref I)) (fun o t₁ => ∃ v, o = some v ∧ wpAny W.M A (letOwnedTupleGo target (.ref I) v) (fun _ t₂ => Q v t₂) E t₁) E t
  stop : ∀ (A : Around) (t : Shared), A.handled = none → J [] t → ∀ (Q : Shared → Prop) (E : Value → Shared → Prop), (∀ t', Ext P t t' → Q t') → wpAny W.M A (pyNext (.ref I)) (fun o t₁ => o = none ∧ Q t₁) E t
  self : ∀ (A : Around) (ys : List V) (t : Shared), A.handled = none → J ys t → ∀ (Q : Value → Shared → Prop) (E : Value → Shared → Prop), Q (.ref I) t → wpAny W.M A (pyIter (.ref I)) Q E t

noncomputable def GoodI (W : Wd) (k : Nat) (S : Sx) (target e : Expr) (d : St → Option (List V)) : Prop :=
  ∀ (A : Around) (C : Cx) (oa : Option Addr) (s : Shared) (σ : St) (xs : List V), Room k A → FrS S C → Rep W S C oa s σ → d σ = some xs →
    ∀ (Q : Value → Shared → Prop) (E : Value → Shared → Prop), (∀ s₀ I s₁ P J, Ext nobody s s₀ → Src W (C.avd oa) target s₀ I s₁ P J xs → Q (.ref I) s₁) →
      wpAny W.M A (eval e C.env) (fun x s₁ => wpAny W.M A (pyIter x) Q E s₁) E s
noncomputable def GoodTg (W : Wd) (S : Sx) (target : Expr) (tg : V → St → Option St) : Prop :=
  ∀ (A : Around) (C : Cx) (oa : Option Addr) (s : Shared) (σ σ' : St) (r : Value) (x : V), A.handled = none → FrS S C → Rep W S C oa s σ → Rd (C.avd oa) s r x → tg x σ = some σ' → ∀ (Q : Unit → Shared → Prop) (E : Value → Shared → Prop),
    (∀ s', Ext (C.mut oa) s s' → (∀ a o, s.heap.get? a = some o → ∃ o', s'.heap.get? a = some o') → Rep W S C oa s' σ' → Q () s') → wpAny W.M A (assign target C.env r) Q E s
noncomputable def tgName (i : Nat) (x : V) (σ : St) : Option St := some { σ with ρ := setS σ.ρ i x }
theorem tg_name {W : Wd} {S : Sx} {x : Str} {i : Nat} {pos : Pos} (hS : SxOk S) (h : isSlot S i x = true) : GoodTg W S (.Name x pos) (tgName i) := by
  intro A C oa s σ σ' r v _ hC R q e Q E hQ
  cases e
  exact tgt_name hS h A C oa s σ r v hC R q Q E hQ
noncomputable def tgTup (is : List Nat) (x : V) (σ : St) : Option St := match x with | .tup l => stores is l σ | _ => none
theorem tg_tup {W : Wd} {S : Sx} {elts : List Expr} {n : Nat} {tpos : Pos} {ts : List (Env → Value → Sem Unit)} {is : List Nat} (hT : Tgts W S ts is)
    (ht : ∀ env, (assignEach elts env).map (·.2) = ts.map fun t => t env := by intro _; rfl) (hstar : ∀ env, (assignEach elts env).findIdx? (·.1) = none := by intro _; rfl) : GoodTg W S (.Tuple elts n tpos) (tgTup is) := by
  intro A C oa s σ σ' r v hA hC R q e Q E hQ
  cases q <;> try (cases e; done)
  rename_i a vs xs htu na qa
  simp only [tgTup] at e
  show wpAny _ _ (do standAt tpos; unpack (.ref a) (assignEach elts C.env)) _ _ _
  have hlen : (assignEach elts C.env).length = vs.size := by
    have := congrArg List.length (ht C.env)
    have h3 := qa.length
    simp only [List.length_map, Array.length_toList] at this h3
    rw [this, hT.length, stores_length e, h3]
  refine wpAny_bind (wpAny_standAt (unpack_tuple hA htu hlen (hstar _) fun h' he => ?_))
  rw [ht]
  have e2 := ext_size he
  exact assign_good hC hT (R.ext e2) (qa.ext e2 fun _ x => x.elim) e fun s₃ e₃ t₃ R₃ => hQ s₃ (e2.weak.trans' e₃) (fun b o e => let ⟨o', h'⟩ := e2.there b o e; t₃ b o' h') R₃

/-- more to keep off -/
noncomputable def Cx.add (C : Cx) (P : Addr → Prop) : Cx := ⟨C.env, fun a => C.out a ∨ P a⟩
theorem FrS.add {S : Sx} {C : Cx} (h : FrS S C) (P : Addr → Prop) : FrS S (C.add P) := ⟨h.scope, h.kind, h.globals, h.builtins, h.ne, h.apart, h.cell⟩
theorem avd_add {C : Cx} {P : Addr → Prop} {oa : Option Addr} {a : Addr} : (C.add P).avd oa a ↔ C.avd oa a ∨ P a := by
  show ((C.out a ∨ P a) ∨ C.mut oa a) ↔ (C.out a ∨ C.mut oa a) ∨ P a
  constructor
  · rintro ((h | h) | h)
    · exact .inl (.inl h)
    · exact .inr h
    · exact .inl (.inr h)
  · rintro ((h | h) | h)
    · exact .inl (.inl h)
    · exact .inr h
    · exact .inl (.inr h)
theorem Rep.add {W : Wd} {S : Sx} {C : Cx} {oa : Option Addr} {s s' : Shared} {σ : St} {P : Addr → Prop} (R : Rep W S C oa s σ) (e : Ext nobody s s') (hn : ∀ a, P a → s.heap.get? a = none) (hl : ∀ a, P a → ∃ o, s'.heap.get? a = some o) : Rep W S (C.add P) oa s' σ := by
  have R' := R.ext e
  have mv : ∀ a o, ¬ C.avd oa a → s.heap.get? a = some o → s'.heap.get? a = some o ∧ ¬ (C.add P).avd oa a := fun a o na ea => ⟨e.heap a o (fun x => x) ea, fun h => by
    rcases avd_add.mp h with h | h
    · exact na h
    · rw [hn a h] at ea; cases ea⟩
  refine ⟨R'.keep, R'.base, fun a h => ?_, R'.ns, R'.cells, fun i x v h1 h2 => ?_, R'.tk, fun xs h => ?_⟩
  · rcases avd_add.mp h with h | h
    · exact R'.live a h
    · exact hl a h
  · obtain ⟨r, hb, hr⟩ := R.slot i x v h1 h2
    exact ⟨r, hb.keep fun a o h => e.heap a o (fun x => x) h, hr.move mv e.tk⟩
  · obtain ⟨a, vs, h1, h2, h3, h4, h5⟩ := R.own xs h
    refine ⟨a, vs, h1, h2.keep fun a o h => e.heap a o (fun x => x) h, h3.at fun o h => e.heap a o (fun x => x) h, h4.move mv e.tk, fun h => ?_⟩
    rcases h with h | h
    · exact h5 h
    · obtain ⟨n, ho⟩ := h3
      rw [hn a h] at ho; cases ho
/-- the iterator's own step -/
theorem Rep.outStep {W : Wd} {S : Sx} {C : Cx} {oa : Option Addr} {s s' : Shared} {σ : St} {P : Addr → Prop} (R : Rep W S (C.add P) oa s σ) (e : Ext P s s') (hm : ∀ a, P a → ¬ C.mut oa a) (hb : ∀ a, P a → W.hb.get? a = none) : (∀ a, P a → ∃ o, s'.heap.get? a = some o) → Rep W S (C.add P) oa s' σ := by
  intro hl
  have key : ∀ a o, ¬ P a → s.heap.get? a = some o → s'.heap.get? a = some o := fun a o np ea => e.heap a o np ea
  have mv : ∀ a o, ¬ (C.add P).avd oa a → s.heap.get? a = some o → s'.heap.get? a = some o ∧ ¬ (C.add P).avd oa a := fun a o na ea => ⟨key a o (fun p => na (avd_add.mpr (.inr p))) ea, na⟩
  have hbd : ∀ y r, Bound C.env s.heap y r → Bound C.env s'.heap y r := fun y r b => by
    rcases b with ⟨h1, m, h2, h3⟩ | ⟨h1, c, h2, h3⟩
    · exact .inl ⟨h1, m, ns_at h2 fun o => key _ o fun p => hm _ p (.inl rfl), h3⟩
    · refine .inr ⟨h1, c, h2, isCell_at h3 fun o eo => key _ o (fun p => ?_) eo⟩
      exact hm _ p (.inr (.inl ⟨y, h2⟩))
  refine ⟨fun b o eb => key b o (fun p => by rw [hb b p] at eb; cases eb) (R.keep b o eb), R.base, fun a h => ?_, let ⟨m, h⟩ := R.ns; ⟨m, ns_at h fun o => key _ o fun p => hm _ p (.inl rfl)⟩, fun x c h => ?_, fun i x v h1 h2 => ?_, Nat.lt_of_lt_of_le R.tk e.tk, fun xs h => ?_⟩
  · rcases avd_add.mp h with h' | h'
    · by_cases p : P a
      · exact hl a p
      · obtain ⟨o, ho⟩ := R.live a h; exact ⟨o, key a o p ho⟩
    · exact hl a h'
  · obtain ⟨u, hu⟩ := R.cells x c h
    exact ⟨u, isCell_at hu fun o => key c o fun p => hm _ p (.inr (.inl ⟨x, h⟩))⟩
  · obtain ⟨r, hb, hr⟩ := R.slot i x v h1 h2
    exact ⟨r, hbd _ _ hb, hr.move mv e.tk⟩
  · obtain ⟨a, vs, h1, h2, h3, h4, h5⟩ := R.own xs h
    exact ⟨a, vs, h1, hbd _ _ h2, h3.at fun o => key a o fun p => hm a p (.inr (.inr h1)), h4.move mv e.tk, h5⟩


end
end Lite
namespace Lite
section
open PySem PySem.Calls PyProof.Rows PySem.W

/-- back from the loop -/
theorem Rep.drop {W : Wd} {S : Sx} {C : Cx} {oa : Option Addr} {s s' : Shared} {σ : St} {P : Addr → Prop} (R : Rep W S (C.add P) oa s σ) (e : Ext P s s') (hm : ∀ a, P a → ¬ C.mut oa a) (hb : ∀ a, P a → W.hb.get? a = none) (hav : ∀ a, C.avd oa a → ¬ P a) : Rep W S C oa s' σ := by
  have key : ∀ a o, ¬ P a → s.heap.get? a = some o → s'.heap.get? a = some o := fun a o np ea => e.heap a o np ea
  have mv : ∀ a o, ¬ (C.add P).avd oa a → s.heap.get? a = some o → s'.heap.get? a = some o ∧ ¬ C.avd oa a := fun a o na ea => ⟨key a o (fun p => na (avd_add.mpr (.inr p))) ea, fun h => na (avd_add.mpr (.inl h))⟩
  have hbd : ∀ y r, Bound C.env s.heap y r → Bound C.env s'.heap y r := fun y r b => by
    rcases b with ⟨h1, m, h2, h3⟩ | ⟨h1, c, h2, h3⟩
    · exact .inl ⟨h1, m, ns_at h2 fun o => key _ o fun p => hm _ p (.inl rfl), h3⟩
    · exact .inr ⟨h1, c, h2, isCell_at h3 fun o eo => key _ o (fun p => hm _ p (.inr (.inl ⟨y, h2⟩))) eo⟩
  refine ⟨fun b o eb => key b o (fun p => by rw [hb b p] at eb; cases eb) (R.keep b o eb), R.base, fun a h => ?_, let ⟨m, h⟩ := R.ns; ⟨m, ns_at h fun o => key _ o fun p => hm _ p (.inl rfl)⟩, fun x c h => ?_, fun i x v h1 h2 => ?_, Nat.lt_of_lt_of_le R.tk e.tk, fun xs h => ?_⟩
  · obtain ⟨o, ho⟩ := R.live a (avd_add.mpr (.inl h))
    exact ⟨o, key a o (hav a h) ho⟩
  · obtain ⟨u, hu⟩ := R.cells x c h
    exact ⟨u, isCell_at hu fun o => key c o fun p => hm _ p (.inr (.inl ⟨x, h⟩))⟩
  · obtain ⟨r, hb, hr⟩ := R.slot i x v h1 h2
    exact ⟨r, hbd _ _ hb, hr.move mv e.tk⟩
  · obtain ⟨a, vs, h1, h2, h3, h4, h5⟩ := R.own xs h
    exact ⟨a, vs, h1, hbd _ _ h2, h3.at fun o => key a o fun p => hm a p (.inr (.inr h1)), h4.move mv e.tk, fun h => h5 (.inl h)⟩

/-- for -/
noncomputable def dLoop (tg : V → St → Option St) (B : Den) : List V → Den
  | [], σ => some (.next, σ)
  | x :: xs, σ => (tg x σ).bind fun σ₁ => (B σ₁).bind fun p => match p.1 with
      | .next => dLoop tg B xs p.2
      | .cont => dLoop tg B xs p.2
      | .brk => some (.next, p.2)
      | .ret v => some (.ret v, p.2)
noncomputable def dFor (d : St → Option (List V)) (tg : V → St → Option St) (B : Den) (σ : St) : Option (Fl × St) := (d σ).bind fun xs => dLoop tg B xs σ

theorem rd_add {C : Cx} {P : Addr → Prop} {oa : Option Addr} {s : Shared} {r : Value} {v : V} (q : Rd (fun a => C.avd oa a ∨ P a) s r v) : Rd ((C.add P).avd oa) s r v :=
  q.move (fun _ _ na e => ⟨e, fun h => na (avd_add.mp h)⟩) (Nat.le_refl _)

theorem st_for {W : Wd} {k : Nat} {S : Sx} {pos : Pos} {target iter : Expr} {body : List Stmt} {d : St → Option (List V)} {tg : V → St → Option St} {B : Den} (gi : GoodI W k S target iter d) (gt : GoodTg W S target tg) (g : GoodB W k S body B)
    (hs : ∀ env x, foldedSetIterable iter env x = pure x := by intro _ _; rfl) : GoodS W k S (.For target iter body [] pos) (dFor d tg B) := by
  intro A C oa s σ φ σ' hA hC R h Q E hQ
  unfold dFor at h
  cases h1 : d σ with
  | none => rw [h1] at h; cases h
  | some xs =>
  rw [h1] at h
  simp only [Option.bind_some] at h
  refine wpAny_For (gi A C oa s σ xs hA hC R h1 _ _ fun s₀ I s₁ P J e₀ src => ?_) (hs _)
  have e₁ := e₀.trans' src.ext
  have hnew : ∀ a, P a → s.heap.get? a = none := fun a p => none_of_ext e₀ (src.new a p)
  have R₀ := R.ext e₀
  have hav : ∀ a, C.avd oa a → ¬ P a := fun a h p => by
    obtain ⟨o, ho⟩ := R.live a h
    rw [hnew a p] at ho; cases ho
  have hb : ∀ a, P a → W.hb.get? a = none := fun a p => by
    cases q : W.hb.get? a with
    | none => rfl
    | some o => have := R.keep a o q; rw [hnew a p] at this; cases this
  have hlive1 : ∀ a, P a → ∃ o, s₁.heap.get? a = some o := src.live _ _ src.start
  have R₁ : Rep W S (C.add P) oa s₁ σ := R₀.add src.ext src.new hlive1
  have hm : ∀ oa', Old C oa s₁ oa' → ∀ a, P a → ¬ C.mut oa' a := fun oa' ho a p hma => by
    obtain ⟨o, hl⟩ := hlive1 a p
    exact hav a (.inr (ho a o hl hma)) p
  have hA' : Room k (A.mark none) := by obtain ⟨a, b, c⟩ := hA; exact ⟨by simp [Around.mark, a], b, c⟩
  refine codeAny_forLoop_any (fun n t => ∃ ys oa' σ₁, n = ys.length ∧ dLoop tg B ys σ₁ = some (φ, σ') ∧ J ys t ∧ Ext (fun a => C.mut oa a ∨ P a) s₁ t ∧ (∀ a o, s₁.heap.get? a = some o → ∃ o', t.heap.get? a = some o') ∧ Old C oa s₁ oa' ∧ Rep W S (C.add P) oa' t σ₁) ?_ xs.length
    ⟨xs, oa, σ, rfl, h, src.start, Ext.refl _ _, fun a o e => ⟨o, e⟩, Old.refl _ _ _, R₁⟩
  rintro n t ⟨ys, oa', σ₁, rfl, hd, hJ, et, tt, ot, Rt⟩
  have fromS : ∀ {u : Shared}, Ext (fun a => C.mut oa a ∨ P a) s₁ u → Ext (C.mut oa) s u := fun eu => (e₁.weak (mu := C.mut oa)).trans eu fun a o ea hma => by
    rcases hma with h | h
    · exact h
    · rw [hnew a h] at ea; cases ea
  have thereS : ∀ {u : Shared}, (∀ a o, s₁.heap.get? a = some o → ∃ o', u.heap.get? a = some o') → ∀ a o, s.heap.get? a = some o → ∃ o', u.heap.get? a = some o' := fun tu a o ea => tu a o (e₁.heap a o (fun x => x) ea)
  have oldS : ∀ {ob : Option Addr}, Old C oa s₁ ob → Old C oa s ob := fun ho a o ea hma => ho a o (e₁.heap a o (fun x => x) ea) hma
  have offP : ∀ {ob : Option Addr} {u : Shared}, Old C oa s₁ ob → ∀ a, C.avd ob a → (∃ o, s₁.heap.get? a = some o) → ¬ P a := fun ho a hva ⟨o, ea⟩ p => by
    rcases hva with hva | hva
    · exact hav a (.inl hva) p
    · exact hav a (.inr (ho a o ea hva)) p
  have avP : ∀ {ob : Option Addr}, Old C oa s₁ ob → ∀ a, C.avd ob a → ¬ P a := fun ho a hva p => by
    obtain ⟨o, ea⟩ := hlive1 a p
    rcases hva with hva | hva
    · exact hav a (.inl hva) p
    · exact hav a (.inr (ho a o ea hva)) p
  cases ys with
  | nil =>
    cases hd
    refine wpAny_mono (src.stop (A.mark none) t hA'.handled hJ (fun t' => Ext P t t') _ fun t' e => e) (fun o t' ho => ?_) fun _ _ e => e
    obtain ⟨rfl, e⟩ := ho
    have et' : Ext (fun a => C.mut oa a ∨ P a) s₁ t' := et.trans e fun a o _ p => .inr p
    refine wpAny_execs_nil (hQ .next oa' t' (fromS et') (fun a o ea => ?_) (oldS ot) (Rt.drop e (hm _ ot) hb (avP ot)) trivial)
    obtain ⟨o', ho'⟩ := thereS tt a o ea
    exact ⟨o', e.heap a o' (fun p => by rw [hnew a p] at ea; cases ea) ho'⟩
  | cons x ys =>
    unfold dLoop at hd
    cases h2 : tg x σ₁ with
    | none => rw [h2] at hd; cases hd
    | some σ₂ =>
    rw [h2] at hd
    simp only [Option.bind_some] at hd
    cases h3 : B σ₂ with
    | none => rw [h3] at hd; cases hd
    | some p =>
    obtain ⟨φ₁, σ₃⟩ := p
    rw [h3] at hd
    simp only [Option.bind_some] at hd
    have hold₀ : ∀ a o, s₀.heap.get? a = some o → C.avd oa' a → C.avd oa a := fun a o ea hva => by
      rcases hva with hva | hva
      · exact .inl hva
      · exact .inr (ot a o (src.ext.heap a o (fun x => x) ea) hva)
    have hLt : Live (C.avd oa') t := fun a h => Rt.live a (avd_add.mpr (.inl h))
    refine wpAny_mono (src.step (A.mark none) (C.avd oa') x ys t hA'.handled Rt.tk hLt hold₀ hJ (fun r t' => Ext P t t' ∧ Rd (fun a => C.avd oa' a ∨ P a) t' r x ∧ J ys t') _ fun r t' e q hJ' => ⟨e, q, hJ'⟩) (fun o t₁ ho => ?_) fun _ _ e => e
    obtain ⟨r, rfl, hw⟩ := ho
    refine wpAny_mono hw (fun _ t' ht' => ?_) fun _ _ e => e
    obtain ⟨e, q, hJ'⟩ := ht'
    have Rt' : Rep W S (C.add P) oa' t' σ₁ := Rt.outStep e (hm _ ot) hb (src.live _ _ hJ')
    have et' : Ext (fun a => C.mut oa a ∨ P a) s₁ t' := et.trans e fun a o _ p => .inr p
    have tt' : ∀ a o, s₁.heap.get? a = some o → ∃ o', t'.heap.get? a = some o' := fun a o ea => by
      obtain ⟨o', ho'⟩ := tt a o ea
      by_cases p : P a
      · exact src.live _ _ hJ' a p
      · exact ⟨o', e.heap a o' p ho'⟩
    refine gt (A.mark none) (C.add P) oa' t' σ₁ σ₂ r x hA'.handled (hC.add P) Rt' (rd_add q) h2 _ _ fun t₂ e₂ tt₂ R₂ => ?_
    have et₂ : Ext (fun a => C.mut oa a ∨ P a) s₁ t₂ := et'.trans e₂ fun a o ea hma => .inl (ot a o ea hma)
    have hJ₂ : J ys t₂ := src.keep _ _ _ _ hJ' e₂ (fun a o ea hma => hold₀ a o ea (.inr hma)) fun a hma => avP ot a (.inr hma)
    have tt₂' : ∀ a o, s₁.heap.get? a = some o → ∃ o', t₂.heap.get? a = some o' := fun a o ea => let ⟨o', h'⟩ := tt' a o ea; tt₂ a o' h'
    refine g (A.mark none) (C.add P) oa' t₂ σ₂ φ₁ σ₃ hA' (hC.add P) R₂ h3 _ _ fun f oa₃ t₃ e₃ tt₃ o₃ R₃ hf => ?_
    have et₃ : Ext (fun a => C.mut oa a ∨ P a) s₁ t₃ := et₂.trans e₃ fun a o ea hma => .inl (ot a o ea hma)
    have tt₃' : ∀ a o, s₁.heap.get? a = some o → ∃ o', t₃.heap.get? a = some o' := fun a o ea => let ⟨o', h'⟩ := tt₂' a o ea; tt₃ a o' h'
    have ot₃ : Old C oa s₁ oa₃ := fun a o ea hma => by
      obtain ⟨o', ho'⟩ := tt₂' a o ea
      exact ot a o ea (o₃ a o' ho' hma)
    have hJ₃ : J ys t₃ := src.keep _ _ _ _ hJ₂ e₃ (fun a o ea hma => hold₀ a o ea (.inr hma)) fun a hma => avP ot a (.inr hma)
    have fin : ∀ {ψ : Fl} {f : Flow}, FlRd C.out t₃ f ψ → (φ = ψ ∧ σ' = σ₃) → Q f t₃ := fun hf' hh => by
      obtain ⟨rfl, rfl⟩ := hh
      exact hQ _ oa₃ t₃ (fromS et₃) (thereS tt₃') (oldS ot₃) (R₃.drop (Ext.refl _ _) (hm _ ot₃) hb (avP ot₃)) hf'
    cases φ₁ with
    | next => (cases f <;> try (exact False.elim hf)); exact ⟨ys.length, Nat.lt_succ_self _, ys, oa₃, σ₃, rfl, hd, hJ₃, et₃, tt₃', ot₃, R₃⟩
    | cont => (cases f <;> try (exact False.elim hf)); exact ⟨ys.length, Nat.lt_succ_self _, ys, oa₃, σ₃, rfl, hd, hJ₃, et₃, tt₃', ot₃, R₃⟩
    | brk => (cases f <;> try (exact False.elim hf)); cases hd; exact fin (ψ := .next) (f := .next) trivial ⟨rfl, rfl⟩
    | ret v => (cases f <;> try (exact False.elim hf)); cases hd; exact fin (ψ := .ret v) (f := .ret _) (Rd.move (fun a o na ea => ⟨ea, fun h => na (.inl h)⟩) (Nat.le_refl _) hf) ⟨rfl, rfl⟩


end
end Lite
namespace Lite
section
open PySem PySem.Calls PyProof.Rows PySem.W

noncomputable def KeptFrom (av : Addr → Prop) (s₀ t : Shared) : Prop := (∀ a o, ¬ av a → s₀.heap.get? a = some o → t.heap.get? a = some o) ∧ s₀.toks ≤ t.toks
theorem KeptFrom.ext {av mu : Addr → Prop} {s₀ t t' : Shared} (k : KeptFrom av s₀ t) (e : Ext mu t t') (h : ∀ a o, s₀.heap.get? a = some o → mu a → av a) : KeptFrom av s₀ t' :=
  ⟨fun a o na ea => e.heap a o (fun m => na (h a o ea m)) (k.1 a o na ea), Nat.le_trans k.2 e.tk⟩
theorem rd_kept {av av' P : Addr → Prop} {s₀ t : Shared} {r : Value} {v : V} (q : Rd av s₀ r v) (k : KeptFrom av s₀ t) (ha : ∀ a o, s₀.heap.get? a = some o → av' a → av a) (hP : ∀ a, P a → s₀.heap.get? a = none) : Rd (fun a => av' a ∨ P a) t r v :=
  q.move (fun a o na ea => ⟨k.1 a o na ea, fun h => by
    rcases h with h | h
    · exact na (ha a o ea h)
    · rw [hP a h] at ea; cases ea⟩) k.2
theorem ext_but {I : Addr} {t : Shared} {h' : Heap} {tk : Nat} (hk : ∀ b o, b ≠ I → t.heap.get? b = some o → h'.get? b = some o) (ht : t.toks ≤ tk) : Ext (fun a => a = I) t { t with heap := h', toks := tk } :=
  Ext.of_heap (fun b o nb e => hk b o nb e) ht

theorem Src.mk1 {W : Wd} {av : Addr → Prop} {target : Expr} {s₀ s₁ : Shared} {I : Addr} {xs : List V} (hext : Ext nobody s₀ s₁) (hI : s₀.heap.get? I = none) (St : Nat → Heap → Prop)
    (frame : ∀ i h h', St i h → (∀ b o, (b = I ∨ (¬ av b ∧ ∃ o₀, s₀.heap.get? b = some o₀)) → h.get? b = some o → h'.get? b = some o) → St i h')
    (hlive : ∀ i h, St i h → ∃ o, h.get? I = some o) (h0 : St 0 s₁.heap)
    (nxt : ∀ (A : Around) (i : Nat) (t : Shared), A.handled = none → 0 < t.toks → St i t.heap → ∀ x, xs[i]? = some x → ∀ (Q : Option Value → Shared → Prop) (E : Value → Shared → Prop),
      (∀ v h' tk, t.toks ≤ tk → St (i + 1) h' → (∀ b o, b ≠ I → t.heap.get? b = some o → h'.get? b = some o) →
        (∀ av' : Addr → Prop, (∀ a o, s₀.heap.get? a = some o → av' a → av a) → KeptFrom av s₀ { t with heap := h', toks := tk } → Rd (fun a => av' a ∨ a = I) { t with heap := h', toks := tk } v x) → Q (some v) { t with heap := h', toks := tk }) → wpAny W.M A (pyNext (.ref I)) Q E t)
    (stp : ∀ (A : Around) (t : Shared), A.handled = none → St xs.length t.heap → ∀ (Q : Option Value → Shared → Prop) (E : Value → Shared → Prop),
      (∀ h' tk, t.toks ≤ tk → (∀ b o, b ≠ I → t.heap.get? b = some o → h'.get? b = some o) → Q none { t with heap := h', toks := tk }) → wpAny W.M A (pyNext (.ref I)) Q E t)
    (slf : ∀ (A : Around) (i : Nat) (t : Shared), St i t.heap → ∀ (Q : Value → Shared → Prop) (E : Value → Shared → Prop), Q (.ref I) t → wpAny W.M A (pyIter (.ref I)) Q E t)
    (htg : ∀ v, letOwnedTupleGo target (.ref I) v = pure ()) : Src W av target s₀ I s₁ (fun a => a = I) (fun ys t => ∃ i, St i t.heap ∧ ys = xs.drop i ∧ i ≤ xs.length ∧ KeptFrom av s₀ t) xs where
  ext := hext
  new := fun a h => by rw [h]; exact hI
  start := ⟨0, h0, by simp, Nat.zero_le _, fun a o _ e => hext.heap a o (fun x => x) e, hext.tk⟩
  live := fun ys t h a ha => by
    obtain ⟨i, hs, _⟩ := h
    rw [ha]; exact hlive i _ hs
  keep := fun ys t t' mu h e h1 h2 => by
    obtain ⟨i, hs, hy, hi, hk⟩ := h
    refine ⟨i, frame i _ _ hs fun b o hb eb => e.heap b o (fun m => ?_) eb, hy, hi, hk.ext e h1⟩
    rcases hb with rfl | ⟨nb, o₀, eo⟩
    · exact h2 _ m rfl
    · exact nb (h1 b o₀ eo m)
  step := fun A av' x ys t hA htk hL hold h Q E hQ => by
    obtain ⟨i, hs, hy, hi, hk⟩ := h
    have hx : xs[i]? = some x := by
      have := congrArg List.head? hy
      simpa [List.head?_drop] using this.symm
    have hys : ys = xs.drop (i + 1) := by
      have := congrArg List.tail hy
      simpa [List.tail_drop] using this
    refine nxt A i t hA htk hs x hx _ _ fun v h' tk ht hs' hkp hrd => ⟨v, rfl, wpAny_of_eq (htg v) ?_⟩
    have e := ext_but (tk := tk) hkp ht
    have hk' : KeptFrom av s₀ { t with heap := h', toks := tk } := hk.ext e fun a o ea ha => by rw [ha, hI] at ea; cases ea
    exact hQ v _ e (hrd av' hold hk') ⟨i + 1, hs', hys, (List.getElem?_eq_some_iff.mp hx).1, hk'⟩
  stop := fun A t hA h Q E hQ => by
    obtain ⟨i, hs, hy, hi, hk⟩ := h
    have : i = xs.length := by
      have := congrArg List.length hy
      simp at this; omega
    subst this
    exact stp A t hA hs _ _ fun h' tk ht hkp => ⟨rfl, hQ _ (ext_but hkp ht)⟩
  self := fun A ys t _ h Q E hQ => by
    obtain ⟨i, hs, _⟩ := h
    exact slf A i t hs Q E hQ

/-- over a value -/
noncomputable def iterV : V → Option (List V)
  | .list l => some l
  | .tup l => some l
  | .str l => some (l.map .ch)
  | _ => none
theorem iter_V {W : Wd} {A : Around} {av : Addr → Prop} {target : Expr} {s : Shared} {r : Value} {v : V} {xs : List V} (q : Rd av s r v) (h : iterV v = some xs) (htg : ∀ I v, letOwnedTupleGo target I v = pure ())
    {Q : Value → Shared → Prop} {E : Value → Shared → Prop} (hQ : ∀ I s₁ P J, Src W av target s I s₁ P J xs → Q (.ref I) s₁) : wpAny W.M A (pyIter r) Q E s := by
  have hI : s.heap.get? s.heap.objs.size = none := Heap.none_size _
  cases q with
  | @list a vs xs' hl na ha =>
    cases h
    have hne : a ≠ s.heap.objs.size := fun q => by obtain ⟨n, ho⟩ := hl; rw [q, hI] at ho; cases ho
    obtain ⟨n, ho⟩ := id hl
    refine wpAny_pyIter_list hl.isList (hQ _ _ _ _ (Src.mk1 (Ext.pushed s _ s.toks) hI (fun i h => h.IsListIter s.heap.objs.size a i ∧ h.IsList a vs) (fun i h h' st hk => ?_) (fun i h st => let ⟨o, ho, _⟩ := st.1; ⟨o, ho⟩)
      ⟨⟨_, Heap.get?_push_size _ rfl, rfl, rfl⟩, hl.isList.push _⟩ (fun A i t hA htk st x hx Q E hq => ?_) (fun A t hA st Q E hq => ?_) (fun A i t st Q E hq => wpAny_pyIter_listiter st.1 hq) (htg _)))
    · exact ⟨st.1.at fun o e => hk _ o (.inl rfl) e, st.2.at fun o e => hk _ o (.inr ⟨na, _, ho⟩) e⟩
    · obtain ⟨y, hy, q⟩ := ha.get hx
      refine wpAny_pyNext_list_item st.1 st.2 (by simpa using hy) fun h' hit hs => ?_
      exact hq y h' t.toks (Nat.le_refl _) ⟨hit, st.2.extBut hs.extBut hne⟩ (fun b o hb e => hs.extBut b o hb e) fun av' ha' hk => rd_kept q hk ha' fun a h => by rw [h]; exact hI
    · have hn : vs[xs.length]? = none := by
        have := ha.length
        simp at this
        rw [Array.getElem?_eq_none]; omega
      exact wpAny_pyNext_list_end hA st.1 st.2 hn fun h' he => hq h' t.toks (Nat.le_refl _) fun b o hb e => he b o hb e
  | @tup a vs xs' hl na ha =>
    cases h
    obtain ⟨o₀, ho₀, _⟩ := id hl
    have hne : a ≠ s.heap.objs.size := fun q => by rw [q, hI] at ho₀; cases ho₀
    have hl' : s.heap.IsTuple a vs := hl
    refine wpAny_pyIter_tuple hl' (hQ _ _ _ _ (Src.mk1 (Ext.pushed s _ s.toks) hI (fun i h => h.IsTupleIter s.heap.objs.size a i ∧ h.IsTuple a vs) (fun i h h' st hk => ?_) (fun i h st => let ⟨o, ho, _⟩ := st.1; ⟨o, ho⟩)
      ⟨⟨_, Heap.get?_push_size _ rfl, rfl, rfl⟩, hl'.push _⟩ (fun A i t hA htk st x hx Q E hq => ?_) (fun A t hA st Q E hq => ?_) (fun A i t st Q E hq => wpAny_pyIter_tupleiter st.1 hq) (htg _)))
    · exact ⟨st.1.at fun o e => hk _ o (.inl rfl) e, st.2.at fun o e => hk _ o (.inr ⟨na, _, ho₀⟩) e⟩
    · obtain ⟨y, hy, q⟩ := ha.get hx
      refine wpAny_pyNext_tuple_item st.1 st.2 (by simpa using hy) fun h' hit hs => ?_
      exact hq y h' t.toks (Nat.le_refl _) ⟨hit, st.2.extBut hs.extBut hne⟩ (fun b o hb e => hs.extBut b o hb e) fun av' ha' hk => rd_kept q hk ha' fun a h => by rw [h]; exact hI
    · have hn : vs[xs.length]? = none := by
        have := ha.length
        simp at this
        rw [Array.getElem?_eq_none]; omega
      exact wpAny_pyNext_tuple_end hA st.1 st.2 hn fun h' he => hq h' t.toks (Nat.le_refl _) fun b o hb e => he b o hb e
  | str x tk =>
    cases h
    have hx' : ∀ (i : Nat) y, (x.cps.toList.map V.ch)[i]? = some y → ∃ c, x.cps[i]? = some c ∧ y = .ch c := fun i y h => by
      simp only [List.getElem?_map, Option.map_eq_some_iff] at h
      obtain ⟨c, h1, h2⟩ := h
      exact ⟨c, by simpa using h1, h2.symm⟩
    have hend : x.cps[(x.cps.toList.map V.ch).length]? = none := by simp
    cases hall : x.cps.all (· < 128) with
    | true =>
      refine wpAny_pyIter_ascii hall (hQ _ _ _ _ (Src.mk1 (Ext.pushed s _ s.toks) hI (fun i h => h.IsStrIter s.heap.objs.size "str_ascii_iterator" x tk i) (fun i h h' st hk => ?_) (fun i h st => let ⟨o, ho, _⟩ := st; ⟨o, ho⟩)
        ⟨_, Heap.get?_push_size _ rfl, rfl, rfl⟩ (fun A i t hA htk st y hy Q E hq => ?_) (fun A t hA st Q E hq => ?_) (fun A i t st Q E hq => wpAny_pyIter_striter_ascii st hq) (htg _)))
      · obtain ⟨o, ho, r⟩ := st; exact ⟨o, hk _ o (.inl rfl) ho, r⟩
      · obtain ⟨c, hc, rfl⟩ := hx' i y hy
        refine wpAny_pyNext_ascii_item st hc fun h' hit hs => ?_
        exact hq _ h' (t.toks + 1) (Nat.le_succ _) hit (fun b o hb e => hs.extBut b o hb e) fun av' _ _ => .ch c _ htk (Nat.lt_succ_self _)
      · exact wpAny_pyNext_ascii_end hA st hend fun h' he => hq h' t.toks (Nat.le_refl _) fun b o hb e => he b o hb e
    | false =>
      refine wpAny_pyIter_wide hall (hQ _ _ _ _ (Src.mk1 (Ext.pushed s _ s.toks) hI (fun i h => h.IsStrIter s.heap.objs.size "str_iterator" x tk i) (fun i h h' st hk => ?_) (fun i h st => let ⟨o, ho, _⟩ := st; ⟨o, ho⟩)
        ⟨_, Heap.get?_push_size _ rfl, rfl, rfl⟩ (fun A i t hA htk st y hy Q E hq => ?_) (fun A t hA st Q E hq => ?_) (fun A i t st Q E hq => wpAny_pyIter_striter_wide st hq) (htg _)))
      · obtain ⟨o, ho, r⟩ := st; exact ⟨o, hk _ o (.inl rfl) ho, r⟩
      · obtain ⟨c, hc, rfl⟩ := hx' i y hy
        refine wpAny_pyNext_wide_item st hc fun h' hit hs => ?_
        exact hq _ h' (t.toks + 1) (Nat.le_succ _) hit (fun b o hb e => hs.extBut b o hb e) fun av' _ _ => .ch c _ htk (Nat.lt_succ_self _)
      · exact wpAny_pyNext_wide_end hA st hend fun h' he => hq h' t.toks (Nat.le_refl _) fun b o hb e => he b o hb e
  | _ => cases h
noncomputable def dIter (d : St → Option V) (σ : St) : Option (List V) := (d σ).bind iterV
theorem it_val {W : Wd} {k : Nat} {S : Sx} {target e : Expr} {d : St → Option V} (g : GoodE W k S e d) (htg : ∀ I v, letOwnedTupleGo target I v = pure () := by intro _ _; rfl) : GoodI W k S target e (dIter d) := by
  intro A C oa s σ xs hA hC R h Q E hQ
  unfold dIter at h
  cases h1 : d σ with
  | none => rw [h1] at h; cases h
  | some v =>
    rw [h1] at h
    exact g A C oa s σ v hA hC R h1 _ _ fun r s₁ e₁ q => iter_V q h htg fun I s₂ P J src => hQ s₁ I s₂ P J e₁ src

/-- over a range -/
noncomputable def rangeFrom (a : Int) : Nat → List V
  | 0 => []
  | n + 1 => .int a :: rangeFrom (a + 1) n
theorem rangeFrom_length : ∀ (n : Nat) (a : Int), (rangeFrom a n).length = n
  | 0, _ => rfl
  | n + 1, a => by simp [rangeFrom, rangeFrom_length n]
theorem rangeFrom_get : ∀ (n : Nat) (a : Int) (i : Nat) (x : V), (rangeFrom a n)[i]? = some x → x = .int (a + i) ∧ i < n
  | 0, _, _, _, h => by simp [rangeFrom] at h
  | n + 1, a, 0, x, h => by simp [rangeFrom] at h; exact ⟨by rw [← h]; simp, by omega⟩
  | n + 1, a, i + 1, x, h => by
    simp only [rangeFrom, List.getElem?_cons_succ] at h
    obtain ⟨h1, h2⟩ := rangeFrom_get n (a + 1) i x h
    exact ⟨by rw [h1]; congr 1; omega, by omega⟩
noncomputable def rangeV : List V → Option (List V)
  | [.int b] => match decide (b.natAbs < 1000000) with | true => some (rangeFrom 0 b.toNat) | false => none
  | [.int a, .int b] => match decide (a.natAbs < 1000000) && decide (b.natAbs < 1000000) with | true => some (rangeFrom a (b - a).toNat) | false => none
  | _ => none
theorem small_range {a b : Int} (ha : a.natAbs < 1000000) (hb : b.natAbs < 1000000) : Builtin.Range.small a b 1 = true ∧ Builtin.Range.rangeSize a b 1 = ((b - a).toNat : Int) := by
  have hsz : Builtin.Range.rangeSize a b 1 = ((b - a).toNat : Int) := by
    unfold Builtin.Range.rangeSize
    simp only [show (1 : Int) > 0 by decide, if_true]
    split
    · have : (b - a - 1) / 1 = b - a - 1 := Int.ediv_one _
      rw [this]; omega
    · omega
  refine ⟨?_, hsz⟩
  unfold Builtin.Range.small
  rw [hsz]
  simp only [Builtin.Range.rangeFitsLong, Bool.and_eq_true, decide_eq_true_eq, Bool.or_eq_true, show (1 : Int) > 0 by decide, if_true]
  simp
  omega
theorem src_range {W : Wd} {A : Around} {av : Addr → Prop} {target : Expr} {s : Shared} {r : Addr} {a b : Int} {t u v : Tok} (hr : IsRange s.heap r a b 1 t u v) (ha : a.natAbs < 1000000) (hb : b.natAbs < 1000000) (htg : ∀ I v, letOwnedTupleGo target I v = pure ())
    {Q : Value → Shared → Prop} {E : Value → Shared → Prop} (hQ : ∀ I s₁ P J, Src W av target s I s₁ P J (rangeFrom a (b - a).toNat) → Q (.ref I) s₁) : wpAny W.M A (pyIter (.ref r)) Q E s := by
  have hI : s.heap.get? s.heap.objs.size = none := Heap.none_size _
  obtain ⟨hsm, hsz⟩ := small_range ha hb
  refine wpAny_pyIter_range hr hsm (hQ _ _ _ _ (Src.mk1 (Ext.pushed s _ s.toks) hI (fun i h => IsRangeIter h s.heap.objs.size (a + (i : Nat)) (((b - a).toNat : Int) - (i : Nat)) 1) (fun i h h' st hk => hk _ _ (.inl rfl) st) (fun i h st => ⟨_, st⟩)
    ?_ (fun A i t hA htk st y hy Q E hq => ?_) (fun A t hA st Q E hq => ?_) (fun A i t st Q E hq => wpAny_pyIter_rangeiter st hq) (htg _)))
  · show IsRangeIter (s.heap.push _) _ _ _ _
    rw [hsz]
    simp only [Int.natCast_zero, Int.add_zero, Int.sub_zero]
    exact Heap.get?_push_size _ rfl
  · obtain ⟨rfl, hlt⟩ := rangeFrom_get _ _ _ _ hy
    refine wpAny_pyNext_range_item st (by omega) fun h' hit hs => ?_
    refine hq _ h' (t.toks + 1) (Nat.le_succ _) ?_ (fun b o hb e => hs.extBut b o hb e) fun av' _ _ => .int _ _
    have e1 : a + ((i + 1 : Nat) : Int) = a + (i : Int) + 1 := by omega
    have e2 : ((b - a).toNat : Int) - ((i + 1 : Nat) : Int) = ((b - a).toNat : Int) - (i : Int) - 1 := by omega
    rw [e1, e2]; exact hit
  · rw [rangeFrom_length] at st
    exact wpAny_pyNext_range_end hA st (by omega) fun h' he => hq h' t.toks (Nat.le_refl _) fun b o hb e => he b o hb e
noncomputable def dRange (ds : St → Option (List V)) (σ : St) : Option (List V) := (ds σ).bind rangeV
theorem it_range {W : Wd} {k : Nat} {S : Sx} {target : Expr} {np pos : Pos} {e : Expr} {es : List Expr} {ds : St → Option (List V)} (hW : W.Ok) (hb : Bi W "range" (.type "range")) (hx : isGlob S "range" = true) (gs : GoodEs W k S (e :: es) ds)
    (he : ∀ env, starEach (e :: es) env = (false, eval e env) :: starEach es env := by intro _; rfl) (hp : ∀ env, (backTo pos (starEach (e :: es) env)).any (·.1) = false := by intro _; rfl) (htg : ∀ I v, letOwnedTupleGo target I v = pure () := by intro _ _; rfl) :
    GoodI W k S target (.Call (.Name "range" np) (e :: es) [] pos) (dRange ds) := by
  intro A C oa s σ xs hA hC R h Q E hQ
  unfold dRange at h
  cases h1 : ds σ with
  | none => rw [h1] at h; cases h
  | some vs =>
    rw [h1] at h
    simp only [Option.bind_some] at h
    refine wpAny_Call_NameR (glob_name hW hC R hx (.inr hb) (PySem.callWith_type (hp _) ?_))
    have hsp := gs A C oa s σ vs pos hA hC R h1 (fun rs s' => wpAny W.M A (call (.type "range") ([] ++ rs) []) (fun x s₁ => wpAny W.M A (pyIter x) Q E s₁) E s') E
      fun rs s' e' q => ?_
    · rw [he] at hsp ⊢
      exact evalArgs_plain hsp
    · unfold rangeV at h
      split at h <;> try (cases h; done)
      · rename_i b
        cases q with
        | cons q q' =>
        cases q'
        cases q with
        | int _ t =>
        cases hb : decide (b.natAbs < 1000000) with
        | false => rw [hb] at h; cases h
        | true =>
          rw [hb] at h; cases h
          refine call_range_1 (src_range (av := C.avd oa) (a := 0) (b := b) (t := s'.toks) (u := t) (v := s'.toks + 1) (Heap.get?_push_size _ rfl) (by decide) (by simpa using hb) htg fun I s₁ P J src => ?_)
          have e2 : Ext nobody s' { s' with heap := s'.heap.push { cls := .type "range", data := .fields #[.int 0 s'.toks, .int b t, .int 1 (s'.toks + 1)] }, toks := s'.toks + 1 + 1 } := Ext.pushed s' _ _
          exact hQ _ I s₁ P J (e'.trans' e2) (by simpa using src)
      · rename_i a b
        cases q with
        | cons q q' =>
        cases q' with
        | cons q₂ q'' =>
        cases q''
        cases q with
        | int _ t =>
        cases q₂ with
        | int _ u =>
        cases hb : decide (a.natAbs < 1000000) && decide (b.natAbs < 1000000) with
        | false => rw [hb] at h; cases h
        | true =>
          rw [hb] at h; cases h
          simp only [Bool.and_eq_true, decide_eq_true_eq] at hb
          refine call_range_2 (src_range (av := C.avd oa) (a := a) (b := b) (t := t) (u := u) (v := s'.toks) (Heap.get?_push_size _ rfl) hb.1 hb.2 htg fun I s₁ P J src => ?_)
          have e2 : Ext nobody s' { s' with heap := s'.heap.push { cls := .type "range", data := .fields #[.int a t, .int b u, .int 1 s'.toks] }, toks := s'.toks + 1 } := Ext.pushed s' _ _
          exact hQ _ I s₁ P J (e'.trans' e2) src


end
end Lite
namespace Lite
section
open PySem PySem.Calls PyProof.Rows PySem.W

theorem isList_keepsAll {h h' : Heap} {a : Addr} {items : Array Value} (x : h.IsList a items) (k : ∀ b o, h.get? b = some o → h'.get? b = some o) : h'.IsList a items := isList_at x (k a)
theorem Src.mkT {W : Wd} {av : Addr → Prop} {elts : List Expr} {kk : Nat} {tpos : Pos} {s₀ s₁ : Shared} {I : Addr} {xs : List V} {fp wr : List Addr} {Pt : Nat → Array Value → Prop} {St : Nat → Heap → Prop} {Mid : Nat → Addr → Heap → Prop} (hext : Ext nobody s₀ s₁)
    (hW : ∀ A : Around, A.handled = none → WalksT W.prog W.w A I fp wr xs.length Pt St Mid)
    (hfp : ∀ b ∈ fp, s₀.heap.get? b = none ∨ (¬ av b ∧ ∃ o, s₀.heap.get? b = some o)) (hwr : ∀ b ∈ wr, s₀.heap.get? b = none)
    (hlive : ∀ i h, St i h → ∀ b ∈ fp, ∃ o, h.get? b = some o) (h0 : St 0 s₁.heap)
    (hitem : ∀ i vals, Pt i vals → ∀ x, xs[i]? = some x → ∃ l, x = .tup l ∧ RdAll av s₀ vals.toList l) :
    Src W av (.Tuple elts kk tpos) s₀ I s₁ (fun a => a ∈ fp ∧ s₀.heap.get? a = none) (fun ys t => ∃ i, St i t.heap ∧ ys = xs.drop i ∧ i ≤ xs.length ∧ KeptFrom av s₀ t) xs where
  ext := hext
  new := fun a h => h.2
  start := ⟨0, h0, by simp, Nat.zero_le _, fun a o _ e => hext.heap a o (fun x => x) e, hext.tk⟩
  live := fun ys t h a ha => by
    obtain ⟨i, hs, _⟩ := h
    exact hlive i _ hs a ha.1
  keep := fun ys t t' mu h e h1 h2 => by
    obtain ⟨i, hs, hy, hi, hk⟩ := h
    refine ⟨i, (hW {} rfl).frame i _ _ hs fun b hb o eb => e.heap b o (fun m => ?_) eb, hy, hi, hk.ext e h1⟩
    rcases hfp b hb with hn | ⟨nb, o₀, eo⟩
    · exact h2 _ m ⟨hb, hn⟩
    · exact nb (h1 b o₀ eo m)
  step := fun A av' x ys t hA htk hL hold h Q E hQ => by
    obtain ⟨i, hs, hy, hi, hk⟩ := h
    have hx : xs[i]? = some x := by
      have := congrArg List.head? hy
      simpa [List.head?_drop] using this.symm
    have hys : ys = xs.drop (i + 1) := by
      have := congrArg List.tail hy
      simpa [List.tail_drop] using this
    have hlt := (List.getElem?_eq_some_iff.mp hx).1
    refine wpAny_with_toks (Nat.le_refl t.toks) ((hW A hA).item i t _ _ hlt hs fun T vals h' tk hP hT hTup hm hkp htk' => ⟨.ref T, rfl, ?_⟩)
    refine (hW A hA).go elts kk tpos i T _ _ _ hm fun h'' hs' hkp' => ?_
    have e : Ext (fun a => a ∈ fp ∧ s₀.heap.get? a = none) t { t with heap := h'', toks := tk } := Ext.of_heap (fun b o nb eb => by
      have nw : b ∉ wr := fun q => nb ⟨(hW A hA).sub b q, hwr b q⟩
      exact hkp' b o nw (hkp b o nw eb)) htk'
    have hk' : KeptFrom av s₀ { t with heap := h'', toks := tk } := hk.ext e fun a o ea ha => by rw [ha.2] at ea; cases ea
    obtain ⟨l, rfl, hl⟩ := hitem i vals hP x hx
    have nT : ¬ (av' T ∨ (T ∈ fp ∧ s₀.heap.get? T = none)) := fun q => by
      rcases q with q | q
      · obtain ⟨o, ho⟩ := hL T q
        exact absurd (Heap.lt_size ho) (Nat.not_lt.mpr hT)
      · obtain ⟨o, ho⟩ := hlive i _ hs T q.1
        exact absurd (Heap.lt_size ho) (Nat.not_lt.mpr hT)
    have hTup' : IsTup h'' T vals := by
      obtain ⟨o, ho, r⟩ := hTup
      exact ⟨o, hkp' T o ((hW A hA).apart i T _ hm) ho, r⟩
    refine hQ (.ref T) _ e (.tup hTup' nT ?_) ⟨i + 1, hs', hys, hlt, hk'⟩
    exact hl.move (fun a o na ea => ⟨hk'.1 a o na ea, fun q => by
      rcases q with q | q
      · exact na (hold a o ea q)
      · rw [q.2] at ea; cases ea⟩) hk'.2
  stop := fun A t hA h Q E hQ => by
    obtain ⟨i, hs, hy, hi, hk⟩ := h
    have : i = xs.length := by
      have := congrArg List.length hy
      simp at this; omega
    subst this
    refine wpAny_with_toks (Nat.le_refl t.toks) ((hW A hA).done t _ _ hs fun h' tk hkp htk' => ⟨rfl, hQ _ (Ext.of_heap (fun b o nb eb => hkp b o (fun q => nb ⟨(hW A hA).sub b q, hwr b q⟩) eb) htk')⟩)
  self := fun A ys t hA h Q E hQ => by
    obtain ⟨i, hs, _⟩ := h
    exact (hW A hA).self i t Q E hs hQ

/-- zip -/
noncomputable def zipL : List V → List V → List V
  | a :: as, b :: bs => .tup [a, b] :: zipL as bs
  | _, _ => []
theorem zipL_length : ∀ (a b : List V), (zipL a b).length = min a.length b.length
  | [], _ => by simp [zipL]
  | _ :: _, [] => by simp [zipL]
  | a :: as, b :: bs => by simp [zipL, zipL_length as bs]
theorem zipL_get : ∀ (a b : List V) (i : Nat) (x : V), (zipL a b)[i]? = some x → ∃ u v, a[i]? = some u ∧ b[i]? = some v ∧ x = .tup [u, v]
  | [], _, _, _, h => by simp [zipL] at h
  | _ :: _, [], _, _, h => by simp [zipL] at h
  | a :: as, b :: bs, 0, x, h => by simp [zipL] at h; exact ⟨a, b, rfl, rfl, h.symm⟩
  | a :: as, b :: bs, i + 1, x, h => by
    simp only [zipL, List.getElem?_cons_succ] at h
    obtain ⟨u, v, h1, h2, h3⟩ := zipL_get as bs i x h
    exact ⟨u, v, by simpa using h1, by simpa using h2, h3⟩
noncomputable def zipV : List V → Option (List V)
  | [.list a, .list b] => some (zipL a b)
  | _ => none
noncomputable def dZip (ds : St → Option (List V)) (σ : St) : Option (List V) := (ds σ).bind zipV
theorem it_zip {W : Wd} {k : Nat} {S : Sx} {elts : List Expr} {kk : Nat} {tpos : Pos} {np pos : Pos} {e : Expr} {es : List Expr} {ds : St → Option (List V)} (hW : W.Ok) (hb : Bi W "zip" (.type "zip")) (hx : isGlob S "zip" = true) (gs : GoodEs W k S (e :: es) ds)
    (he : ∀ env, starEach (e :: es) env = (false, eval e env) :: starEach es env := by intro _; rfl) (hp : ∀ env, (backTo pos (starEach (e :: es) env)).any (·.1) = false := by intro _; rfl) :
    GoodI W k S (.Tuple elts kk tpos) (.Call (.Name "zip" np) (e :: es) [] pos) (dZip ds) := by
  intro A C oa s σ xs hA hC R h Q E hQ
  unfold dZip at h
  cases h1 : ds σ with
  | none => rw [h1] at h; cases h
  | some vs =>
    rw [h1] at h
    simp only [Option.bind_some] at h
    refine wpAny_Call_NameR (glob_name hW hC R hx (.inr hb) (PySem.callWith_type (hp _) ?_))
    have hsp := gs A C oa s σ vs pos hA hC R h1 (fun rs s' => wpAny W.M A (call (.type "zip") ([] ++ rs) []) (fun x s₁ => wpAny W.M A (pyIter x) Q E s₁) E s') E
      fun rs s' e' q => ?_
    · rw [he] at hsp ⊢
      exact evalArgs_plain hsp
    · unfold zipV at h
      split at h <;> try (cases h; done)
      rename_i xs1 xs2
      cases q with
      | cons q q' =>
      cases q' with
      | cons q₂ q'' =>
        cases q''
        cases q with
        | @list l1 vs1 _ hl1 na1 ha1 =>
        cases q₂ with
        | @list l2 vs2 _ hl2 na2 ha2 =>
        cases h
        obtain ⟨n1, ho1⟩ := id hl1
        obtain ⟨n2, ho2⟩ := id hl2
        have hlt1 : @LT.lt Nat _ l1 s'.heap.objs.size := Heap.lt_size ho1
        have hlt2 : @LT.lt Nat _ l2 s'.heap.objs.size := Heap.lt_size ho2
        refine call_zip_2 hl1.isList hl2.isList fun h' hz hTI hTO hi1 hi2 hsz hkp => ?_
        refine wpAny_pyIter_zip hz ?_
        have e2 : Ext nobody s' { s' with heap := h' } := Ext.of_heap (tk := s'.toks) fun b o _ eb => hkp b o eb
        have fresh : ∀ b, s'.heap.objs.size ≤ b → s'.heap.get? b = none := fun b hb => by
          cases e : s'.heap.get? b with
          | none => rfl
          | some o => exact absurd (Heap.lt_size e) (Nat.not_lt.mpr hb)
        refine hQ s' _ _ _ _ e' (Src.mkT (wr := [s'.heap.objs.size + 4, s'.heap.objs.size + 3, s'.heap.objs.size, s'.heap.objs.size + 1]) (fp := [s'.heap.objs.size + 4, s'.heap.objs.size + 2, s'.heap.objs.size + 3, s'.heap.objs.size, s'.heap.objs.size + 1, l1, l2]) e2
          (fun A hA => by
            have hn : (zipL xs1 xs2).length = min vs1.size vs2.size := by
              rw [zipL_length, ← ha1.length, ← ha2.length]; simp
            rw [hn]
            exact WalksT.zip2 hA (s'.heap.objs.size + 4) (s'.heap.objs.size + 2) (s'.heap.objs.size + 3) s'.heap.objs.size (s'.heap.objs.size + 1) l1 l2 (by constructor <;> (show @Ne Nat _ _; omega)) vs1 vs2)
          (fun b hb => ?_) (fun b hb => ?_) (fun i h st b hb => ?_) ?_ (fun i vals hP x hx => ?_))
        · simp only [List.mem_cons, List.not_mem_nil, or_false] at hb
          rcases hb with rfl | rfl | rfl | rfl | rfl | rfl | rfl
          · exact .inl (fresh _ (by omega))
          · exact .inl (fresh _ (by omega))
          · exact .inl (fresh _ (by omega))
          · exact .inl (fresh _ (by omega))
          · exact .inl (fresh _ (by omega))
          · exact .inr ⟨na1, _, ho1⟩
          · exact .inr ⟨na2, _, ho2⟩
        · simp only [List.mem_cons, List.not_mem_nil, or_false] at hb
          rcases hb with rfl | rfl | rfl | rfl <;> exact fresh _ (by omega)
        · obtain ⟨k1, k2, ⟨a, b', k3⟩, k4, k5, k6, k7⟩ := st
          simp only [List.mem_cons, List.not_mem_nil, or_false] at hb
          rcases hb with rfl | rfl | rfl | rfl | rfl | rfl | rfl
          · exact ⟨_, k1⟩
          · exact ⟨_, k2⟩
          · exact ⟨_, k3⟩
          · obtain ⟨o, ho, _⟩ := k4; exact ⟨o, ho⟩
          · obtain ⟨o, ho, _⟩ := k5; exact ⟨o, ho⟩
          · obtain ⟨o, ho, _⟩ := k6; exact ⟨o, ho⟩
          · obtain ⟨o, ho, _⟩ := k7; exact ⟨o, ho⟩
        · exact ⟨hz, hTI, ⟨_, _, hTO⟩, hi1, hi2, isList_keepsAll hl1.isList hkp, isList_keepsAll hl2.isList hkp⟩
        · obtain ⟨x1, y1, e1, e2, rfl⟩ := hP
          obtain ⟨u, v, k1, k2, rfl⟩ := zipL_get _ _ _ _ hx
          obtain ⟨a1, b1, q1⟩ := ha1.get k1
          obtain ⟨a2, b2, q2⟩ := ha2.get k2
          simp only [Array.getElem?_toList] at b1 b2
          rw [e1] at b1; cases b1
          rw [e2] at b2; cases b2
          exact ⟨_, rfl, .cons q1 (.cons q2 .nil)⟩

/-- enumerate -/
noncomputable def enumL (i : Int) : List V → List V
  | [] => []
  | a :: as => .tup [.int i, a] :: enumL (i + 1) as
theorem enumL_length : ∀ (a : List V) (i : Int), (enumL i a).length = a.length
  | [], _ => rfl
  | _ :: as, i => by simp [enumL, enumL_length as]
theorem enumL_get : ∀ (a : List V) (j : Int) (i : Nat) (x : V), (enumL j a)[i]? = some x → ∃ u, a[i]? = some u ∧ x = .tup [.int (j + i), u]
  | [], _, _, _, h => by simp [enumL] at h
  | a :: as, j, 0, x, h => by simp [enumL] at h; exact ⟨a, rfl, by rw [← h]; simp⟩
  | a :: as, j, i + 1, x, h => by
    simp only [enumL, List.getElem?_cons_succ] at h
    obtain ⟨u, h1, h2⟩ := enumL_get as (j + 1) i x h
    refine ⟨u, by simpa using h1, ?_⟩
    rw [h2]
    have : j + 1 + (i : Int) = j + ((i + 1 : Nat) : Int) := by omega
    rw [this]
noncomputable def enumV : List V → Option (List V)
  | [.list a] => some (enumL 0 a)
  | _ => none
noncomputable def dEnum (ds : St → Option (List V)) (σ : St) : Option (List V) := (ds σ).bind enumV
theorem it_enum {W : Wd} {k : Nat} {S : Sx} {elts : List Expr} {kk : Nat} {tpos : Pos} {np pos : Pos} {e : Expr} {es : List Expr} {ds : St → Option (List V)} (hW : W.Ok) (hb : Bi W "enumerate" (.type "enumerate")) (hx : isGlob S "enumerate" = true) (gs : GoodEs W k S (e :: es) ds)
    (he : ∀ env, starEach (e :: es) env = (false, eval e env) :: starEach es env := by intro _; rfl) (hp : ∀ env, (backTo pos (starEach (e :: es) env)).any (·.1) = false := by intro _; rfl) :
    GoodI W k S (.Tuple elts kk tpos) (.Call (.Name "enumerate" np) (e :: es) [] pos) (dEnum ds) := by
  intro A C oa s σ xs hA hC R h Q E hQ
  unfold dEnum at h
  cases h1 : ds σ with
  | none => rw [h1] at h; cases h
  | some vs =>
    rw [h1] at h
    simp only [Option.bind_some] at h
    refine wpAny_Call_NameR (glob_name hW hC R hx (.inr hb) (PySem.callWith_type (hp _) ?_))
    have hsp := gs A C oa s σ vs pos hA hC R h1 (fun rs s' => wpAny W.M A (call (.type "enumerate") ([] ++ rs) []) (fun x s₁ => wpAny W.M A (pyIter x) Q E s₁) E s') E
      fun rs s' e' q => ?_
    · rw [he] at hsp ⊢
      exact evalArgs_plain hsp
    · unfold enumV at h
      split at h <;> try (cases h; done)
      rename_i xs1
      cases q with
      | cons q q' =>
        cases q'
        cases q with
        | @list l1 vs1 _ hl1 na1 ha1 =>
        cases h
        obtain ⟨n1, ho1⟩ := id hl1
        have hlt1 : @LT.lt Nat _ l1 s'.heap.objs.size := Heap.lt_size ho1
        refine call_enumerate_list hl1.isList fun h' hz hi1 hsz hkp => ?_
        refine wpAny_pyIter_enum hz ?_
        have e2 : Ext nobody s' { s' with heap := h' } := Ext.of_heap (tk := s'.toks) fun b o _ eb => hkp b o eb
        have fresh : ∀ b, s'.heap.objs.size ≤ b → s'.heap.get? b = none := fun b hb => by
          cases e : s'.heap.get? b with
          | none => rfl
          | some o => exact absurd (Heap.lt_size e) (Nat.not_lt.mpr hb)
        refine hQ s' _ _ _ _ e' (Src.mkT (wr := [s'.heap.objs.size + 1, s'.heap.objs.size]) (fp := [s'.heap.objs.size + 1, s'.heap.objs.size, l1]) e2
          (fun A hA => by
            have hn : (enumL 0 xs1).length = vs1.size := by
              rw [enumL_length, ← ha1.length]; simp
            rw [hn]
            exact WalksT.enumerate hA (s'.heap.objs.size + 1) s'.heap.objs.size l1 (by show @Ne Nat _ _; omega) (by show @Ne Nat _ _; omega) (by show @Ne Nat _ _; omega) vs1)
          (fun b hb => ?_) (fun b hb => ?_) (fun i h st b hb => ?_) ?_ (fun i vals hP x hx => ?_))
        · simp only [List.mem_cons, List.not_mem_nil, or_false] at hb
          rcases hb with rfl | rfl | rfl
          · exact .inl (fresh _ (by omega))
          · exact .inl (fresh _ (by omega))
          · exact .inr ⟨na1, _, ho1⟩
        · simp only [List.mem_cons, List.not_mem_nil, or_false] at hb
          rcases hb with rfl | rfl <;> exact fresh _ (by omega)
        · obtain ⟨⟨old, k1⟩, k4, k6⟩ := st
          simp only [List.mem_cons, List.not_mem_nil, or_false] at hb
          rcases hb with rfl | rfl | rfl
          · exact ⟨_, k1⟩
          · obtain ⟨o, ho, _⟩ := k4; exact ⟨o, ho⟩
          · obtain ⟨o, ho, _⟩ := k6; exact ⟨o, ho⟩
        · exact ⟨⟨_, hz⟩, hi1, isList_keepsAll hl1.isList hkp⟩
        · obtain ⟨t1, y1, e1, rfl⟩ := hP
          obtain ⟨u, k1, rfl⟩ := enumL_get _ _ _ _ hx
          obtain ⟨a1, b1, q1⟩ := ha1.get k1
          simp only [Array.getElem?_toList] at b1
          rw [e1] at b1; cases b1
          exact ⟨_, rfl, .cons (by simpa using Rd.int (i : Int) t1) (.cons q1 .nil)⟩


end
end Lite
namespace Lite
section
open PySem PySem.Calls PyProof.Rows PySem.W

/-- the turns of a comprehension: tg binds, m gives items -/
noncomputable def dComp (tg : V → St → Option St) (m : St → Option (List V × St)) : List V → St → Option (List V × St)
  | [], σ => some ([], σ)
  | x :: xs, σ => (tg x σ).bind fun σ₁ => (m σ₁).bind fun p => (dComp tg m xs p.2).bind fun q => some (p.1 ++ q.1, q.2)

/-- what holds between the turns -/
structure CompInv (W : Wd) (S : Sx) (C : Cx) (D : Addr) (mu : Addr → Prop) (s t : Shared) (σ : St) (acc : List V) : Prop where
  ext : Ext mu s t
  there : ∀ a o, s.heap.get? a = some o → ∃ o', t.heap.get? a = some o'
  rep : Rep W S C none t σ
  list : ∃ vs, t.heap.PlainList D vs ∧ RdAll (C.avd none) t vs.toList acc

structure CompCx (W : Wd) (S : Sx) (C : Cx) (D : Addr) (pl : Addr → Prop) : Prop where
  base : W.hb.get? D = none
  fr : FrS S C
  out : C.out D
  nmut : ¬ C.mut none D
  pl : ∀ a, pl a → C.mut none a

theorem CompInv.step {W : Wd} {S : Sx} {C : Cx} {D : Addr} {mu mu' : Addr → Prop} {s t u : Shared} {σ σ' : St} {acc : List V} (c : CompInv W S C D mu s t σ acc) (e : Ext mu' t u) (hmu : ∀ a, mu' a → mu a) (hD : ¬ mu' D) (hav : ∀ a, mu' a → C.avd none a) (tt : ∀ a o, t.heap.get? a = some o → ∃ o', u.heap.get? a = some o') (R : Rep W S C none u σ') : CompInv W S C D mu s u σ' acc := by
  obtain ⟨vs, hl, hr⟩ := c.list
  exact ⟨c.ext.trans e fun a _ _ h => hmu a h, fun a o h => let ⟨o', h'⟩ := c.there a o h; tt a o' h', R, vs, hl.at fun o h => e.heap D o hD h, hr.ext e hav⟩
theorem CompInv.add {W : Wd} {S : Sx} {C : Cx} {D : Addr} {mu : Addr → Prop} {s t : Shared} {σ : St} {acc : List V} {pl : Addr → Prop} (c : CompInv W S C D mu s t σ acc) (cx : CompCx W S C D pl) (hmu : mu D) {A : Around} {r : Value} {v : V} (q : Rd (C.avd none) t r v) (hs : acc.length < 1000000) {Q : Value → Shared → Prop} {E : Value → Shared → Prop}
    (hQ : ∀ u, CompInv W S C D mu s u σ (acc ++ [v]) → Ext (fun a => a = D) t u → (∀ a o, t.heap.get? a = some o → ∃ o', u.heap.get? a = some o') → Q .none u) : wpAny W.M A (call (.builtin "list.append") [.ref D, r]) Q E t := by
  obtain ⟨vs, hl, hr⟩ := c.list
  have hlen := hr.length
  simp only [Array.length_toList] at hlen
  refine wpAny_list_append_plain hl (fun h' hl' hs' => ?_) (by rw [sizeLine_eq]; omega)
  have e : Ext (fun a => a = D) t { t with heap := h' } := Ext.of_heap (tk := t.toks) fun b o nb eb => hs'.extBut b o nb eb
  have tt : ∀ a o, t.heap.get? a = some o → ∃ o', h'.get? a = some o' := fun a o ea => by
    by_cases p : a = D
    · subst p; obtain ⟨n, ho⟩ := hl'; exact ⟨_, ho⟩
    · exact ⟨o, hs'.extBut a o p ea⟩
  have R : Rep W S C none { t with heap := h' } σ := by
    have R := c.rep
    have key : ∀ b o, b ≠ D → t.heap.get? b = some o → h'.get? b = some o := fun b o nb eb => hs'.extBut b o nb eb
    have off : ∀ b, C.mut none b → b ≠ D := fun b hb p => cx.nmut (p ▸ hb)
    have mv : ∀ a o, ¬ C.avd none a → t.heap.get? a = some o → h'.get? a = some o ∧ ¬ C.avd none a := fun a o na ea => ⟨key a o (fun p => na (p ▸ .inl cx.out)) ea, na⟩
    refine ⟨fun b o eb => key b o (fun p => ?_) (R.keep b o eb), R.base, fun a h => let ⟨o, ho⟩ := R.live a h; tt a o ho, let ⟨m, h⟩ := R.ns; ⟨m, ns_at h fun o => key _ o (off _ (.inl rfl))⟩, fun x k h => let ⟨u, hu⟩ := R.cells x k h; ⟨u, isCell_at hu fun o => key k o (off _ (.inr (.inl ⟨x, h⟩)))⟩, fun i x w h1 h2 => ?_, R.tk, fun xs h => ?_⟩
    · rw [p, cx.base] at eb; cases eb
    · obtain ⟨r', hb, hr'⟩ := R.slot i x w h1 h2
      refine ⟨r', ?_, hr'.upd mv⟩
      rcases hb with ⟨k1, m, k2, k3⟩ | ⟨k1, k, k2, k3⟩
      · exact .inl ⟨k1, m, ns_at k2 fun o => key _ o (off _ (.inl rfl)), k3⟩
      · exact .inr ⟨k1, k, k2, isCell_at k3 fun o => key _ o (off _ (.inr (.inl ⟨x, k2⟩)))⟩
    · obtain ⟨a, vs, h1, _⟩ := R.own xs h
      cases h1
  refine hQ _ ⟨c.ext.trans e fun a _ _ h => h ▸ hmu, fun a o h => let ⟨o', h'⟩ := c.there a o h; tt a o' h', R, _, hl', ?_⟩ e tt
  rw [Array.toList_push]
  have mv : ∀ a o, ¬ C.avd none a → t.heap.get? a = some o → h'.get? a = some o ∧ ¬ C.avd none a := fun a o na ea => ⟨hs'.extBut a o (fun p => na (p ▸ .inl cx.out)) ea, na⟩
  exact (hr.upd mv).append (.cons (q.upd mv) .nil)

/-- where a comprehension's target lies -/
noncomputable def GoodTc (W : Wd) (S : Sx) (x : Str) (i : Nat) : Prop := S.names[i]? = some x ∧ (S.scope.names.lookup x = some .local ∨ S.scope.names.lookup x = some .cell)


/-- what holds of a comprehension's loop -/
structure LpCx (W : Wd) (S : Sx) (Cb : Cx) (D : Addr) (pl P av : Addr → Prop) (s₀ : Shared) : Prop where
  cx : CompCx W S (Cb.add P) D pl
  hold : ∀ a o, s₀.heap.get? a = some o → Cb.avd none a → av a
  old : ∀ a o, s₀.heap.get? a = some o → pl a → av a
  D₀ : ∀ o, s₀.heap.get? D = some o → av D
  Pm : ∀ a, P a → ¬ Cb.mut none a
  Pb : ∀ a, P a → W.hb.get? a = none
  PD : ¬ P D
  plP : ∀ a, pl a → ¬ P a

/-- one item taken and bound -/
theorem comp_step {W : Wd} {S : Sx} {Cb : Cx} {D I : Addr} {pl P : Addr → Prop} {av : Addr → Prop} {s₀ s t : Shared} {σ σ₁ : St} {acc : List V} {J : List V → Shared → Prop} {xs ys : List V} {y : V} {x : Str} {i : Nat} {px : Pos} {s₁ : Shared} {A : Around} {E : Value → Shared → Prop}
    (hS : SxOk S) (hx : GoodTc W S x i) (src : Src W av (.Name x px) s₀ I s₁ P J xs) (c₀ : LpCx W S Cb D pl P av s₀) (hA : A.handled = none)
    (hpl : ∀ a, placeOf S Cb x a → pl a)
    (hJ : J (y :: ys) t) (c : CompInv W S (Cb.add P) D (fun a => a = D ∨ pl a ∨ P a) s t σ acc) (hσ : tgName i y σ = some σ₁) :
    wpAny W.M A (pyNext (.ref I)) (fun o t₁ => ∃ v, o = some v ∧ wpAny W.M A (letOwnedTupleGo (.Name x px) (.ref I) v) (fun _ t₂ => wpAny W.M A (assign (.Name x px) Cb.env v) (fun _ u => J ys u ∧ CompInv W S (Cb.add P) D (fun a => a = D ∨ pl a ∨ P a) s u σ₁ acc) E t₂) E t₁) E t := by
  have R := c.rep
  have cx := c₀.cx
  have hL : Live (Cb.avd none) t := fun a h => R.live a (avd_add.mpr (.inl h))
  refine wpAny_mono (src.step A (Cb.avd none) y ys t hA R.tk hL c₀.hold hJ (fun r t' => Ext P t t' ∧ Rd (fun a => Cb.avd none a ∨ P a) t' r y ∧ J ys t') _ fun r t' e q hJ' => ⟨e, q, hJ'⟩) (fun o t₁ ho => ?_) fun _ _ e => e
  obtain ⟨r, rfl, hw⟩ := ho
  refine ⟨r, rfl, wpAny_mono hw (fun _ t' ht' => ?_) fun _ _ e => e⟩
  obtain ⟨e, q, hJ'⟩ := ht'
  have R' : Rep W S (Cb.add P) none t' σ := R.outStep e c₀.Pm c₀.Pb (src.live _ _ hJ')
  have tt : ∀ a o, t.heap.get? a = some o → ∃ o', t'.heap.get? a = some o' := fun a o ea => by
    by_cases p : P a
    · exact src.live _ _ hJ' a p
    · exact ⟨o, e.heap a o p ea⟩
  have c' := c.step e (fun a h => .inr (.inr h)) c₀.PD (fun a h => .inl (.inr h)) tt R'
  cases hσ
  refine wpAny_assign_Name (R'.storeAt hS cx.fr hx.1 (rd_add q) hx.2 fun u eu tu Ru => ⟨?_, ?_⟩)
  · exact src.keep _ _ _ _ hJ' eu (fun a o ea h => c₀.old a o ea (hpl a h)) fun a h => c₀.plP a (hpl a h)
  · exact c'.step eu (fun a h => .inr (.inl (hpl a h))) (fun h => cx.nmut (cx.pl D (hpl D h))) (fun a h => .inr (cx.pl a (hpl a h))) tu Ru

/-- an item put -/
theorem comp_put {W : Wd} {k : Nat} {S : Sx} {Cb : Cx} {D I : Addr} {pl P : Addr → Prop} {av : Addr → Prop} {s₀ s u : Shared} {σ : St} {acc ys xs : List V} {J : List V → Shared → Prop} {tgt : Expr} {s₁ : Shared} {A : Around} {E : Value → Shared → Prop} {elt : Expr} {d : St → Option V} {v : V}
    (src : Src W av tgt s₀ I s₁ P J xs) (c₀ : LpCx W S Cb D pl P av s₀) (hA : Room k A) (ge : GoodE W k S elt d) (hJ : J ys u) (c : CompInv W S (Cb.add P) D (fun a => a = D ∨ pl a ∨ P a) s u σ acc) (hv : d σ = some v) (hs : acc.length < 1000000) :
    wpAny W.M A (eval elt Cb.env) (fun r s₄ => wpAny W.M A (call (.builtin "list.append") [.ref D, r]) (fun _ s₅ => J ys s₅ ∧ CompInv W S (Cb.add P) D (fun a => a = D ∨ pl a ∨ P a) s s₅ σ (acc ++ [v])) E s₄) E u := by
  have cx := c₀.cx
  refine ge A (Cb.add P) none u σ v hA cx.fr c.rep hv _ _ fun r s₄ e₄ q => ?_
  have c₂ := c.step e₄ (fun a h => h.elim) (fun h => h) (fun a h => h.elim) e₄.there (c.rep.ext e₄)
  refine c₂.add cx (.inl rfl) q hs fun u₂ c₃ e₅ tt => ⟨?_, c₃⟩
  refine src.keep _ _ _ _ (src.keep _ _ _ _ hJ e₄ (fun a o _ h => h.elim) (fun a h => h.elim)) e₅ (fun a o ea h => ?_) (fun a h p => c₀.PD (h ▸ p))
  subst h
  exact c₀.D₀ o ea

noncomputable def dItem (d : St → Option V) (σ : St) : Option (List V × St) := (d σ).map fun v => ([v], σ)
noncomputable def dCond (t : St → Option Bool) (d : St → Option V) (σ : St) : Option (List V × St) := (t σ).bind fun b => match b with | true => (d σ).map fun v => ([v], σ) | false => some ([], σ)

theorem dComp_cons {tg : V → St → Option St} {m : St → Option (List V × St)} {y : V} {ys : List V} {σ : St} {q : List V × St} (h : dComp tg m (y :: ys) σ = some q) : ∃ σ₁ w₁ σ₂ w₂, tg y σ = some σ₁ ∧ m σ₁ = some (w₁, σ₂) ∧ dComp tg m ys σ₂ = some (w₂, q.2) ∧ q.1 = w₁ ++ w₂ := by
  simp only [dComp] at h
  cases h1 : tg y σ with
  | none => rw [h1] at h; cases h
  | some σ₁ =>
  rw [h1] at h
  simp only [Option.bind_some] at h
  cases h2 : m σ₁ with
  | none => rw [h2] at h; cases h
  | some p =>
  obtain ⟨w1, σ₂⟩ := p
  rw [h2] at h
  simp only [Option.bind_some] at h
  cases h3 : dComp tg m ys σ₂ with
  | none => rw [h3] at h; cases h
  | some r =>
  rw [h3] at h
  simp only [Option.bind_some, Option.some.injEq] at h
  subst h
  exact ⟨σ₁, w1, σ₂, r.1, rfl, h2, h3, rfl⟩

/-- a comprehension's loop from a clause on -/
noncomputable def GoodL (W : Wd) (k : Nat) (S : Sx) (e : Expr) (depth : Nat) (tgt : Expr) (vars : List Str) (m : List V → St → Option (List V × St)) : Prop :=
  ∀ (A : Around) (Cb : Cx) (D I : Addr) (pl P av : Addr → Prop) (s₀ s₁ s : Shared) (J : List V → Shared → Prop) (xs : List V) (σ σ' : St) (acc res : List V), Room k A → Src W av tgt s₀ I s₁ P J xs → LpCx W S Cb D pl P av s₀ →
    (∀ x ∈ vars, ∀ a, placeOf S Cb x a → pl a) → J xs s → CompInv W S (Cb.add P) D (fun a => a = D ∨ pl a ∨ P a) s s σ acc → m xs σ = some (res, σ') → acc.length + res.length < 1000000 →
    ∀ (R : Result → Shared → Prop), (∀ u u', CompInv W S (Cb.add P) D (fun a => a = D ∨ pl a ∨ P a) s u σ' (acc ++ res) → Ext P u u' → R (.ok .next) u') → codeAny W.M A (.compLoop e depth (.ref I) (.ref D) Cb.env) R s


/-- one clause -/
theorem comp_one {W : Wd} {k : Nat} {S : Sx} {x : Str} {i : Nat} {px : Pos} {elt iter : Expr} {ifs : List Expr} {scope : Scope} {pos : Pos} {m : St → Option (List V × St)} (hS : SxOk S) (hx : GoodTc W S x i)
    (hm : (∃ d, GoodE W k S elt d ∧ ifs = [] ∧ m = dItem d) ∨ (∃ c t d, GoodT W k S c t ∧ GoodE W k S elt d ∧ ifs = [c] ∧ m = dCond t d)) :
    GoodL W k S (.ListComp elt [⟨.Name x px, iter, ifs, 0⟩] scope pos) 0 (.Name x px) [x] (dComp (tgName i) m) := by
  intro A Cb D I pl P av s₀ s₁ s J xs σ σ' acc₀ res hA src c₀ hpl hJ c hd hsz R hR
  have hpl' := hpl x (by simp)
  refine codeAny_compLoop_tests (fun n t => ∃ ys acc ws σ₁, n = ys.length ∧ dComp (tgName i) m ys σ₁ = some (ws, σ') ∧ acc ++ ws = acc₀ ++ res ∧ J ys t ∧ CompInv W S (Cb.add P) D (fun a => a = D ∨ pl a ∨ P a) s t σ₁ acc) ?_ xs.length ⟨xs, acc₀, res, σ, rfl, hd, rfl, hJ, c⟩
  rintro n t ⟨ys, acc, ws, σ₁, rfl, hd, hacc, hJ, c⟩
  have hlen := congrArg List.length hacc
  simp only [List.length_append] at hlen
  cases ys with
  | nil =>
    cases hd
    simp only [List.append_nil] at hacc
    subst hacc
    refine wpAny_mono (src.stop A t hA.handled hJ (fun t' => Ext P t t') _ fun t' e => e) (fun o t' ho => ?_) fun _ _ e => e
    obtain ⟨rfl, e⟩ := ho
    exact hR t t' c e
  | cons y ys =>
    obtain ⟨σ₂, w1, σ₃, w2, h1, h2, h3, hw⟩ := dComp_cons hd
    dsimp only at h3 hw
    subst hw
    refine wpAny_mono (comp_step hS hx src c₀ hA.handled hpl' hJ c h1) (fun o t₁ ho => ?_) fun _ _ e => e
    obtain ⟨v, rfl, hw⟩ := ho
    have hw' := (fun Γ p hΓ => hw Γ p hΓ Γ p hΓ : wpAny W.M A (assign (.Name x px) Cb.env v) (fun _ u => J ys u ∧ CompInv W S (Cb.add P) D (fun a => a = D ∨ pl a ∨ P a) s u σ₂ acc) _ t₁)
    refine wpAny_mono hw' (fun _ u hu => ?_) fun _ _ e => e
    obtain ⟨hJu, cu⟩ := hu
    have put : ∀ {d : St → Option V} {v : V} {u' : Shared}, GoodE W k S elt d → d σ₂ = some v → Ext nobody u u' → w1 = [v] → σ₃ = σ₂ → ∀ (E' : Value → Shared → Prop), wpAny W.M A (eval elt Cb.env) (fun r s₄ => wpAny W.M A (call (.builtin "list.append") [.ref D, r]) (fun _ s₅ => ∃ m', m' < (y :: ys).length ∧ ∃ zs acc ws σ₁, m' = zs.length ∧ dComp (tgName i) m zs σ₁ = some (ws, σ') ∧ acc ++ ws = acc₀ ++ res ∧ J zs s₅ ∧ CompInv W S (Cb.add P) D (fun a => a = D ∨ pl a ∨ P a) s s₅ σ₁ acc) E' s₄) E' u' := by
      intro d v u' ge hv e hw1 hσ3 E'
      subst hw1 hσ3
      have c₁ := cu.step e (fun a h => h.elim) (fun h => h) (fun a h => h.elim) e.there (cu.rep.ext e)
      have hJ₁ : J ys u' := src.keep _ _ _ _ hJu e (fun a o _ h => h.elim) (fun a h => h.elim)
      refine wpAny_mono (comp_put (E := E') src c₀ hA ge hJ₁ c₁ hv (by simp at hlen; omega)) (fun r s₄ h => wpAny_mono h (fun _ s₅ h₅ => ?_) fun _ _ e => e) fun _ _ e => e
      exact ⟨ys.length, Nat.lt_succ_self _, ys, acc ++ [v], w2, σ₃, rfl, h3, by simpa using hacc, h₅.1, h₅.2⟩
    rcases hm with ⟨d, ge, rfl, rfl⟩ | ⟨cc, tt, d, gt, ge, rfl, rfl⟩
    · refine wpAny_tests_nil ?_
      simp only [if_true]
      unfold dItem at h2
      cases h4 : d σ₂ with
      | none => rw [h4] at h2; cases h2
      | some v =>
        rw [h4] at h2
        simp only [Option.map_some, Option.some.injEq, Prod.mk.injEq] at h2
        exact put ge h4 (Ext.refl _ _) h2.1.symm h2.2.symm _
    · refine wpAny_tests_one ?_
      unfold dCond at h2
      cases h4 : tt σ₂ with
      | none => rw [h4] at h2; cases h2
      | some b =>
        rw [h4] at h2
        simp only [Option.bind_some] at h2
        refine gt A (Cb.add P) none u σ₂ b hA c₀.cx.fr cu.rep h4 _ _ fun u' e => ?_
        cases b with
        | true =>
          simp only [if_true]
          simp only at h2
          cases h5 : d σ₂ with
          | none => rw [h5] at h2; cases h2
          | some v =>
            rw [h5] at h2
            simp only [Option.map_some, Option.some.injEq, Prod.mk.injEq] at h2
            exact put ge h5 e h2.1.symm h2.2.symm _
        | false =>
          simp only [Bool.false_eq_true, if_false]
          simp only [Option.some.injEq, Prod.mk.injEq] at h2
          obtain ⟨rfl, rfl⟩ := h2
          have c₁ := cu.step e (fun a h => h.elim) (fun h => h) (fun a h => h.elim) e.there (cu.rep.ext e)
          exact ⟨ys.length, Nat.lt_succ_self _, ys, acc, w2, σ₂, rfl, h3, by simpa using hacc, src.keep _ _ _ _ hJu e (fun a o _ h => h.elim) (fun a h => h.elim), c₁⟩

theorem compTurn_two0 (elt target iter t2 i2 : Expr) (scope : Scope) (pos : Pos) (it acc : Value) (env : Env) :
    compTurn (.ListComp elt [⟨target, iter, [], 0⟩, ⟨t2, i2, [], 0⟩] scope pos) 0 it acc env = (standAt iter.pos >>= fun _ => pyNext it >>= fun r => match r with
      | none => pure (.done .next)
      | some v => letOwnedTupleGo target it v >>= fun _ => assign target env v >>= fun _ =>
        eval i2 env >>= fun x => standAt i2.pos >>= fun _ => foldedSetIterable i2 env x >>= fun x => holding [x] (pyIter x) >>= fun it2 => runOwn (.compStart (.ListComp elt [⟨target, iter, [], 0⟩, ⟨t2, i2, [], 0⟩] scope pos) 1 it2 acc env) env >>= fun _ =>
         again (.compLoop (.ListComp elt [⟨target, iter, [], 0⟩, ⟨t2, i2, [], 0⟩] scope pos) 0 it acc env)) := by rfl
theorem compTurn_two1 (elt target iter t2 i2 : Expr) (scope : Scope) (pos : Pos) (it acc : Value) (env : Env) :
    compTurn (.ListComp elt [⟨target, iter, [], 0⟩, ⟨t2, i2, [], 0⟩] scope pos) 1 it acc env = (standAt i2.pos >>= fun _ => pyNext it >>= fun r => match r with
      | none => pure (.done .next)
      | some v => letOwnedTupleGo t2 it v >>= fun _ => assign t2 env v >>= fun _ =>
         (eval elt env >>= fun x => call (.builtin "list.append") [acc, x] >>= fun _ => pure ()) >>= fun _ =>
         again (.compLoop (.ListComp elt [⟨target, iter, [], 0⟩, ⟨t2, i2, [], 0⟩] scope pos) 1 it acc env)) := by rfl

/-- the inner of two clauses -/
theorem comp_in {W : Wd} {k : Nat} {S : Sx} {x : Str} {i : Nat} {px : Pos} {elt iter t1 i1 : Expr} {scope : Scope} {pos : Pos} {d : St → Option V} (hS : SxOk S) (hx : GoodTc W S x i) (ge : GoodE W k S elt d) :
    GoodL W k S (.ListComp elt [⟨t1, i1, [], 0⟩, ⟨.Name x px, iter, [], 0⟩] scope pos) 1 (.Name x px) [x] (dComp (tgName i) (dItem d)) := by
  intro A Cb D I pl P av s₀ s₁ s J xs σ σ' acc₀ res hA src c₀ hpl hJ c hd hsz R hR
  have hpl' := hpl x (by simp)
  refine codeAny_loop rfl (fun n t => ∃ ys acc ws σ₁, n = ys.length ∧ dComp (tgName i) (dItem d) ys σ₁ = some (ws, σ') ∧ acc ++ ws = acc₀ ++ res ∧ J ys t ∧ CompInv W S (Cb.add P) D (fun a => a = D ∨ pl a ∨ P a) s t σ₁ acc) ?_ xs.length ⟨xs, acc₀, res, σ, rfl, hd, rfl, hJ, c⟩
  rintro n t ⟨ys, acc, ws, σ₁, rfl, hd, hacc, hJ, c⟩
  have hlen := congrArg List.length hacc
  simp only [List.length_append] at hlen
  show wpAny _ _ ((compTurn (.ListComp elt [⟨t1, i1, [], 0⟩, ⟨.Name x px, iter, [], 0⟩] scope pos) 1 (.ref I) (.ref D) Cb.env).onRaise (fun x => do noteFrame x Cb.env; theTreesLotGoes x)) _ _ t
  refine wpAny_noted ?_
  rw [compTurn_two1]
  refine wpAny_bind (wpAny_standAt (wpAny_bind ?_))
  cases ys with
  | nil =>
    cases hd
    simp only [List.append_nil] at hacc
    subst hacc
    refine wpAny_mono (src.stop A t hA.handled hJ (fun t' => Ext P t t') _ fun t' e => e) (fun o t' ho => ?_) fun _ _ e => e
    obtain ⟨rfl, e⟩ := ho
    exact wpAny_pure (hR t t' c e)
  | cons y ys =>
    obtain ⟨σ₂, w1, σ₃, w2, h1, h2, h3, hw⟩ := dComp_cons hd
    dsimp only at h3 hw
    subst hw
    unfold dItem at h2
    cases h4 : d σ₂ with
    | none => rw [h4] at h2; cases h2
    | some v =>
    rw [h4] at h2
    simp only [Option.map_some, Option.some.injEq, Prod.mk.injEq] at h2
    obtain ⟨rfl, rfl⟩ := h2
    refine wpAny_mono (comp_step hS hx src c₀ hA.handled hpl' hJ c h1) (fun o t₁ ho => ?_) fun _ _ e => e
    obtain ⟨v', rfl, hw⟩ := ho
    refine wpAny_bind (wpAny_mono hw (fun _ t₂ hw => wpAny_bind (wpAny_mono hw (fun _ u hu => ?_) fun _ _ e => e)) fun _ _ e => e)
    obtain ⟨hJu, cu⟩ := hu
    refine wpAny_bind (wpAny_bind (wpAny_mono (comp_put src c₀ hA ge hJu cu h4 (by simp at hlen; omega)) (fun r s₄ h => wpAny_bind (wpAny_mono h (fun _ s₅ h₅ => ?_) fun _ _ e => e)) fun _ _ e => e))
    exact wpAny_pure (wpAny_pure ⟨rfl, ys.length, Nat.lt_succ_self _, ys, acc ++ [v], w2, σ₂, rfl, h3, by simpa using hacc, h₅.1, h₅.2⟩)


end
end Lite
namespace Lite
section
open PySem PySem.Calls PyProof.Rows PySem.W

theorem compStart_in {W : Wd} {A : Around} {elt t1 i1 target iter : Expr} {scope : Scope} {pos : Pos} {it acc : Value} {env : Env} {R : Result → Shared → Prop} {s : Shared}
    (h0 : codeAny W.M A (.compLoop (.ListComp elt [⟨t1, i1, [], 0⟩, ⟨target, iter, [], 0⟩] scope pos) 1 it acc env) R s)
    (h : wpAny W.M A (pyIter it) (fun it' s' => codeAny W.M A (.compLoop (.ListComp elt [⟨t1, i1, [], 0⟩, ⟨target, iter, [], 0⟩] scope pos) 1 it' acc env) R s')
      (notedBy W.M A env fun x s' => R (.error x) s') s) :
    codeAny W.M A (.compStart (.ListComp elt [⟨t1, i1, [], 0⟩, ⟨target, iter, [], 0⟩] scope pos) 1 it acc env) R s := by
  refine codeAny_of_tree ?_
  show wpAny _ _ ((compStart (.ListComp elt [⟨t1, i1, [], 0⟩, ⟨target, iter, [], 0⟩] scope pos) 1 it acc env).onRaise (fun x => do noteFrame x env; standAt theWindowsPlace)) _ _ s
  refine wpAny_notedAt ?_
  unfold compStart
  show wpAny _ _ (ask >>= _) _ _ s
  refine wpAny_bind (wpAny_askSetting (wpAny_ite ?_))
  split
  · first
      | exact wpAny_bind (wpAny_pure (wpAny_pure (And.intro rfl h0)))
      | exact wpAny_pure (And.intro rfl h0)
  · first
      | exact wpAny_bind (wpAny_rule (wpAny_bind (wpAny_standAt (wpAny_bind (wpAny_mono h (fun it' s' h' => wpAny_pure (And.intro rfl h')) fun _ _ x => x)))))
      | (refine wpAny_bind (wpAny_rule ?_); show wpAny _ _ (standAt iter.pos >>= _) _ _ s; exact wpAny_bind (wpAny_standAt (wpAny_bind (wpAny_mono h (fun it' s' h' => wpAny_pure (And.intro rfl h')) fun _ _ x => x))))

theorem rdAll_add {C : Cx} {P : Addr → Prop} {oa : Option Addr} {s s' : Shared} {r : List Value} {v : List V} (q : RdAll (C.avd oa) s r v) (e : Ext nobody s s') (hn : ∀ a, P a → s.heap.get? a = none) : RdAll ((C.add P).avd oa) s' r v :=
  q.move (fun a o na ea => ⟨e.heap a o (fun x => x) ea, fun h => by
    rcases avd_add.mp h with h | h
    · exact na h
    · rw [hn a h] at ea; cases ea⟩) e.tk
theorem rdAll_drop {C : Cx} {P : Addr → Prop} {oa : Option Addr} {s s' : Shared} {r : List Value} {v : List V} (q : RdAll ((C.add P).avd oa) s r v) (e : Ext P s s') : RdAll (C.avd oa) s' r v :=
  q.move (fun a o na ea => ⟨e.heap a o (fun p => na (avd_add.mpr (.inr p))) ea, fun h => na (avd_add.mpr (.inl h))⟩) e.tk

noncomputable def dInner (d2 : St → Option (List V)) (tg : V → St → Option St) (m : St → Option (List V × St)) (σ : St) : Option (List V × St) := (d2 σ).bind fun xs => dComp tg m xs σ

theorem comp_two {W : Wd} {k : Nat} {S : Sx} {x1 x2 : Str} {j1 j2 : Nat} {p1 p2 : Pos} {elt i1 i2 : Expr} {scope : Scope} {pos : Pos} {d2 : St → Option (List V)} {d : St → Option V} (hS : SxOk S) (hx : GoodTc W S x1 j1) (hx2 : GoodTc W S x2 j2)
    (g2 : GoodI W k S (.Name x2 p2) i2 d2) (ge : GoodE W k S elt d) (hfold : ∀ env x, foldedSetIterable i2 env x = pure x := by intro _ _; rfl) :
    GoodL W k S (.ListComp elt [⟨.Name x1 p1, i1, [], 0⟩, ⟨.Name x2 p2, i2, [], 0⟩] scope pos) 0 (.Name x1 p1) [x1, x2] (dComp (tgName j1) (dInner d2 (tgName j2) (dItem d))) := by
  intro A Cb D I pl P av s₀ s₁ s J xs σ σ' acc₀ res hA src c₀ hpl hJ c hd hsz R hR
  have hpl' := hpl x1 (by simp)
  have hpl2 : ∀ a, placeOf S Cb x2 a → pl a := hpl x2 (by simp)
  refine codeAny_loop rfl (fun n t => ∃ ys acc ws σ₁, n = ys.length ∧ dComp (tgName j1) (dInner d2 (tgName j2) (dItem d)) ys σ₁ = some (ws, σ') ∧ acc ++ ws = acc₀ ++ res ∧ J ys t ∧ CompInv W S (Cb.add P) D (fun a => a = D ∨ pl a ∨ P a) s t σ₁ acc) ?_ xs.length ⟨xs, acc₀, res, σ, rfl, hd, rfl, hJ, c⟩
  rintro n t ⟨ys, acc, ws, σ₁, rfl, hd, hacc, hJ, c⟩
  have hlen := congrArg List.length hacc
  simp only [List.length_append] at hlen
  show wpAny _ _ ((compTurn (.ListComp elt [⟨.Name x1 p1, i1, [], 0⟩, ⟨.Name x2 p2, i2, [], 0⟩] scope pos) 0 (.ref I) (.ref D) Cb.env).onRaise (fun x => do noteFrame x Cb.env; theTreesLotGoes x)) _ _ t
  refine wpAny_noted ?_
  rw [compTurn_two0]
  refine wpAny_bind (wpAny_standAt (wpAny_bind ?_))
  cases ys with
  | nil =>
    cases hd
    simp only [List.append_nil] at hacc
    subst hacc
    refine wpAny_mono (src.stop A t hA.handled hJ (fun t' => Ext P t t') _ fun t' e => e) (fun o t' ho => ?_) fun _ _ e => e
    obtain ⟨rfl, e⟩ := ho
    exact wpAny_pure (hR t t' c e)
  | cons y ys =>
    obtain ⟨σ₂, w1, σ₃, w2, h1, h2, h3, hw⟩ := dComp_cons hd
    dsimp only at h3 hw
    subst hw
    unfold dInner at h2
    cases h4 : d2 σ₂ with
    | none => rw [h4] at h2; cases h2
    | some zs =>
    rw [h4] at h2
    simp only [Option.bind_some] at h2
    refine wpAny_mono (comp_step hS hx src c₀ hA.handled hpl' hJ c h1) (fun o t₁ ho => ?_) fun _ _ e => e
    obtain ⟨v', rfl, hw⟩ := ho
    refine wpAny_bind (wpAny_mono hw (fun _ t₂ hw => wpAny_bind (wpAny_mono hw (fun _ u hu => ?_) fun _ _ e => e)) fun _ _ e => e)
    obtain ⟨hJu, cu⟩ := hu
    have hg := g2 A (Cb.add P) none u σ₂ zs hA c₀.cx.fr cu.rep h4
    refine wpAny_bind (wpAny_mono (hg (fun it u₁ => ∃ I₂ s₀' P' J', it = .ref I₂ ∧ Ext nobody u s₀' ∧ Src W ((Cb.add P).avd none) (.Name x2 p2) s₀' I₂ u₁ P' J' zs) _ fun s₀' I₂ s₁' P' J' e' src' => ⟨I₂, s₀', P', J', rfl, e', src'⟩) (fun x u₀ hx₀ => ?_) fun _ _ e => e)
    refine wpAny_bind (wpAny_standAt (wpAny_bind (wpAny_of_eq (hfold _ _) (wpAny_bind (wpAny_holding (wpAny_mono hx₀ (fun it u₁ hu₁ => ?_) fun _ _ e => e))))))
    obtain ⟨I₂, s₀', P', J', rfl, e', src'⟩ := hu₁
    have e₁ : Ext nobody u u₁ := e'.trans' src'.ext
    have hnew : ∀ a, P' a → u.heap.get? a = none := fun a p => none_of_ext e' (src'.new a p)
    have hJ₁ : J ys u₁ := src.keep _ _ _ _ hJu e₁ (fun a o _ h => h.elim) (fun a h => h.elim)
    have c₁ := cu.step e₁ (fun a h => h.elim) (fun h => h) (fun a h => h.elim) e₁.there (cu.rep.ext e₁)
    have hlive : ∀ a, P' a → ∃ o, u₁.heap.get? a = some o := src'.live _ _ src'.start
    have hnot : ∀ a, (∃ o, u.heap.get? a = some o) → ¬ P' a := fun a ⟨o, ho⟩ p => by rw [hnew a p] at ho; cases ho
    have hDu : ∃ o, u.heap.get? D = some o := by obtain ⟨vs, ⟨n, ho⟩, _⟩ := cu.list; exact ⟨_, ho⟩
    have havl : ∀ a, (Cb.add P).avd none a → ¬ P' a := fun a h => hnot a (cu.rep.live a h)
    have Rin : Rep W S ((Cb.add P).add P') none u₁ σ₂ := cu.rep.add e₁ hnew hlive
    have cin : CompInv W S ((Cb.add P).add P') D (fun a => a = D ∨ pl a ∨ P' a) u₁ u₁ σ₂ acc := by
      obtain ⟨vs, hl, hr⟩ := cu.list
      exact ⟨Ext.refl _ _, fun a o h => ⟨o, h⟩, Rin, vs, hl.at fun o h => e₁.heap D o (fun x => x) h, rdAll_add hr e₁ hnew⟩
    have lc : LpCx W S (Cb.add P) D pl P' ((Cb.add P).avd none) s₀' := {
      cx := ⟨c₀.cx.base, c₀.cx.fr.add P', .inl c₀.cx.out, c₀.cx.nmut, c₀.cx.pl⟩
      hold := fun a o _ h => h
      old := fun a o _ h => .inr (c₀.cx.pl a h)
      D₀ := fun o _ => .inl c₀.cx.out
      Pm := fun a p h => havl a (.inr h) p
      Pb := fun a p => by
        cases q : W.hb.get? a with
        | none => rfl
        | some o => have := cu.rep.keep a o q; rw [hnew a p] at this; cases this
      PD := hnot D hDu
      plP := fun a h => havl a (.inr (c₀.cx.pl a h)) }
    have loop : ∀ (A' : Around) (R' : Result → Shared → Prop), Room k A' → (∀ v', J ys v' → CompInv W S (Cb.add P) D (fun a => a = D ∨ pl a ∨ P a) s v' σ₃ (acc ++ w1) → R' (.ok .next) v') → codeAny W.M A' (.compLoop (.ListComp elt [⟨.Name x1 p1, i1, [], 0⟩, ⟨.Name x2 p2, i2, [], 0⟩] scope pos) 1 (.ref I₂) (.ref D) Cb.env) R' u₁ := by
      intro A' R' hA' hR'
      refine comp_in hS hx2 ge A' (Cb.add P) D I₂ pl P' _ s₀' u₁ u₁ J' zs σ₂ σ₃ acc w1 hA' src' lc (fun x hx a h => ?_) src'.start cin h2 (by simp at hlen; omega) _ fun v v' cv ev => ?_
      · simp only [List.mem_singleton] at hx; subst hx; exact hpl2 a h
      · have hmu : ∀ a o, u₁.heap.get? a = some o → (a = D ∨ pl a ∨ P' a) → a = D ∨ pl a ∨ P' a := fun _ _ _ h => h
        have e₂ : Ext (fun a => a = D ∨ pl a ∨ P' a) u₁ v' := cv.ext.trans ev fun a _ _ h => .inr (.inr h)
        have e₃ : Ext (fun a => a = D ∨ pl a) u v' := (e₁.weak (mu := fun a => a = D ∨ pl a)).trans e₂ fun a o ea h => by
          rcases h with h | h | h
          · exact .inl h
          · exact .inr h
          · rw [hnew a h] at ea; cases ea
        have there₃ : ∀ a o, u.heap.get? a = some o → ∃ o', v'.heap.get? a = some o' := fun a o ea => by
          obtain ⟨o', ho'⟩ := cv.there a o (e₁.heap a o (fun x => x) ea)
          exact ⟨o', ev.heap a o' (hnot a ⟨o, ea⟩) ho'⟩
        refine hR' _ (src.keep _ _ _ _ hJu e₃ (fun a o ea h => ?_) (fun a h p => ?_)) ⟨cu.ext.trans e₃ fun a o _ h => ?_, fun a o h => let ⟨o', h'⟩ := cu.there a o h; there₃ a o' h', cv.rep.drop ev lc.Pm lc.Pb havl, ?_⟩
        · rcases h with h | h
          · subst h; exact c₀.D₀ o ea
          · exact c₀.old a o ea h
        · rcases h with h | h
          · exact c₀.PD (h ▸ p)
          · exact c₀.plP a h p
        · rcases h with h | h
          · exact .inl h
          · exact .inr (.inl h)
        · obtain ⟨vs, hl, hr⟩ := cv.list
          exact ⟨vs, hl.at fun o h => ev.heap D o lc.PD h, rdAll_drop hr ev⟩
    have hA' : Room k ((A.under (.compLoop (.ListComp elt [⟨.Name x1 p1, i1, [], 0⟩, ⟨.Name x2 p2, i2, [], 0⟩] scope pos) 0 (.ref I) (.ref D) Cb.env)).mark none) := by obtain ⟨a, b, c⟩ := hA; exact ⟨by first | exact a | simp [Around.mark, a], b, c⟩
    have fin : ∀ v', J ys v' → CompInv W S (Cb.add P) D (fun a => a = D ∨ pl a ∨ P a) s v' σ₃ (acc ++ w1) → ∃ m', m' < (y :: ys).length ∧ ∃ zs acc ws σ₁, m' = zs.length ∧ dComp (tgName j1) (dInner d2 (tgName j2) (dItem d)) zs σ₁ = some (ws, σ') ∧ acc ++ ws = acc₀ ++ res ∧ J zs v' ∧ CompInv W S (Cb.add P) D (fun a => a = D ∨ pl a ∨ P a) s v' σ₁ acc :=
      fun v' h1 h2 => ⟨ys.length, Nat.lt_succ_self _, ys, acc ++ w1, w2, σ₃, rfl, h3, by simpa using hacc, h1, h2⟩
    refine wpAny_bind (wpAny_runOwn (compStart_in (loop _ _ hA' fun v' h1 h2 => ?_) (src'.self _ zs u₁ hA'.handled src'.start _ _ (loop _ _ hA' fun v' h1 h2 => ?_))))
    · exact wpAny_pure ⟨rfl, fin v' h1 h2⟩
    · exact wpAny_pure ⟨rfl, fin v' h1 h2⟩


end
end Lite
namespace Lite
section
open PySem PySem.Calls PyProof.Rows PySem.W

/-- the names a scope takes from around -/
noncomputable def freeOf : List (Str × NameKind) → List Str
  | [] => []
  | (x, k) :: r => if k == .free then x :: freeOf r else freeOf r

theorem closure_go (env : Env) (f : Str × NameKind → List (Str × Addr) → Sem (ForInStep (List (Str × Addr))))
    (hf : ∀ name kind cs, f (name, kind) cs = if kind == .free then (do let c ← cellOf env name; pure (.yield ((name, c) :: cs))) else pure (.yield cs)) :
    ∀ (names : List (Str × NameKind)) (acc : List (Str × Addr)), (∀ x ∈ freeOf names, ∃ c, env.cells.lookup x = some c) →
      ∃ cl, forIn names acc f = pure cl ∧ (∀ x c, cl.lookup x = some c → (env.cells.lookup x = some c ∧ x ∈ freeOf names) ∨ acc.lookup x = some c) ∧ (∀ x, x ∈ freeOf names → ∃ c, cl.lookup x = some c) ∧ ∀ x c, acc.lookup x = some c → ∃ c', cl.lookup x = some c'
  | [], acc, _ => ⟨acc, by simp, fun x c h => .inr h, fun x h => absurd h (by simp [freeOf]), fun x c h => ⟨c, h⟩⟩
  | (n, k) :: r, acc, h => by
    cases hk : k == NameKind.free with
    | true =>
      simp only [freeOf, hk, if_true] at h ⊢
      obtain ⟨c, hc⟩ := h n List.mem_cons_self
      obtain ⟨cl, h1, h2, h3, h4⟩ := closure_go env f hf r ((n, c) :: acc) fun x hx => h x (List.mem_cons_of_mem _ hx)
      refine ⟨cl, ?_, fun x c' hx => ?_, fun x hx => ?_, fun x c' hx => ?_⟩
      · rw [List.forIn_cons, hf, hk]
        simp only [if_true, cellOf, hc, pure_bind]
        exact h1
      · rcases h2 x c' hx with ⟨a, b⟩ | a
        · exact .inl ⟨a, List.mem_cons_of_mem _ b⟩
        · rw [List.lookup_cons] at a
          cases hb : x == n with
          | true => rw [hb] at a; cases a; rw [beq_iff_eq.mp hb]; exact .inl ⟨hc, List.mem_cons_self⟩
          | false => rw [hb] at a; exact .inr a
      · rcases List.mem_cons.mp hx with rfl | hx
        · exact h4 x c (by rw [List.lookup_cons]; simp)
        · exact h3 x hx
      · by_cases hb : x = n
        · subst hb; exact h4 x c (by rw [List.lookup_cons]; simp)
        · exact h4 x c' (by rw [List.lookup_cons, beq_eq_false_iff_ne.mpr hb]; exact hx)
    | false =>
      simp only [freeOf, hk, Bool.false_eq_true, if_false] at h ⊢
      obtain ⟨cl, h1, h2, h3, h4⟩ := closure_go env f hf r acc h
      refine ⟨cl, ?_, h2, h3, h4⟩
      rw [List.forIn_cons, hf, hk]
      simp only [Bool.false_eq_true, if_false, pure_bind]
      exact h1
theorem closure_of {scope : Scope} {env : Env} (h : ∀ x ∈ freeOf scope.names, ∃ c, env.cells.lookup x = some c) :
    ∃ cl, closureFor scope env = pure cl ∧ (∀ x c, cl.lookup x = some c → env.cells.lookup x = some c ∧ x ∈ freeOf scope.names) ∧ ∀ x, x ∈ freeOf scope.names → ∃ c, cl.lookup x = some c := by
  obtain ⟨cl, h1, h2, h3, _⟩ := closure_go env (fun x cs => if (x.2 == NameKind.free) = true then do let c ← cellOf env x.1; pure (ForInStep.yield ((x.1, c) :: cs)) else pure (ForInStep.yield cs)) (fun name kind cs => rfl) scope.names [] h
  refine ⟨cl, ?_, fun x c hx => ?_, h3⟩
  · show (do let cs ← forIn scope.names [] _; pure cs) = _
    rw [h1]; rfl
  · rcases h2 x c hx with h | h
    · exact h
    · cases h

theorem cellsFrom_app : ∀ (names : List (Str × NameKind)) (n : Nat) (acc : List (Str × Addr)), cellsFrom n names acc = cellsFrom n names [] ++ acc
  | [], _, _ => rfl
  | (x, k) :: r, n, acc => by
    unfold cellsFrom
    split
    · rw [cellsFrom_app r (n + 1) ((x, n) :: acc), cellsFrom_app r (n + 1) [(x, n)]]; simp
    · exact cellsFrom_app r n acc
theorem cellsFrom_names : ∀ (names : List (Str × NameKind)) (n : Nat) (x : Str) (c : Addr), (cellsFrom n names []).lookup x = some c → (x, NameKind.cell) ∈ names
  | [], _, _, _, h => by cases h
  | (y, k) :: r, n, x, c, h => by
    unfold cellsFrom at h
    split at h
    · rename_i hk
      rw [cellsFrom_app, List.lookup_append] at h
      cases h1 : (cellsFrom (n + 1) r []).lookup x with
      | some c' => exact List.mem_cons_of_mem _ (cellsFrom_names r _ x c' h1)
      | none =>
        rw [h1] at h
        simp only [Option.none_or, List.lookup_cons] at h
        cases hb : x == y with
        | true => rw [beq_iff_eq.mp hb, ← (beq_iff_eq.mp hk)]; exact List.mem_cons_self
        | false => rw [hb] at h; cases h
    · exact List.mem_cons_of_mem _ (cellsFrom_names r n x c h)

noncomputable def relabelOf (scope P : Scope) : Scope :=
  { scope with names := scope.names.map fun (n, k) => if (k == .free && P.kind == .function && P.names.lookup n == some .cell) then (n, .cell) else (n, k) }
theorem relabel_eq {scope : Scope} {env : Env} {P : Scope} (h : env.scope = P) : relabel scope env = relabelOf scope P := by
  subst h; rfl

theorem comp_env {W : Wd} {A : Around} {scope : Scope} {env : Env} {cl : List (Str × Addr)} {s : Shared} {Q : Env → Shared → Prop} {E : Value → Shared → Prop}
    (hQ : ∀ h', CellsOk h' (s.heap.objs.size + 1) (cellsFrom (s.heap.objs.size + 1) scope.names []) → h'.Ns s.heap.objs.size (fun _ => none) → (∀ b o, s.heap.get? b = some o → h'.get? b = some o) →
      Q (newEnv scope s.heap.objs.size env.globals (cellsFrom (s.heap.objs.size + 1) scope.names [] ++ cl) env.qual none .none (some env) builtinsNs) { s with heap := h' }) :
    wpAny W.M A (newFunctionEnv scope env.globals cl [] env.qual none .none (some env)) Q E s := by
  simp only [newFunctionEnv, Option.isSome_some, if_true]
  refine wpAny_bind (wpAny_alloc ?_)
  refine wpAny_bind (wpAny_layCells _ (fun name kind cells => by cases hkc : kind == NameKind.cell <;> simp [hkc]) _ _ _ _ ?_)
  have ok := cellsFrom_ok scope.names (s.heap.push { cls := .type "dict", data := .dict #[] }) (s.heap.objs.size + 1) [] ⟨fun _ _ hm => (nomatch hm), List.Pairwise.nil⟩ (by rw [Heap.size_push]; exact Nat.le_refl _)
  rw [Heap.size_push] at ok
  rw [show ({ s with heap := s.heap.push { cls := .type "dict", data := .dict #[] } } : Shared).heap.objs.size = s.heap.objs.size + 1 from Heap.size_push ..]
  rw [cellsFrom_app]
  exact wpAny_bind (wpAny_pure (wpAny_pure (hQ _ ok ((Heap.Ns.new s.heap (.type "dict")).keeps (pushCells_keeps _ _)) fun b o e => pushCells_keeps _ _ b o (Heap.get?_push_of_some _ e))))


end
end Lite
namespace Lite
section
open PySem PySem.Calls PyProof.Rows PySem.W

/-- the slots of a comprehension's frame -/
noncomputable def compSt (nown : Nat) (caps : List Nat) (σ : St) : St := ⟨blank nown ++ caps.map (getS σ.ρ), none⟩
theorem getS_app : ∀ (n : Nat) (l : List (Option V)) (i : Nat) (v : V), getS (blank n ++ l) i = some v → n ≤ i ∧ getS l (i - n) = some v
  | 0, l, i, v, h => ⟨Nat.zero_le _, by simpa [blank] using h⟩
  | n + 1, l, 0, v, h => by simp [blank, getS] at h
  | n + 1, l, i + 1, v, h => by
    simp only [blank, List.cons_append, getS] at h
    obtain ⟨h1, h2⟩ := getS_app n l i v h
    exact ⟨by omega, by rw [show i + 1 - (n + 1) = i - n by omega]; exact h2⟩
theorem getS_map : ∀ (caps : List Nat) (ρ : List (Option V)) (t : Nat) (v : V), getS (caps.map (getS ρ)) t = some v → ∃ j, caps[t]? = some j ∧ getS ρ j = some v
  | [], _, _, _, h => by cases h
  | j :: r, ρ, 0, v, h => ⟨j, rfl, h⟩
  | j :: r, ρ, t + 1, v, h => by
    obtain ⟨j', h1, h2⟩ := getS_map r ρ t v h
    exact ⟨j', by simpa using h1, h2⟩

noncomputable def isCF (o : Option NameKind) : Bool := match o with | some .cell => true | some .free => true | _ => false
theorem isCF_ {o : Option NameKind} (h : isCF o = true) : o = some .cell ∨ o = some .free := by
  unfold isCF at h
  split at h
  · exact .inl rfl
  · exact .inr rfl
  · cases h
theorem isCF_iff {o : Option NameKind} : isCF o = true ↔ o = some .cell ∨ o = some .free := ⟨isCF_, fun h => by rcases h with rfl | rfl <;> rfl⟩

/-- what is looked at in a comprehension's scope -/
structure CompOk (S S' : Sx) (scope : Scope) (nown : Nat) (caps : List Nat) (vars : List Str) : Prop where
  kind : scope.kind = .function
  sc : S'.scope = relabelOf scope S.scope
  free : (freeOf scope.names).all (fun x => isCF (S.scope.names.lookup x)) = true
  locals : scope.names.all (fun p => !(p.2 == .local) || decide (scope.names.lookup p.1 = some .local)) = true
  cf : S'.scope.names.all (fun p => !(isCF (some p.2)) || decide (scope.names.lookup p.1 = some .cell) || (freeOf scope.names).contains p.1) = true
  apart : scope.names.all (fun p => !(p.2 == .cell) || !((freeOf scope.names).contains p.1)) = true
  caps : (List.range caps.length).all (fun t => match caps[t]?, S'.names[nown + t]? with
    | some j, some y => decide (S.names[j]? = some y) && isCF (S'.scope.names.lookup y) && (freeOf scope.names).contains y
    | _, _ => false) = true
  vars : vars.all (fun x => !((freeOf scope.names).contains x) && (decide (S'.scope.names.lookup x = some .local) || decide (S'.scope.names.lookup x = some .cell))) = true

noncomputable def dLC (d1 : St → Option (List V)) (m : List V → St → Option (List V × St)) (nown : Nat) (caps : List Nat) (σ : St) : Option (List V) :=
  (d1 σ).bind fun xs => (m xs (compSt nown caps σ)).bind fun p => match small p.1 with | true => some p.1 | false => none

theorem comp_core {W : Wd} {k : Nat} {S S' : Sx} {x : Str} {px : Pos} {elt iter : Expr} {ifs : List Expr} {rest : List Comprehension} {scope : Scope} {pos : Pos} {d1 : St → Option (List V)} {m : List V → St → Option (List V × St)} {nown : Nat} {caps : List Nat} {vars : List Str} {use : Option (Value → Sem Unit)} {cpos : Pos}
    (ok : CompOk S S' scope nown caps vars) (gi : GoodI W k S (.Name x px) iter d1) (gl : GoodL W k S' (.ListComp elt (⟨.Name x px, iter, ifs, 0⟩ :: rest) scope pos) 0 (.Name x px) vars m)
    (hfold : ∀ env v, foldedSetIterable iter env v = pure v)
    {A : Around} {C : Cx} {oa : Option Addr} {s : Shared} {σ : St} {res : List V} (hA : Room k A) (hC : FrS S C) (R : Rep W S C oa s σ) (hd : dLC d1 m nown caps σ = some res) {Q : Value → Shared → Prop} {E : Value → Shared → Prop}
    (hQ : ∀ u D L vs mm, Ext nobody s u → s.heap.get? D = none → s.heap.get? L = none → D ≠ L → u.heap.PlainList D vs → RdAll (fun b => C.avd oa b ∨ b = D ∨ b = L) u vs.toList res → u.heap.Ns L mm → compPost W.M A E use Q (.ref D) L (.ok .next) u) :
    wpAny W.M A (comprehension (.ListComp elt (⟨.Name x px, iter, ifs, 0⟩ :: rest) scope pos) scope C.env cpos (newList []) false (eval iter C.env) use) Q E s := by
  unfold dLC at hd
  cases h1 : d1 σ with
  | none => rw [h1] at hd; cases hd
  | some xs =>
  rw [h1] at hd
  simp only [Option.bind_some] at hd
  cases h2 : m xs (compSt nown caps σ) with
  | none => rw [h2] at hd; cases hd
  | some p =>
  obtain ⟨res', σ'⟩ := p
  rw [h2] at hd
  simp only [Option.bind_some] at hd
  cases h3 : small res' with
  | false => rw [h3] at hd; cases hd
  | true =>
  rw [h3] at hd
  simp only [Option.some.injEq] at hd
  subst hd
  have hsz : res'.length < 1000000 := by simpa [small] using h3
  -- the closure
  have hfree : ∀ y ∈ freeOf scope.names, ∃ c, C.env.cells.lookup y = some c := fun y hy => hC.cell y (isCF_ (List.all_eq_true.mp ok.free y hy))
  obtain ⟨cl, hclos, hcl1, hcl2⟩ := closure_of hfree
  refine wpAny_comprehension_free rfl (hfold _) hclos ok.kind (fun y hy hl => ?_) ?_
  · have := List.all_eq_true.mp ok.locals y hy
    simpa [hl] using this
  refine gi A C oa s σ xs hA hC R h1 _ _ fun s₀ I s₁ P J e₀ src => ?_
  have e₁ : Ext nobody s s₁ := e₀.trans' src.ext
  refine wpAny_newObj_type ?_
  refine comp_env fun h' cok hns hk' => ?_
  generalize hs₂ : ({ s₁ with heap := s₁.heap.push { cls := .type "list", dict := none, data := .seq ([] : List Value).toArray } } : Shared) = s₂ at cok hns hk' ⊢
  have hsz₂ : s₂.heap.objs.size = s₁.heap.objs.size + 1 := by rw [← hs₂]; exact Heap.size_push ..
  have hDget : s₂.heap.get? s₁.heap.objs.size = some { cls := .type "list", dict := none, data := .seq ([] : List Value).toArray } := by rw [← hs₂]; exact Heap.get?_push_size _ rfl
  have e₂ : Ext nobody s₁ s₂ := by rw [← hs₂]; exact Ext.pushed s₁ _ s₁.toks
  generalize hs₄ : ({ s₂ with heap := h' } : Shared) = s₄
  have e₃ : Ext nobody s₂ s₄ := by rw [← hs₄]; exact Ext.of_heap fun b o _ e => hk' b o e
  have hh' : s₄.heap = h' := by rw [← hs₄]
  have e₁₄ : Ext nobody s₁ s₄ := e₂.trans' e₃
  have e₄ : Ext nobody s s₄ := e₁.trans' e₁₄
  -- the frame
  have hrel : relabel scope C.env = S'.scope := by rw [ok.sc]; exact relabel_eq hC.scope
  have hfresh : ∀ a, s₁.heap.objs.size ≤ a → s₁.heap.get? a = none := fun a ha => by
    cases e : s₁.heap.get? a with
    | none => rfl
    | some o' => exact absurd (Heap.lt_size e) (Nat.not_lt.mpr ha)
  have hfresh0 : ∀ a, s₁.heap.get? a = none → s.heap.get? a = none := fun a ha => none_of_ext e₁ ha
  let cenv : Env := { newEnv scope s₂.heap.objs.size C.env.globals (cellsFrom (s₂.heap.objs.size + 1) scope.names [] ++ cl) C.env.qual none .none (some C.env) builtinsNs with scope := relabel scope C.env }
  let D : Addr := s₁.heap.objs.size
  let C' : Cx := ⟨cenv, fun a => C.avd oa a ∨ a = D⟩
  have hcells : ∀ y c, C'.env.cells.lookup y = some c → (s₄.heap.IsCell c none ∧ s₂.heap.objs.size + 1 ≤ c ∧ (cellsFrom (s₂.heap.objs.size + 1) scope.names []).lookup y = some c) ∨ (C.env.cells.lookup y = some c ∧ y ∈ freeOf scope.names) := by
    intro y c hc
    have hc : (cellsFrom (s₂.heap.objs.size + 1) scope.names [] ++ cl).lookup y = some c := hc
    rw [List.lookup_append] at hc
    cases h : (cellsFrom (s₂.heap.objs.size + 1) scope.names []).lookup y with
    | some c' =>
      rw [h] at hc
      simp only [Option.some_or, Option.some.injEq] at hc
      subst hc
      have := cok.empty y c' (mem_of_lookup h)
      exact .inl ⟨by rw [hh']; exact this.1, this.2, rfl⟩
    | none =>
      rw [h] at hc
      simp only [Option.none_or] at hc
      exact .inr (hcl1 y c hc)
  have hcap : ∀ y, y ∈ freeOf scope.names → ∃ c, C'.env.cells.lookup y = some c ∧ C.env.cells.lookup y = some c := by
    intro y hy
    obtain ⟨c, hc⟩ := hcl2 y hy
    refine ⟨c, ?_, (hcl1 y c hc).1⟩
    show (cellsFrom (s₂.heap.objs.size + 1) scope.names [] ++ cl).lookup y = some c
    rw [List.lookup_append]
    cases h : (cellsFrom (s₂.heap.objs.size + 1) scope.names []).lookup y with
    | none => simpa using hc
    | some c' =>
      have := List.all_eq_true.mp ok.apart _ (cellsFrom_names _ _ _ _ h)
      simp [hy] at this
  have hlive : ∀ a, C.avd oa a → ∃ o, s.heap.get? a = some o := R.live
  have hold₁ : ∀ a, C.avd oa a → ∃ o, s₁.heap.get? a = some o := fun a h => let ⟨o, ho⟩ := hlive a h; ⟨o, e₁.heap a o (fun x => x) ho⟩
  have hlt : ∀ a, (∃ o, s₁.heap.get? a = some o) → a < s₁.heap.objs.size := fun a ⟨o, ho⟩ => Heap.lt_size ho
  have hmutC : ∀ y c, C.env.cells.lookup y = some c → C.avd oa c := fun y c h => .inr (.inr (.inl ⟨y, h⟩))
  have hloc : C'.env.locals = s₂.heap.objs.size := rfl
  -- a place of the new frame is new, or a cell of the frame around
  have hmut' : ∀ a, C'.mut none a → (s₁.heap.objs.size + 1 ≤ a) ∨ (C.avd oa a ∧ C.mut oa a) := fun a h => by
    rcases h with h | ⟨y, h⟩ | h
    · left; rw [h, hloc, hsz₂]; exact Nat.le_refl _
    · rcases hcells y a h with ⟨_, h1, _⟩ | ⟨h1, _⟩
      · left; rw [hsz₂] at h1; exact Nat.le_trans (Nat.le_succ _) h1
      · right; exact ⟨hmutC y a h1, .inr (.inl ⟨y, h1⟩)⟩
    · cases h
  have hDn : s₁.heap.get? D = none := hfresh D (Nat.le_refl _)
  have hDne : ∀ a, (∃ o, s₁.heap.get? a = some o) → a ≠ D := fun a h => Nat.ne_of_lt (hlt a h)
  have havd' : ∀ a, C'.avd none a → C.avd oa a ∨ s₁.heap.get? a = none := fun a h => by
    rcases h with (h | h) | h
    · exact .inl h
    · right; rw [h]; exact hDn
    · rcases hmut' a h with h | h
      · right; exact hfresh a (Nat.le_of_succ_le h)
      · exact .inl h.1
  have hC' : FrS S' C' := {
    scope := hrel
    kind := by rw [ok.sc]; exact ok.kind
    globals := hC.globals
    builtins := hC.builtins
    ne := fun y c hc hh => by
      rcases hcells y c hc with ⟨_, h1, _⟩ | ⟨h1, _⟩
      · rw [hh, hloc] at h1; exact Nat.not_succ_le_self _ h1
      · have := hlt c (hold₁ c (hmutC y c h1))
        rw [hh, hloc, hsz₂] at this; exact Nat.lt_irrefl _ (Nat.lt_of_succ_lt this)
    apart := fun y z c hy hz => by
      rcases hcells y c hy with ⟨_, h1, h1'⟩ | ⟨h1, _⟩ <;> rcases hcells z c hz with ⟨_, h2, h2'⟩ | ⟨h2, _⟩
      · exact name_of_addr cok.apart (mem_of_lookup h1') (mem_of_lookup h2')
      · have := hlt c (hold₁ c (hmutC z c h2)); exfalso; rw [hsz₂] at h1; exact Nat.lt_irrefl _ (Nat.lt_of_lt_of_le this (Nat.le_trans (Nat.le_trans (Nat.le_succ _) (Nat.le_succ _)) h1))
      · have := hlt c (hold₁ c (hmutC y c h1)); exfalso; rw [hsz₂] at h2; exact Nat.lt_irrefl _ (Nat.lt_of_lt_of_le this (Nat.le_trans (Nat.le_trans (Nat.le_succ _) (Nat.le_succ _)) h2))
      · exact hC.apart y z c h1 h2
    cell := fun y hy => by
      obtain ⟨kk, hkk, hm⟩ : ∃ kk, isCF (some kk) = true ∧ (y, kk) ∈ S'.scope.names := by
        rcases hy with hy | hy
        · exact ⟨_, rfl, mem_of_lookup hy⟩
        · exact ⟨_, rfl, mem_of_lookup hy⟩
      have := List.all_eq_true.mp ok.cf _ hm
      simp only [hkk, Bool.not_true, Bool.false_or, Bool.or_eq_true, decide_eq_true_eq, List.contains_eq_mem] at this
      rcases this with h | h
      · obtain ⟨c, hc⟩ := cells_lookup_some scope.names (s₂.heap.objs.size + 1) [] y h
        refine ⟨c, ?_⟩
        show (cellsFrom (s₂.heap.objs.size + 1) scope.names [] ++ cl).lookup y = some c
        rw [List.lookup_append, hc]; rfl
      · obtain ⟨c, hc, _⟩ := hcap y h; exact ⟨c, hc⟩ }
  have hnewP : ∀ a, P a → s.heap.get? a = none := fun a p => none_of_ext e₀ (src.new a p)
  have hPlive : ∀ a, P a → ∃ o, s₁.heap.get? a = some o := src.live _ _ src.start
  have hnotP : ∀ a, (∃ o, s.heap.get? a = some o) → ¬ P a := fun a ⟨o, ho⟩ p => by rw [hnewP a p] at ho; cases ho
  have mv : ∀ a o, ¬ C.avd oa a → s.heap.get? a = some o → s₄.heap.get? a = some o ∧ ¬ (C'.add P).avd none a := fun a o na ea => ⟨e₄.heap a o (fun x => x) ea, fun h => by
    rcases avd_add.mp h with h | h
    · rcases havd' a h with h | h
      · exact na h
      · rw [e₁.heap a o (fun x => x) ea] at h; cases h
    · exact hnotP a ⟨o, ea⟩ h⟩
  have hDget₄ : s₄.heap.get? D = some { cls := .type "list", dict := none, data := .seq ([] : List Value).toArray } := e₃.heap _ _ (fun x => x) hDget
  have R' : Rep W S' (C'.add P) none s₄ (compSt nown caps σ) := {
    keep := fun b o e => e₄.heap b o (fun x => x) (R.keep b o e)
    base := fun a h => by
      rcases hmut' a h with h | h
      · cases e : W.hb.get? a with
        | none => rfl
        | some o =>
          have := e₁.heap a o (fun x => x) (R.keep a o e)
          rw [hfresh a (Nat.le_of_succ_le h)] at this; cases this
      · exact R.base a h.2
    live := fun a h => by
      rcases avd_add.mp h with h | h
      · rcases h with (h | h) | h | ⟨y, h⟩ | h
        · obtain ⟨o, ho⟩ := hlive a h; exact ⟨o, e₄.heap a o (fun x => x) ho⟩
        · rw [h]; exact ⟨_, hDget₄⟩
        · rw [h, hh']; obtain ⟨o, _, _, ho, _⟩ := hns; exact ⟨o, ho⟩
        · rcases hcells y a h with ⟨⟨o, ho, _⟩, _⟩ | ⟨h1, _⟩
          · exact ⟨o, ho⟩
          · obtain ⟨o, ho⟩ := hlive a (hmutC y a h1); exact ⟨o, e₄.heap a o (fun x => x) ho⟩
        · cases h
      · obtain ⟨o, ho⟩ := hPlive a h; exact ⟨o, e₁₄.heap a o (fun x => x) ho⟩
    ns := ⟨_, by rw [hh']; exact hns⟩
    cells := fun y c hc => by
      rcases hcells y c hc with ⟨h1, _⟩ | ⟨h1, _⟩
      · exact ⟨_, h1⟩
      · obtain ⟨v, hv⟩ := R.cells y c h1
        exact ⟨v, isCell_at hv fun o h => e₄.heap c o (fun x => x) h⟩
    slot := fun i y v hy hv => by
      obtain ⟨hi, hv'⟩ := getS_app _ _ _ _ hv
      obtain ⟨j, hj, hvj⟩ := getS_map _ _ _ _ hv'
      have hlt' : i - nown < caps.length := (List.getElem?_eq_some_iff.mp hj).1
      have hck := List.all_eq_true.mp ok.caps (i - nown) (List.mem_range.mpr hlt')
      rw [hj, show nown + (i - nown) = i by omega, hy] at hck
      simp only [Bool.and_eq_true, decide_eq_true_eq, List.contains_eq_mem] at hck
      obtain ⟨⟨hn, hcf⟩, hfr⟩ := hck
      obtain ⟨r, hb, hr⟩ := R.slot j y v hn hvj
      obtain ⟨c, hc', hc⟩ := hcap y hfr
      refine ⟨r, .inr ⟨?_, c, hc', ?_⟩, hr.move mv e₄.tk⟩
      · show List.lookup y (relabel scope C.env).names = _ ∨ List.lookup y (relabel scope C.env).names = _
        rw [hrel]; exact isCF_ hcf
      · have hcfS := isCF_ (List.all_eq_true.mp ok.free y hfr)
        rcases hb with ⟨h1, _⟩ | ⟨_, c2, h2, h3⟩
        · have : C.env.kindOf y = S.scope.names.lookup y := by unfold Env.kindOf; rw [hC.scope]
          rw [this] at h1
          rcases hcfS with h | h <;> (rw [h] at h1; cases h1)
        · rw [hc] at h2; cases h2
          exact isCell_at h3 fun o h => e₄.heap c o (fun x => x) h
    tk := Nat.lt_of_lt_of_le R.tk e₄.tk
    own := fun xs h => by cases h }
  let pl : Addr → Prop := fun a => C'.mut none a ∧ s₁.heap.get? a = none
  have some₁ : ∀ {a : Addr} {o : Obj}, s₁.heap.get? a = some o → ¬ s₁.heap.get? a = none := fun h h' => by rw [h] at h'; cases h'
  have Pm : ∀ a, P a → ¬ C'.mut none a := fun a p h => by
    rcases hmut' a h with h | h
    · obtain ⟨o, ho⟩ := hPlive a p
      exact some₁ ho (hfresh a (Nat.le_of_succ_le h))
    · exact hnotP a (hlive a h.1) p
  have PD : ¬ P D := fun p => by obtain ⟨o, ho⟩ := hPlive D p; exact some₁ ho hDn
  have hnbase : ∀ a, s₁.heap.get? a = none → W.hb.get? a = none := fun a ha => by
    cases e : W.hb.get? a with
    | none => rfl
    | some o => exact absurd ha (some₁ (e₁.heap a o (fun x => x) (R.keep a o e)))
  have lc : LpCx W S' C' D pl P (C.avd oa) s₀ := {
    cx := {
      base := hnbase D hDn
      fr := hC'.add P
      out := .inl (.inr rfl)
      nmut := fun h => by
        rcases hmut' D h with h | h
        · exact Nat.not_succ_le_self _ h
        · exact hDne D (hold₁ D h.1) rfl
      pl := fun a h => h.1 }
    hold := fun a o ea h => (havd' a h).resolve_right (some₁ (src.ext.heap a o (fun x => x) ea))
    old := fun a o ea h => absurd h.2 (some₁ (src.ext.heap a o (fun x => x) ea))
    D₀ := fun o ea => absurd hDn (some₁ (src.ext.heap _ o (fun x => x) ea))
    Pm := Pm
    Pb := fun a p => by
      cases e : W.hb.get? a with
      | none => rfl
      | some o => have := R.keep a o e; rw [hnewP a p] at this; cases this
    PD := PD
    plP := fun a h p => by obtain ⟨o, ho⟩ := hPlive a p; exact some₁ ho h.2 }
  have hJ : J xs s₄ := src.keep _ _ _ _ src.start e₁₄ (fun a o _ h => h.elim) fun a h => h.elim
  have c₀ : CompInv W S' (C'.add P) D (fun a => a = D ∨ pl a ∨ P a) s₄ s₄ (compSt nown caps σ) [] := ⟨Ext.refl _ _, fun a o h => ⟨o, h⟩, R', #[], ⟨_, hDget₄⟩, .nil⟩
  have loop : codeAny W.M A (.compLoop (.ListComp elt (⟨.Name x px, iter, ifs, 0⟩ :: rest) scope pos) 0 (.ref I) (.ref D) C'.env) (compPost W.M A E use Q (.ref D) C'.env.locals) s₄ := by
    refine gl A C' D I pl P _ s₀ s₁ s₄ J xs _ σ' [] res' hA src lc (fun y hy a ha => ?_) hJ c₀ h2 (by simpa using hsz) _ fun u u' c ev => ?_
    · have hv := List.all_eq_true.mp ok.vars y hy
      simp only [Bool.and_eq_true, Bool.not_eq_true', List.contains_eq_mem, decide_eq_false_iff_not] at hv
      refine ⟨ha.mut, ?_⟩
      rcases ha with ⟨_, ha⟩ | ⟨_, ha⟩
      · rw [ha, hloc]; exact hfresh _ (by rw [hsz₂]; exact Nat.le_succ _)
      · rcases hcells y a ha with ⟨_, h1, _⟩ | ⟨_, h1⟩
        · exact hfresh a (by rw [hsz₂] at h1; exact Nat.le_trans (Nat.le_trans (Nat.le_succ _) (Nat.le_succ _)) h1)
        · exact absurd h1 hv.1
    · obtain ⟨vs, hl, hr⟩ := c.list
      obtain ⟨mm, hm⟩ := c.rep.ns
      refine hQ u' D C'.env.locals vs mm ?_ (hfresh0 D hDn) (hfresh0 _ (hfresh _ (by rw [hloc, hsz₂]; exact Nat.le_succ _))) (fun h => ?_) (hl.at fun o h => ev.heap D o PD h) (hr.move (fun a o na ea => ⟨ev.heap a o (fun p => na (avd_add.mpr (.inr p))) ea, fun h => ?_⟩) ev.tk) (ns_at hm fun o h => ev.heap _ o (fun p => Pm _ p (.inl rfl)) h)
      · refine (e₄.trans c.ext fun a o ea h => ?_).trans ev fun a o ea h => hnotP a ⟨o, ea⟩ h
        rcases h with h | h | h
        · exact some₁ (e₁.heap a o (fun x => x) ea) (by rw [h]; exact hDn)
        · exact some₁ (e₁.heap a o (fun x => x) ea) h.2
        · exact hnotP a ⟨o, ea⟩ h
      · exact lc.cx.nmut (.inl h)
      · refine na (avd_add.mpr (.inl ?_))
        rcases h with h | h | h
        · exact .inl (.inl h)
        · exact .inl (.inr h)
        · exact .inr (.inl h)
  have loop' : codeAny W.M A (.compLoop (.ListComp elt (⟨.Name x px, iter, ifs, 0⟩ :: rest) scope pos) 0 (.ref I) (.ref D) cenv) (compPost W.M A E use Q (.ref D) cenv.locals) s₄ := loop
  subst hs₄
  exact codeAny_compStart_list loop' (src.self A xs _ hA.handled hJ _ _ loop')

/-- a comprehension that is a value -/
theorem good_comp {W : Wd} {k : Nat} {S S' : Sx} {x : Str} {px : Pos} {elt iter : Expr} {ifs : List Expr} {rest : List Comprehension} {scope : Scope} {pos : Pos} {d1 : St → Option (List V)} {m : List V → St → Option (List V × St)} {nown : Nat} {caps : List Nat} {vars : List Str}
    (ok : CompOk S S' scope nown caps vars) (gi : GoodI W k S (.Name x px) iter d1) (gl : GoodL W k S' (.ListComp elt (⟨.Name x px, iter, ifs, 0⟩ :: rest) scope pos) 0 (.Name x px) vars m)
    (hfold : ∀ env v, foldedSetIterable iter env v = pure v := by intro _ _; rfl) : GoodN W k S (.ListComp elt (⟨.Name x px, iter, ifs, 0⟩ :: rest) scope pos) (dLC d1 m nown caps) := by
  intro A C oa s σ res hA hC R hd Q E hQ
  rw [eval_ListComp]
  refine comp_core (use := none) ok gi gl hfold hA hC R hd fun u D L vs mm e hD hL hDL hl hr hm => ⟨mm, hm, fun h' hs' => ?_⟩
  refine hQ D vs _ (e.trans (Ext.of_heap (mu := fun a => a = L) (tk := u.toks) fun b o nb eb => hs'.extBut b o nb eb) fun a o ea h => ?_) hD (hl.at fun o h => hs'.extBut D o hDL h) (hr.move (s' := { u with heap := h' }) (fun a o na ea => ⟨hs'.extBut a o (fun h => na (.inr (.inr h))) ea, fun h => na ?_⟩) (Nat.le_refl _))
  · rw [h, hL] at ea; cases ea
  · rcases h with h | h
    · exact .inl h
    · exact .inr (.inl h)

/-- a comprehension that a name takes -/
theorem st_comp {W : Wd} {k : Nat} {S S' : Sx} {x y : Str} {px py : Pos} {elt iter : Expr} {ifs : List Expr} {rest : List Comprehension} {scope : Scope} {pos spos : Pos} {d1 : St → Option (List V)} {m : List V → St → Option (List V × St)} {nown : Nat} {caps : List Nat} {vars : List Str} (i : Nat)
    (hS : SxOk S) (hy : isSlot S i y = true) (ok : CompOk S S' scope nown caps vars) (gi : GoodI W k S (.Name x px) iter d1) (gl : GoodL W k S' (.ListComp elt (⟨.Name x px, iter, ifs, 0⟩ :: rest) scope pos) 0 (.Name x px) vars m)
    (hsw : ∀ env, env.scope = S.scope → swapsWith (.ListComp elt (⟨.Name x px, iter, ifs, 0⟩ :: rest) scope pos) (some (.Name y py)) spos.line env = pure true)
    (hfold : ∀ env v, foldedSetIterable iter env v = pure v := by intro _ _; rfl) : GoodS W k S (.Assign [.Name y py] (.ListComp elt (⟨.Name x px, iter, ifs, 0⟩ :: rest) scope pos) spos) (dSet i (dN (dLC d1 m nown caps))) := by
  intro A C oa s σ φ σ' hA hC R h Q E hQ
  unfold dSet dN at h
  cases hd : dLC d1 m nown caps σ with
  | none => rw [hd] at h; cases h
  | some res =>
  rw [hd] at h
  cases h
  rw [exec_Assign_Name_used _ _ _ _ (hsw _ hC.scope)]
  refine wpAny_bind (wpAny_standAt (wpAny_bind ?_))
  show wpAny _ A (do let _ ← comprehension (.ListComp elt (⟨.Name x px, iter, ifs, 0⟩ :: rest) scope pos) scope C.env _ (newList []) false (eval iter C.env) (some (assign (.Name y py) C.env))) _ _ s
  refine wpAny_bind (wpAny_mono (comp_core (use := some (assign (.Name y py) C.env)) (Q := fun _ s' => Q .next s') ok gi gl hfold hA hC R hd fun u D L vs mm e hD hL hDL hl hr hm => ?_) (fun _ s' hq => wpAny_pure (wpAny_pure hq)) fun _ _ e => e)
  obtain ⟨k1, k2⟩ := isSlot_ hy
  have hav : ∀ a, C.avd oa a → a ≠ D ∧ a ≠ L := fun a h => by
    obtain ⟨o, ho⟩ := R.live a h
    exact ⟨fun q => (by rw [q, hD] at ho; cases ho), fun q => (by rw [q, hL] at ho; cases ho)⟩
  have Ru : Rep W S (C.add fun a => a = L) oa u σ := R.add e (fun a h => by rw [h]; exact hL) (fun a h => by rw [h]; obtain ⟨o, _, _, ho, _⟩ := hm; exact ⟨o, ho⟩)
  have hDr : Rd ((C.add fun a => a = L).avd oa) u (.ref D) (.list res) := by
    refine .list hl (fun h => ?_) (hr.move (fun a o na ea => ⟨ea, fun h => na ?_⟩) (Nat.le_refl _))
    · rcases avd_add.mp h with h | h
      · exact (hav D h).1 rfl
      · exact hDL h
    · rcases avd_add.mp h with h | h
      · exact .inl h
      · exact .inr (.inr h)
  show wpAny _ A (assign (.Name y py) C.env (.ref D)) _ _ _
  refine wpAny_assign_Name (Ru.store hS (hC.add _) k1 hDr k2 fun u₂ e₂ t₂ R₂ => ?_)
  have hLm : ¬ (C.add fun a => a = L).mut oa L := fun h => (hav L (.inr h)).2 rfl
  refine ⟨mm, ns_at hm fun o h => e₂.heap L o hLm h, fun h' hs' => ?_⟩
  have e₃ : Ext (fun a => a = L) u₂ { u₂ with heap := h' } := Ext.of_heap (tk := u₂.toks) fun b o nb eb => hs'.extBut b o nb eb
  refine hQ .next oa _ ((e.weak.trans' (mu := C.mut oa) e₂).trans e₃ fun a o ea h => ?_) (fun a o ea => ?_) (Old.refl _ _ _) (R₂.drop e₃ (fun a h => h ▸ hLm) (fun a h => ?_) fun a h => (hav a h).2) trivial
  · rw [h, hL] at ea; cases ea
  · obtain ⟨o', ho'⟩ := e.there a o ea
    obtain ⟨o₂, ho₂⟩ := t₂ a o' ho'
    refine ⟨o₂, e₃.heap a o₂ (fun h => ?_) ho₂⟩
    rw [h, hL] at ea; cases ea
  · subst h
    cases q : W.hb.get? a with
    | none => rfl
    | some o => have := R.keep a o q; rw [hL] at this; cases this


end
end Lite
namespace Lite
section
open PySem PySem.Calls PyProof.Rows PySem.W

noncomputable abbrev prog1 : Program := PySem.Challenge.pw_wk0020_01
noncomputable def stmtAt (n : Nat) : Stmt := (prog1.main.body[n]?).getD (.Pass ⟨0, 0, 0, 0⟩)
noncomputable def bodyAt (n : Nat) : List Stmt := match stmtAt n with | .FunctionDef _ _ b _ _ _ _ _ _ _ => b | _ => []
noncomputable def scopeAt (n : Nat) : Scope := match stmtAt n with | .FunctionDef _ _ _ _ _ _ sc _ _ _ => sc | _ => prog1.main.scope

/-- the world of this law -/
structure WOk (W : Wd) : Prop where
  has : W.Has prog1
  nb : NoneBooked W.hb
  c_CHAR_MAX : GInt W "CHAR_MAX" 127
  c__MAX_STRING_SIZE : GInt W "_MAX_STRING_SIZE" 40
  c__MOVE_COST : GInt W "_MOVE_COST" 2
  c__CASE_COST : GInt W "_CASE_COST" 1
  b_len : Bi W "len" (.builtin "len")
  b_chr : Bi W "chr" (.builtin "chr")
  b_ord : Bi W "ord" (.builtin "ord")
  b_min : Bi W "min" (.builtin "min")
  b_sorted : Bi W "sorted" (.builtin "sorted")
  b_range : Bi W "range" (.type "range")
  b_zip : Bi W "zip" (.type "zip")
  b_enumerate : Bi W "enumerate" (.type "enumerate")
  b_set : Bi W "set" (.type "set")
  b_list : Bi W "list" (.type "list")
theorem WOk.ok {W : Wd} (h : WOk W) : W.Ok := h.has.ok

/-- x = y = e -/
noncomputable def dSet2 (i j : Nat) (d : St → Option V) (σ : St) : Option (Fl × St) := (d σ).map fun v => (.next, { σ with ρ := setS (setS σ.ρ i v) j v })
theorem st_assign2 {W : Wd} {k : Nat} {S : Sx} {x y : Str} {px py pos : Pos} {e : Expr} {d : St → Option V} (i j : Nat) (hS : SxOk S) (hx : isSlot S i x = true) (hy : isSlot S j y = true) (g : GoodE W k S e d)
    (hw : ∀ env, swappedStores [.Name x px, .Name y py] e env = pure none := by intro _; rfl) : GoodS W k S (.Assign [.Name x px, .Name y py] e pos) (dSet2 i j d) := by
  intro A C oa s σ φ σ' hA hC R h Q E hQ
  unfold dSet2 at h
  cases h1 : d σ with
  | none => rw [h1] at h; cases h
  | some v =>
    rw [h1] at h; cases h
    refine wpAny_Assign_two (g A C oa s σ v hA hC R h1 _ _ fun r s₁ e₁ q => ?_) rfl (hw _)
    refine tgt_name hS hx A C oa s₁ σ r v hC (R.ext e₁) q _ _ fun s₂ e₂ t₂ R₂ => ?_
    refine tgt_name hS hy A C oa s₂ _ r v hC R₂ (Rep.mutRd q e₂) _ _ fun s₃ e₃ t₃ R₃ => ?_
    exact hQ _ oa s₃ ((e₁.weak.trans' e₂).trans' e₃) (fun a o h => let ⟨o', h'⟩ := e₁.there a o h; let ⟨o'', h''⟩ := t₂ a o' h'; t₃ a o'' h'') (Old.refl _ _ _) R₃ trivial
theorem st_assignS {W : Wd} {k : Nat} {S : Sx} {x : Str} {px pos : Pos} {e : Expr} {d : St → Option V} (i : Nat) (hS : SxOk S) (hx : isSlot S i x = true) (g : GoodE W k S e d)
    (hs : ∀ env, env.scope = S.scope → swapsWith e (some (.Name x px)) pos.line env = pure false) : GoodS W k S (.Assign [.Name x px] e pos) (dSet i d) := by
  intro A C oa s σ φ σ' hA hC R h Q E hQ
  unfold dSet at h
  cases h1 : d σ with
  | none => rw [h1] at h; cases h
  | some v =>
    rw [h1] at h; cases h
    refine wpAny_Assign_Name (g A C oa s σ v hA hC R h1 _ _ fun r s₁ e₁ q => ?_) (hs _ hC.scope)
    obtain ⟨k1, k2⟩ := isSlot_ hx
    exact (R.ext e₁).store hS hC k1 q k2 fun s₂ e₂ t₂ R₂ => hQ _ oa s₂ (e₁.weak.trans' e₂) (fun a o h => let ⟨o', h'⟩ := e₁.there a o h; t₂ a o' h') (Old.refl _ _ _) R₂ trivial

/-- a comprehension's slots -/
noncomputable def mkS (scope P : Scope) (names : List Str) : Sx := ⟨relabelOf scope P, names, ""⟩
theorem mkS_ok (scope P : Scope) {names : List Str} (h : (decide names.Nodup && !(names.contains "")) = true) : SxOk (mkS scope P names) := by
  simp only [Bool.and_eq_true, decide_eq_true_eq, Bool.not_eq_true', List.contains_eq_mem, decide_eq_false_iff_not] at h
  exact ⟨h.1, h.2⟩
theorem tc_of {W : Wd} {S : Sx} {x : Str} {i : Nat} (h : isSlot S i x = true) : GoodTc W S x i := isSlot_ h
noncomputable def compChk (S S' : Sx) (scope : Scope) (nown : Nat) (caps : List Nat) (vars : List Str) : Bool :=
  (freeOf scope.names).all (fun x => isCF (S.scope.names.lookup x)) &&
  scope.names.all (fun p => !(p.2 == .local) || decide (scope.names.lookup p.1 = some .local)) &&
  S'.scope.names.all (fun p => !(isCF (some p.2)) || decide (scope.names.lookup p.1 = some .cell) || (freeOf scope.names).contains p.1) &&
  scope.names.all (fun p => !(p.2 == .cell) || !((freeOf scope.names).contains p.1)) &&
  (List.range caps.length).all (fun t => match caps[t]?, S'.names[nown + t]? with
    | some j, some y => decide (S.names[j]? = some y) && isCF (S'.scope.names.lookup y) && (freeOf scope.names).contains y
    | _, _ => false) &&
  vars.all (fun x => !((freeOf scope.names).contains x) && (decide (S'.scope.names.lookup x = some .local) || decide (S'.scope.names.lookup x = some .cell)))
theorem compOk_of {S : Sx} {scope : Scope} {names : List Str} {nown : Nat} {caps : List Nat} {vars : List Str} (h : compChk S (mkS scope S.scope names) scope nown caps vars = true) (hk : scope.kind = .function) : CompOk S (mkS scope S.scope names) scope nown caps vars := by
  simp only [compChk, Bool.and_eq_true] at h
  exact ⟨hk, rfl, h.1.1.1.1.1, h.1.1.1.1.2, h.1.1.1.2, h.1.1.2, h.1.2, h.2⟩
theorem comp_oneN {W : Wd} {k : Nat} {S : Sx} {x : Str} {i : Nat} {px : Pos} {elt iter : Expr} {scope : Scope} {pos : Pos} {d : St → Option V} (hS : SxOk S) (hx : GoodTc W S x i) (g : GoodE W k S elt d) :
    GoodL W k S (.ListComp elt [⟨.Name x px, iter, [], 0⟩] scope pos) 0 (.Name x px) [x] (dComp (tgName i) (dItem d)) := comp_one hS hx (.inl ⟨d, g, rfl, rfl⟩)
theorem comp_oneC {W : Wd} {k : Nat} {S : Sx} {x : Str} {i : Nat} {px : Pos} {elt iter c : Expr} {scope : Scope} {pos : Pos} {d : St → Option V} {t : St → Option Bool} (hS : SxOk S) (hx : GoodTc W S x i) (gt : GoodT W k S c t) (g : GoodE W k S elt d) :
    GoodL W k S (.ListComp elt [⟨.Name x px, iter, [c], 0⟩] scope pos) 0 (.Name x px) [x] (dComp (tgName i) (dCond t d)) := comp_one hS hx (.inr ⟨c, t, d, gt, g, rfl, rfl⟩)


theorem good_compM {W : Wd} {k : Nat} {S : Sx} {x : Str} {px : Pos} {elt iter : Expr} {ifs : List Expr} {rest : List Comprehension} {scope : Scope} {pos : Pos} {d1 : St → Option (List V)} {m : List V → St → Option (List V × St)} {nown : Nat} {caps : List Nat} (names vars : List Str)
    (ok : CompOk S (mkS scope S.scope names) scope nown caps vars) (gi : GoodI W k S (.Name x px) iter d1) (gl : GoodL W k (mkS scope S.scope names) (.ListComp elt (⟨.Name x px, iter, ifs, 0⟩ :: rest) scope pos) 0 (.Name x px) vars m)
    (hfold : ∀ env v, foldedSetIterable iter env v = pure v := by intro _ _; rfl) : GoodN W k S (.ListComp elt (⟨.Name x px, iter, ifs, 0⟩ :: rest) scope pos) (dLC d1 m nown caps) := good_comp ok gi gl hfold
theorem st_compM {W : Wd} {k : Nat} {S : Sx} {x y : Str} {px py : Pos} {elt iter : Expr} {ifs : List Expr} {rest : List Comprehension} {scope : Scope} {pos spos : Pos} {d1 : St → Option (List V)} {m : List V → St → Option (List V × St)} {nown : Nat} {caps : List Nat} (names vars : List Str) (i : Nat)
    (hS : SxOk S) (hy : isSlot S i y = true) (ok : CompOk S (mkS scope S.scope names) scope nown caps vars) (gi : GoodI W k S (.Name x px) iter d1) (gl : GoodL W k (mkS scope S.scope names) (.ListComp elt (⟨.Name x px, iter, ifs, 0⟩ :: rest) scope pos) 0 (.Name x px) vars m)
    (hsw : ∀ env, env.scope = S.scope → swapsWith (.ListComp elt (⟨.Name x px, iter, ifs, 0⟩ :: rest) scope pos) (some (.Name y py)) spos.line env = pure true)
    (hfold : ∀ env v, foldedSetIterable iter env v = pure v := by intro _ _; rfl) : GoodS W k S (.Assign [.Name y py] (.ListComp elt (⟨.Name x px, iter, ifs, 0⟩ :: rest) scope pos) spos) (dSet i (dN (dLC d1 m nown caps))) := st_comp i hS hy ok gi gl hsw hfold

noncomputable def recAt (m : Nat) : DefRec := match stmtAt m with | .FunctionDef n a b _ _ _ sc _ _ p => ⟨n, a, b, sc, p⟩ | _ => ⟨"", ⟨[], [], none, [], [], none, []⟩, [], prog1.main.scope, ⟨0, 0, 0, 0⟩⟩
noncomputable def fnChk (d : DefRec) (S : Sx) (m : Nat) (x : Str) (ps : List Str) : Bool :=
  decide (d.name = x) && (d.scope.kind == .function) && !d.scope.isCoroutine && !d.scope.isGenerator && decide (S.names.take ps.length = ps) &&
  ps.all (fun x => decide (d.scope.names.lookup x = some .local)) && d.scope.names.all (fun x => decide (d.scope.names.lookup x.1 ≠ some .free)) && !ps.isEmpty
/-- functions of this program -/
theorem fn_at {W : Wd} {k : Nat} {S : Sx} {D : Den} (hW : WOk W) (n m : Nat) (x : Str) (ps : List Str) (np nl : Nat) (hS : SxOk S) (g : GoodB W k S (bodyAt m) D) (hd : (recsOf prog1)[n]? = some (recAt m)) (hbody : (recAt m).body = bodyAt m) (hsc : S.scope = (recAt m).scope)
    (hchk : fnChk (recAt m) S m x ps = true) (hnp : ps.length = np)
    (hbind : ∀ pm code doc (rs : List Value), rs.length = ps.length → bindArgs (docDef (recAt m).name (recAt m).params (recAt m).body (recAt m).scope pm code doc) ⟨rs, []⟩ = pure (ps.zip rs)) : FnOk W (k + 1) x (runFn D np nl) := by
  simp only [fnChk, Bool.and_eq_true, decide_eq_true_eq, Bool.not_eq_true', beq_iff_eq] at hchk
  obtain ⟨⟨⟨⟨⟨⟨⟨h1, h2⟩, h3⟩, h4⟩, h5⟩, h6⟩, h7⟩, h8⟩ := hchk
  subst hnp
  rw [← h1]
  exact fn_ok hW.has _ (List.mem_of_getElem? hd) ps nl hS hsc h2 h3 h4 h5 h6 h7 hbind (hbody ▸ g) (fun h => by rw [h] at h8; cases h8)

theorem m_join : Meth "str" "join" "str.join" := ⟨F.plainAttrs_str, F.slot_str_join, F.type_str_join⟩
theorem m_lower : Meth "str" "lower" "str.lower" := ⟨F.plainAttrs_str, F.slot_str_lower, F.type_str_lower⟩
theorem m_index : Meth "list" "index" "list.index" := ⟨F.plainAttrs_list, F.slot_list_index, F.type_list_index⟩

/-- a remainder by a small number -/
noncomputable def modC : V → V → Option V
  | .int a, .int b => match decide (b = 1) || decide (b = 2) || decide (b = 3) || decide (b = 4) with | true => some (.int (a.fmod b)) | false => none
  | _, _ => none
theorem op_modC (W : Wd) : Op2 W (binaryOp .Mod) modC := by
  intro A av s r₁ r₂ v₁ v₂ v hA hL htk hk q₁ q₂ hf Q E h
  refine op_mod W A av s r₁ r₂ v₁ v₂ v hA hL htk hk q₁ q₂ ?_ Q E h
  unfold modC at hf
  split at hf <;> try (cases hf; done)
  rename_i a b
  split at hf <;> try (cases hf; done)
  rename_i hb
  cases hf
  simp only [Bool.or_eq_true, decide_eq_true_eq] at hb
  have : b.natAbs ≠ 0 := by omega
  simp [modV, this]

end
end Lite
namespace Lite
section
open PySem PySem.Calls PyProof.Rows PySem.W

theorem rdAll_of {av : Addr → Prop} {s : Shared} : ∀ (l : List Value) (f : Nat → V), (∀ i v, l[i]? = some v → Rd av s v (f i)) → RdAll av s l ((List.range l.length).map f)
  | [], _, _ => .nil
  | v :: r, f, h => by
    rw [List.length_cons, List.range_succ_eq_map]
    simp only [List.map_cons, List.map_map]
    exact .cons (h 0 v rfl) (rdAll_of r (f ∘ Nat.succ) fun i w hw => h (i + 1) w (by simpa using hw))

/-- list(range(a, b, c)) -/
noncomputable def listRangeV : List V → Option (List V)
  | [.int a, .int b, .int c] => match decide (c ≠ 0) && Builtin.Range.small a b c && !Builtin.divisionGoesByPylong (b - a) c && decide (0 ≤ Builtin.Range.rangeSize a b c) && decide (Builtin.Range.rangeSize a b c ≤ 10000) with
    | true => some ((List.range (Builtin.Range.rangeSize a b c).toNat).map fun (i : Nat) => .int (a + (i : Int) * c))
    | false => none
  | _ => none
noncomputable def dListRange (ds : St → Option (List V)) (σ : St) : Option (List V) := (ds σ).bind listRangeV
theorem good_listRange {W : Wd} {k : Nat} {S : Sx} {np np2 pos pos2 : Pos} {e : Expr} {es : List Expr} {ds : St → Option (List V)} (hW : WOk W) (hx : isGlob S "list" = true) (hx2 : isGlob S "range" = true) (gs : GoodEs W k S (e :: es) ds)
    (he : ∀ env, starEach (e :: es) env = (false, eval e env) :: starEach es env := by intro _; rfl) (hp : ∀ env, (backTo pos2 (starEach (e :: es) env)).any (·.1) = false := by intro _; rfl) :
    GoodN W k S (.Call (.Name "list" np) [.Call (.Name "range" np2) (e :: es) [] pos2] [] pos) (dListRange ds) := by
  intro A C oa s σ xs hA hC R h Q E hQ
  unfold dListRange at h
  cases h1 : ds σ with
  | none => rw [h1] at h; cases h
  | some vs =>
  rw [h1] at h
  simp only [Option.bind_some] at h
  refine wpAny_Call_NameR (glob_name hW.ok hC R hx (.inr hW.b_list) (PySem.callWith_type rfl ?_))
  have hsp : wpAny W.M A (spliced ((false, eval (.Call (.Name "range" np2) (e :: es) [] pos2) C.env) :: backTo pos (starEach [] C.env))) (fun rs s' => wpAny W.M A (call (.type "list") ([] ++ rs) []) Q E s') E s := by
    refine spliced_cons (Q := fun rs s' => wpAny W.M A (call (.type "list") ([] ++ rs) []) Q E s') ?_
    refine wpAny_Call_NameR (glob_name hW.ok hC R hx2 (.inr hW.b_range) (PySem.callWith_type (hp _) ?_))
    have hsp := gs A C oa s σ vs pos2 hA hC R h1 (fun rs s' => wpAny W.M A (call (.type "range") ([] ++ rs) []) (fun v s₁ => wpAny W.M A (spliced (backTo pos (starEach [] C.env))) (fun rest s₂ => wpAny W.M A (call (.type "list") ([] ++ (v :: rest)) []) Q E s₂) E s₁) E s') E
      fun rs s' e' q => ?_
    · rw [he] at hsp ⊢
      exact evalArgs_plain hsp
    · unfold listRangeV at h
      split at h <;> try (cases h; done)
      rename_i a b c
      split at h <;> try (cases h; done)
      cases q with
      | cons q q' =>
      cases q' with
      | cons q₂ q' =>
      cases q' with
      | cons q₃ q' =>
      cases q'
      cases q with
      | int _ t =>
      cases q₂ with
      | int _ u =>
      cases q₃ with
      | int _ v =>
      rename_i hb
      cases h
      simp only [Bool.and_eq_true, decide_eq_true_eq, Bool.not_eq_true'] at hb
      obtain ⟨⟨⟨⟨hc, hsm⟩, hpl⟩, h0⟩, hle⟩ := hb
      refine call_range_3 hc ?_ (.inl hpl)
      refine spliced_nil ?_
      generalize hs₂ : ({ s' with heap := s'.heap.push { cls := .type "range", data := .fields #[.int a t, .int b u, .int c v] }, toks := s'.toks } : Shared) = s₂
      have e₂ : Ext nobody s' s₂ := by rw [← hs₂]; exact Ext.pushed s' _ s'.toks
      have hr : PySem.IsRange s₂.heap s'.heap.objs.size a b c t u v := by rw [← hs₂]; exact Heap.get?_push_size _ rfl
      have e₁₂ : Ext nobody s s₂ := e'.trans' e₂
      have hn : Builtin.Range.rangeSize a b c = ((Builtin.Range.rangeSize a b c).toNat : Int) := by omega
      refine wpAny_with_toks (Nat.le_refl s₂.toks) (call_list_range hA.handled hr hsm hn (by omega) fun h' tk acc' c' hk hg hi htk => ?_)
      have e₃ : Ext nobody s₂ { s₂ with heap := h', toks := tk } := Ext.of_heap (fun b o _ eb => hk b o eb) htk
      have hl := hi.1
      refine hQ _ acc' _ (e₁₂.trans' e₃) (none_of_ext e₁₂ (Heap.none_size _)) ⟨_, hg⟩ ?_
      have := rdAll_of (av := fun b => C.avd oa b ∨ b = s₂.heap.objs.size) (s := { s₂ with heap := h', toks := tk }) acc'.toList (fun (i : Nat) => .int (a + (i : Int) * c)) fun i w hw => ?_
      · rw [Array.length_toList, hl] at this
        exact this
      · obtain ⟨t', ht'⟩ := hi.2 i w (by simpa using hw)
        rw [ht']; exact .int _ _
  exact evalArgs_plain hsp


end
end Lite
namespace Lite
section
open PySem PySem.Calls PyProof.Rows PySem.W

theorem getS_ne : ∀ (l : List (Option V)) (i j : Nat) (v : V), i ≠ j → getS (setS l i v) j = getS l j
  | [], _, _, _, _ => rfl
  | _ :: _, 0, 0, _, h => absurd rfl h
  | _ :: _, 0, _ + 1, _, _ => rfl
  | _ :: _, _ + 1, 0, _, _ => rfl
  | _ :: r, i + 1, j + 1, v, h => getS_ne r i j v (by omega)
theorem getS_eq : ∀ (l : List (Option V)) (i : Nat) (v w : V), getS l i = some w → getS (setS l i v) i = some v
  | [], _, _, _, h => by cases h
  | _ :: _, 0, _, _, _ => rfl
  | _ :: r, i + 1, v, w, h => getS_eq r i v w h
theorem Rep.less {W : Wd} {S : Sx} {C : Cx} {oa : Option Addr} {s : Shared} {σ σ' : St} (R : Rep W S C oa s σ) (h : ∀ i v, getS σ'.ρ i = some v → getS σ.ρ i = some v) (ho : σ'.own = σ.own) : Rep W S C oa s σ' :=
  ⟨R.keep, R.base, R.live, R.ns, R.cells, fun i x v h1 h2 => R.slot i x v h1 (h i v h2), R.tk, fun xs h => R.own xs (ho ▸ h)⟩

noncomputable def countN (c : Nat) : List Nat → Nat
  | [] => 0
  | x :: r => match Nat.beq x c with | true => countN c r + 1 | false => countN c r
noncomputable def ascii (l : List Nat) : Bool := l.all (fun c => Nat.blt c 128)
noncomputable def dCount (ia ib ic ii : Nat) (σ : St) : Option (Fl × St) := match getS σ.ρ ia, getS σ.ρ ib, getS σ.ρ ic, getS σ.ρ ii with
  | some (.str l), some (.ch c), some (.int n), none => (match ascii l with | true => some (.next, { σ with ρ := setS σ.ρ ic (.int (n + countN c l)) }) | false => none)
  | _, _, _, _ => none

theorem is_char {W : Wd} {A : Around} {s : Shared} {x c : Nat} {t u : Tok} (hb : NoneBooked s.heap) (ht : 0 < t) (hu : 0 < u) (htu : t ≠ u) {Q : Value → Shared → Prop} {E : Value → Shared → Prop}
    (h : ∀ b, (b = true → x = c) → Q (.bool b) s) : wpAny W.M A (compareOp .Is (.str ⟨#[x]⟩ t) (.str ⟨#[c]⟩ u)) Q E s := by
  have h0 : (t == 0 || u == 0) = false := by
    simp only [Bool.or_eq_false_iff, beq_eq_false_iff_ne]
    exact ⟨Nat.ne_of_gt ht, Nat.ne_of_gt hu⟩
  show wpAny W.M A (isSame _ _ >>= fun c => pure (.bool c)) Q E s
  by_cases hxc : x = c
  · refine wpAny_bind (wpAny_isSame_str h0 hb fun b => wpAny_pure (h b fun _ => hxc))
  · have he : ((⟨#[x]⟩ : Str) == ⟨#[c]⟩) = false := beq_eq_false_iff_ne.mpr fun e => hxc (by injection e with e; injection e with e; injection e)
    refine wpAny_bind (wpAny_of_eq (isSame_str_other _ _ _ _ h0 (beq_eq_false_iff_ne.mpr htu) he) (wpAny_pure (h false fun h => by cases h)))

theorem st_countFor {W : Wd} {k : Nat} {S : Sx} {xi xa xb xc : Str} {pi pa p1 p2 p3 p4 p5 p6 p7 p8 p10 p11 pos pos' : Pos} {n1 : Nat} (hnb : NoneBooked W.hb) (ia ib ic ii : Nat) (hS : SxOk S) (hi : isSlot S ii xi = true) (ha : S.names[ia]? = some xa) (hb : S.names[ib]? = some xb) (hc : isSlot S ic xc = true)
    (hd : ([ia, ib, ic, ii].Nodup) ) (hd1 : [xi, xa, xb, xc].all (fun x => !(x == ("__debug__" : Str)) && !(x == ("__classdict__" : Str))) = true) :
    GoodS W k S (.For (.Name xi pi) (.Name xa pa) [.If (.BoolOp .Or [.Compare (.Name xi p1) [.Is] [.Name xb p2] p3, .Compare (.Name xi p4) [.Eq] [.Name xb p5] p6] p7) [.AugAssign (.Name xc p8) .Add (.Constant (.int 1) n1 p10) p11] [] pos] [] pos') (dCount ia ib ic ii) := by
  intro A C oa s σ φ σ' hA hC R h Q E hQ
  unfold dCount at h
  split at h <;> try (cases h; done)
  rename_i l c n ga gb gc gi
  cases hl : ascii l with
  | false => rw [hl] at h; cases h
  | true =>
  rw [hl] at h
  simp only [Option.some.injEq, Prod.mk.injEq] at h
  obtain ⟨rfl, rfl⟩ := h
  simp only [List.all_cons, List.all_nil, Bool.and_true, Bool.and_eq_true, Bool.not_eq_true'] at hd1
  obtain ⟨⟨di1, di2⟩, ⟨da1, da2⟩, ⟨db1, db2⟩, ⟨dc1, dc2⟩⟩ := hd1
  have hk : C.env.scope.kind = .function := by rw [hC.scope]; exact hC.kind
  obtain ⟨hi1, hi2⟩ := isSlot_ hi
  obtain ⟨hc1, hc2⟩ := isSlot_ hc
  obtain ⟨ra, hba, hra⟩ := R.slot ia xa _ ha ga
  obtain ⟨rb, hbb, hrb⟩ := R.slot ib xb _ hb gb
  cases hra with
  | str x tk =>
  cases hrb with
  | ch _ u hu0 hu1 =>
  have hall : x.cps.all (· < 128) = true := by
    rw [← Array.all_toList]
    simp only [ascii, List.all_eq_true] at hl ⊢
    intro y hy
    have := hl y hy
    simpa [Nat.blt_eq] using this
  refine wpAny_For (wpAny_Name (loadName_bound hk hba da2 ?_) da1) (by intro _; rfl)
  refine wpAny_pyIter_ascii hall ?_
  have hI : s.heap.get? s.heap.objs.size = none := Heap.none_size _
  generalize hs₁ : ({ s with heap := s.heap.push { cls := .type "str_ascii_iterator", data := .fields #[.str x tk, .int 0 0] } } : Shared) = s₁
  have e₁ : Ext nobody s s₁ := by rw [← hs₁]; exact Ext.pushed s _ s.toks
  have hit₁ : s₁.heap.IsStrIter s.heap.objs.size "str_ascii_iterator" x tk 0 := by rw [← hs₁]; exact ⟨_, Heap.get?_push_size _ rfl, rfl, rfl⟩
  have htk₁ : s₁.toks = s.toks := by rw [← hs₁]
  generalize hIa : s.heap.objs.size = I at hI hit₁
  have hPs : ∀ a, a = I → s.heap.get? a = none := fun a h => h ▸ hI
  have hav : ∀ a, C.avd oa a → ¬ a = I := fun a h p => by
    obtain ⟨o, ho⟩ := R.live a h
    rw [p, hI] at ho; cases ho
  have hbI : ∀ a, a = I → W.hb.get? a = none := fun a p => by
    cases q : W.hb.get? a with
    | none => rfl
    | some o => have := R.keep a o q; rw [p, hI] at this; cases this
  have hmI : ∀ a, a = I → ¬ C.mut oa a := fun a p h => hav a (.inr h) p
  have hnd := hd
  simp only [List.nodup_cons, List.mem_cons, List.not_mem_nil, or_false, not_or, List.nodup_nil, and_true, not_false_eq_true] at hnd
  have nbc : xb ≠ xc := nodup_ne hS.nodup hb hc1 hnd.2.1.1
  have nbi : xb ≠ xi := nodup_ne hS.nodup hb hi1 hnd.2.1.2
  have nic : ic ≠ ii := hnd.2.2
  have hA' : Room k (A.mark none) := by obtain ⟨a, b, c⟩ := hA; exact ⟨by simp [Around.mark, a], b, c⟩
  have R₁ : Rep W S (C.add fun a => a = I) oa s₁ { σ with ρ := setS σ.ρ ic (.int n) } := (R.add e₁ hPs fun a h => by rw [h]; obtain ⟨o, ho, _⟩ := hit₁; exact ⟨o, ho⟩).less (fun i v h => by
    rcases getS_setS _ _ _ _ _ h with ⟨q1, q2⟩ | ⟨_, q⟩
    · rw [← q1, q2]; exact gc
    · exact q) rfl
  refine codeAny_forLoop_any (fun N t => ∃ j n', N = x.cps.size - j ∧ j ≤ x.cps.size ∧ t.heap.IsStrIter I "str_ascii_iterator" x tk j ∧ n' + countN c (x.cps.toList.drop j) = n + countN c x.cps.toList ∧ Ext (fun a => C.mut oa a ∨ a = I) s₁ t ∧
      (∀ a o, s₁.heap.get? a = some o → ∃ o', t.heap.get? a = some o') ∧ Rep W S (C.add fun a => a = I) oa t { σ with ρ := setS σ.ρ ic (.int n') } ∧ Bound C.env t.heap xb (.str ⟨#[c]⟩ u)) ?_ x.cps.size
    ⟨0, n, rfl, Nat.zero_le _, hit₁, by simp, Ext.refl _ _, fun a o h => ⟨o, h⟩, R₁, hbb.keep fun a o h => e₁.heap a o (fun x => x) h⟩
  rintro N t ⟨j, n', rfl, hj, hit, hn, et, tt, Rt, hbt⟩
  have fromS : ∀ {v : Shared}, Ext (fun a => C.mut oa a ∨ a = I) s₁ v → Ext (C.mut oa) s v := fun ev => (e₁.weak (mu := C.mut oa)).trans ev fun a o ea h => by
    rcases h with h | h
    · exact h
    · rw [h, hI] at ea; cases ea
  have thereS : ∀ {v : Shared}, (∀ a o, s₁.heap.get? a = some o → ∃ o', v.heap.get? a = some o') → ∀ a o, s.heap.get? a = some o → ∃ o', v.heap.get? a = some o' := fun tv a o ea => tv a o (e₁.heap a o (fun x => x) ea)
  cases hx : x.cps[j]? with
  | none =>
    have hjs : j = x.cps.size := by
      have := Array.getElem?_eq_none_iff.mp hx
      omega
    refine wpAny_pyNext_ascii_end hA'.handled hit hx fun h' he => ?_
    have e : Ext (fun a => a = I) t { t with heap := h' } := Ext.of_heap (tk := t.toks) fun b o hb e => he b o hb e
    have hn' : n' = n + countN c x.cps.toList := by
      rw [hjs] at hn
      rw [← hn, List.drop_eq_nil_of_le (by simp)]; simp [countN]
    subst hn'
    refine wpAny_execs_nil (hQ .next oa _ (fromS (et.trans e fun a o _ p => .inr p)) (fun a o ea => ?_) (Old.refl _ _ _) (Rt.drop e hmI hbI hav) trivial)
    obtain ⟨o', ho'⟩ := thereS tt a o ea
    exact ⟨o', e.heap a o' (fun p => by rw [p, hI] at ea; cases ea) ho'⟩
  | some y =>
    have hjs : j < x.cps.size := (Array.getElem?_eq_some_iff.mp hx).1
    have hdrop : x.cps.toList.drop j = y :: x.cps.toList.drop (j + 1) := by
      have hy : x.cps.toList[j]? = some y := by simpa using hx
      obtain ⟨h1, h2⟩ := List.getElem?_eq_some_iff.mp hy
      rw [List.drop_eq_getElem_cons h1, h2]
    refine wpAny_pyNext_ascii_item hit hx fun h' hit' hs' => ?_
    have e : Ext (fun a => a = I) t { t with heap := h', toks := t.toks + 1 } := Ext.of_heap (fun b o hb e => hs'.extBut b o hb e) (Nat.le_succ _)
    generalize ht' : ({ t with heap := h', toks := t.toks + 1 } : Shared) = t' at e
    have htk' : t'.toks = t.toks + 1 := by rw [← ht']
    have hh' : t'.heap = h' := by rw [← ht']
    have hut : u < t.toks := Nat.lt_of_lt_of_le hu1 (Nat.le_trans e₁.tk et.tk)
    have Rt' : Rep W S (C.add fun a => a = I) oa t' _ := Rt.outStep e hmI hbI fun a h => by rw [h, hh']; obtain ⟨o, ho, _⟩ := hit'; exact ⟨o, ho⟩
    have tt' : ∀ a o, s₁.heap.get? a = some o → ∃ o', t'.heap.get? a = some o' := fun a o ea => by
      obtain ⟨o', ho'⟩ := tt a o ea
      by_cases p : a = I
      · rw [p, hh']; obtain ⟨o, ho, _⟩ := hit'; exact ⟨o, ho⟩
      · exact ⟨o', e.heap a o' p ho'⟩
    have hbt' : Bound C.env t'.heap xb (.str ⟨#[c]⟩ u) := by
      have key : ∀ a o, ¬ a = I → t.heap.get? a = some o → t'.heap.get? a = some o := fun a o np ea => e.heap a o np ea
      rcases hbt with ⟨h1, m, h2, h3⟩ | ⟨h1, c, h2, h3⟩
      · exact .inl ⟨h1, m, ns_at h2 fun o => key _ o fun p => hmI _ p (.inl rfl), h3⟩
      · exact .inr ⟨h1, c, h2, isCell_at h3 fun o => key _ o fun p => hmI _ p (.inr (.inl ⟨xb, h2⟩))⟩
    have hr : Rd ((C.add fun a => a = I).avd oa) t' (.str ⟨#[y]⟩ t.toks) (.ch y) := .ch y _ Rt.tk (by rw [htk']; exact Nat.lt_succ_self _)
    have hC' := hC.add fun a => a = I
    refine wpAny_of_eq (show letOwnedTupleGo (.Name xi pi) (.ref I) _ = pure () from rfl) ?_
    refine wpAny_assign_Name (Rt'.storeAtB hS hC' hi1 hr hi2 fun v ev tv Rv keepv newv => ?_)
    have hbv : Bound C.env v.heap xb (.str ⟨#[c]⟩ u) := keepv xb _ nbi hbt'
    have pm : ∀ {z : Str} {a : Addr}, placeOf S (C.add fun a => a = I) z a → C.mut oa a := fun h => h.mut
    have etv : Ext (fun a => C.mut oa a ∨ a = I) s₁ v := (et.trans e fun a o _ p => .inr p).trans ev fun a o _ h => .inl (pm h)
    have ttv : ∀ a o, s₁.heap.get? a = some o → ∃ o', v.heap.get? a = some o' := fun a o ea => let ⟨o', h'⟩ := tt' a o ea; tv a o' h'
    have hitv : v.heap.IsStrIter I "str_ascii_iterator" x tk (j + 1) := by
      obtain ⟨o, ho, r⟩ := hit'
      exact ⟨o, ev.heap I o (fun h => hmI I rfl (pm h)) (by rw [hh']; exact ho), r⟩
    have hnbv : NoneBooked v.heap := by
      obtain ⟨mc, h1, h2⟩ := hnb
      exact ⟨mc, ns_at h1 fun o ho => Rv.keep _ o ho, h2⟩
    have hkv : C.env.scope.kind = .function := hk
    have hgi : ∀ i v', getS (setS (setS σ.ρ ic (.int n')) ii (.ch y)) i = some v' → i ≠ ii → getS (setS σ.ρ ic (.int n')) i = some v' := fun i v' h hi => by
      rcases getS_setS _ _ _ _ _ h with ⟨q1, _⟩ | ⟨_, q⟩
      · exact absurd q1.symm hi
      · exact q
    have less : ∀ (v' : Shared) (n'' : Int) (ρ' : List (Option V)), Rep W S (C.add fun a => a = I) oa v' { σ with ρ := ρ' } → (∀ i w, i ≠ ii → getS (setS σ.ρ ic (.int n'')) i = some w → getS ρ' i = some w) → Rep W S (C.add fun a => a = I) oa v' { σ with ρ := setS σ.ρ ic (.int n'') } := fun v' n'' ρ' R' h => R'.less (fun i w hw => by
      by_cases p : i = ii
      · subst p
        rw [getS_ne _ _ _ _ nic, gi] at hw; cases hw
      · exact h i w p hw) rfl
    -- the end of a turn
    have fin : ∀ (A' : Around) (E' : Value → Shared → Prop) (b : Bool) (v₁ : Shared), Room k A' → b = Nat.beq y c → Ext nobody v v₁ → wpAny W.M A' (execs (if b then [.AugAssign (.Name xc p8) .Add (.Constant (.int 1) n1 p10) p11] else []) C.env) (fun f s₃ => match f with
            | .next | .cont => ∃ m, m < x.cps.size - j ∧ ∃ j n', m = x.cps.size - j ∧ j ≤ x.cps.size ∧ s₃.heap.IsStrIter I "str_ascii_iterator" x tk j ∧ n' + countN c (x.cps.toList.drop j) = n + countN c x.cps.toList ∧ Ext (fun a => C.mut oa a ∨ a = I) s₁ s₃ ∧
      (∀ a o, s₁.heap.get? a = some o → ∃ o', s₃.heap.get? a = some o') ∧ Rep W S (C.add fun a => a = I) oa s₃ { σ with ρ := setS σ.ρ ic (.int n') } ∧ Bound C.env s₃.heap xb (.str ⟨#[c]⟩ u)
            | _ => False) E' v₁ := by
      intro A' E' b v₁ hA' hb e'
      have Rv₁ := Rv.ext e'
      have hbv₁ : Bound C.env v₁.heap xb (.str ⟨#[c]⟩ u) := hbv.keep fun a o h => e'.heap a o (fun x => x) h
      have ttv₁ : ∀ a o, s₁.heap.get? a = some o → ∃ o', v₁.heap.get? a = some o' := fun a o ea => let ⟨o', h'⟩ := ttv a o ea; ⟨o', e'.heap a o' (fun x => x) h'⟩
      have hitv₁ : v₁.heap.IsStrIter I "str_ascii_iterator" x tk (j + 1) := let ⟨o, ho, r⟩ := hitv; ⟨o, e'.heap I o (fun x => x) ho, r⟩
      rw [hdrop] at hn
      cases b with
      | false =>
        simp only [Bool.false_eq_true, if_false]
        refine wpAny_execs_nil ⟨x.cps.size - (j + 1), by omega, j + 1, n', rfl, hjs, hitv₁, ?_, etv.trans e' fun a o _ h => h.elim, ttv₁, less _ _ _ Rv₁ (fun i w hi hw => ?_), hbv₁⟩
        · rw [← hn]; simp only [countN, ← hb]
        · rw [getS_ne _ _ _ _ (Ne.symm hi)]; exact hw
      | true =>
        simp only [if_true]
        have hgc : getS (setS (setS σ.ρ ic (.int n')) ii (.ch y)) ic = some (.int n') := by
          rw [getS_ne _ _ _ _ (Ne.symm nic)]; exact getS_eq _ _ _ _ gc
        obtain ⟨rc, hbc, hrc⟩ := Rv₁.slot ic xc _ hc1 hgc
        refine wpAny_execs_cons (wpAny_AugAssign_Name (loadName_bound hkv hbc dc2 (wpAny_Constant_int ?_)))
        have e'' : Ext nobody v₁ { v₁ with toks := v₁.toks + 1 } := Ext.toks _ _
        refine op_iadd W A' _ _ _ _ (.int n') (.int 1) (.int (n' + 1)) (hA'.mono (Nat.zero_le _)) (Rv₁.ext e'').liveA (Rv₁.ext e'').tk (Rv₁.ext e'').keep (hrc.ext e'' fun _ h => h.elim) (.int _ _) rfl _ _ fun r₃ v₂ e₂ q₃ => ?_
        have R₂ := (Rv₁.ext e'').ext e₂
        refine R₂.storeAtB hS hC' hc1 q₃ hc2 fun v₃ e₃ t₃ R₃ keep₃ _ => ?_
        have e03 : Ext nobody v v₂ := (e'.trans' e'').trans' e₂
        refine wpAny_execs_nil ⟨x.cps.size - (j + 1), by omega, j + 1, n' + 1, rfl, hjs, ?_, ?_, (etv.trans e03 fun a o _ h => h.elim).trans e₃ fun a o _ h => .inl (pm h), fun a o ea => ?_, less _ _ _ R₃ (fun i w hi hw => ?_), keep₃ xb _ nbc (hbv.keep fun a o h => e03.heap a o (fun x => x) h)⟩
        · obtain ⟨o, ho, r⟩ := hitv
          exact ⟨o, e₃.heap I o (fun h => hmI I rfl (pm h)) (e03.heap I o (fun x => x) ho), r⟩
        · rw [← hn]; simp only [countN, ← hb]; omega
        · obtain ⟨o', ho'⟩ := ttv a o ea
          exact t₃ a o' (e03.heap a o' (fun x => x) ho')
        · rcases getS_setS _ _ _ _ _ hw with ⟨q1, q2⟩ | ⟨q1, q2⟩
          · subst q1 q2; exact getS_eq _ _ _ _ hgc
          · rw [getS_ne _ _ _ _ q1, getS_ne _ _ _ _ (Ne.symm hi), getS_ne _ _ _ _ q1]; exact q2
    refine wpAny_execs_cons (wpAny_If (isTrue_or (wpAny_isTrue_Compare1 (wpAny_Name (loadName_bound hkv newv di2 (wpAny_Name (loadName_bound hkv hbv db2 ?_) db1)) di1))))
    refine is_char hnbv Rt.tk hu0 (Nat.ne_of_gt hut) fun b hbc => wpAny_truthy_bool ?_
    cases b with
    | true =>
      have hyc : true = Nat.beq y c := by rw [hbc rfl]; exact (Nat.beq_refl c).symm
      simp only [if_true]
      refine wpAny_mono (fin A _ true v hA hyc (Ext.refl _ _)) (fun f s₃ h => ?_) fun _ _ e => e
      cases f with
      | next => exact wpAny_execs_nil h
      | cont => exact h
      | brk => exact h.elim
      | ret _ => exact h.elim
    | false =>
      simp only [Bool.false_eq_true, if_false]
      refine isTrue_or (wpAny_isTrue_Compare1 (wpAny_Name (loadName_bound hkv newv di2 (wpAny_Name (loadName_bound hkv hbv db2 ?_) db1)) di1))
      have htv : (t'.toks : Nat) ≤ v.toks := ev.tk
      have hy' : Rd ((C.add fun a => a = I).avd oa) v (.str ⟨#[y]⟩ t.toks) (.ch y) := .ch y _ Rt.tk (by rw [htk'] at htv; exact htv)
      have hc' : Rd ((C.add fun a => a = I).avd oa) v (.str ⟨#[c]⟩ u) (.ch c) := .ch c _ hu0 (by rw [htk'] at htv; exact Nat.lt_trans hut htv)
      refine op_eq W A _ _ _ _ (.ch y) (.ch c) (.bool (y == c)) (hA.mono (Nat.zero_le _)) Rv.liveA Rv.tk Rv.keep hy' hc' rfl _ _ fun r v₁ e' q => ?_
      cases q
      refine wpAny_truthy_bool ?_
      have hyc : (y == c) = Nat.beq y c := by rw [Bool.eq_iff_iff, beq_iff_eq, Nat.beq_eq]
      cases hb : (y == c) with
      | true =>
        simp only [if_true]
        refine wpAny_mono (fin A _ true v₁ hA (hb ▸ hyc) e') (fun f s₃ h => ?_) fun _ _ e => e
        cases f with
        | next => exact wpAny_execs_nil h
        | cont => exact h
        | brk => exact h.elim
        | ret _ => exact h.elim
      | false =>
        simp only [Bool.false_eq_true, if_false]
        refine isTrue_or_nil ?_
        simp only [Bool.false_eq_true, if_false]
        refine wpAny_mono (fin A _ false v₁ hA (hb ▸ hyc) e') (fun f s₃ h => ?_) fun _ _ e => e
        cases f with
        | next => exact wpAny_execs_nil h
        | cont => exact h
        | brk => exact h.elim
        | ret _ => exact h.elim


end
end Lite
namespace Lite
section
open PySem PySem.Calls PyProof.Rows PySem.W


theorem seg_forLoop {prog : Program} {w : World} {A : Around} {R : GenEnd} {Y : Protocol} {n : Nat} {s₀ : Shared} {fs : List Frame} {s : Shared} {env : Env} {target : Expr} {it : Value} {body orelse : List Stmt}
    (h : wpAny (model prog w) (A.over (.forLoop target it body orelse env) fs) (pyNext it) (fun r s₁ => match r with
        | none => Seg (model prog w) A R Y n s₀ (.forLoop target it body orelse env) (.pure (.again (.block orelse env))) fs s₁
        | some v => wpAny (model prog w) (A.over (.forLoop target it body orelse env) fs) (letOwnedTupleGo target it v) (fun _ s₁' =>
          wpAny (model prog w) (A.over (.forLoop target it body orelse env) fs) (assign target env v) (fun _ s₂ =>
          Seg (model prog w) A R Y n s₀ (.forLoop target it body orelse env) ((execs body env).wrap (fun f => match f with
            | .next | .cont => .pure (.again (.forLoop target it body orelse env))
            | .brk => .pure (.done .next)
            | .ret v => .pure (.done (.ret v))) (fun e => (do noteFrame e env; theTreesLotGoes e : Sem Unit).wrap (fun _ => .raise e) .raise id id) id id) fs s₂) (fun _ _ => False) s₁') (fun _ _ => False) s₁)
      (fun _ _ => False) s) :
    Seg (model prog w) A R Y n s₀ (.forLoop target it body orelse env) ((model prog w).den (.forLoop target it body orelse env)) fs s := by
  show Seg _ A R Y n s₀ _ ((forTurn target it body orelse env).onRaise (fun x => do noteFrame x env; theTreesLotGoes x)) fs s
  simp only [forTurn]
  rw [Sem.onRaise_eq_wrap]
  refine seg_bind_wrap (wpAny_standAt (seg_bind_wrap (wpAny_onRaise (wpAny_mono h (fun r s₁ h₁ => ?_) fun _ _ h' => h'.elim))))
  cases r with
  | none => exact h₁
  | some v =>
    refine seg_bind_wrap (wpAny_mono h₁ (fun _ s₁' h₁' => ?_) fun _ _ h' => h'.elim)
    refine seg_bind_wrap (wpAny_mono h₁' (fun _ s₂ h₂ => ?_) fun _ _ h' => h'.elim)
    rw [Sem.bind_eq_wrap', Sem.wrap_wrap]
    rw [Sem.wrap_congr (execs body env) _ _ (K' := fun f => match f with
            | .next | .cont => .pure (.again (.forLoop target it body orelse env))
            | .brk => .pure (.done .next)
            | .ret v => .pure (.done (.ret v))) (H' := (fun e => (do noteFrame e env; theTreesLotGoes e : Sem Unit).wrap (fun _ => .raise e) .raise id id))
        (fun f => by cases f <;> rfl)
        (fun e => by first | exact Sem.bind_eq_wrap _ _ | (show (do noteFrame e env; theTreesLotGoes e : Sem Unit).bind (fun _ => .raise e) = _; rw [Sem.bind_eq_wrap]))]
    exact h₂

theorem seg_For {prog : Program} {w : World} {A : Around} {R : GenEnd} {Y : Protocol} {n : Nat} {s₀ : Shared} {fs : List Frame} {s : Shared} {env : Env} {target iter : Expr} {body orelse : List Stmt} {pos : Pos} {c : Code} {K : Flow → Sem Fin} {H : Value → Sem Fin} {gd : Bool → Bool} {lv : List Value → List Value} (hs : ∀ x, foldedSetIterable iter env x = pure x)
    (h : wpAny (model prog w) (A.over c fs) (eval iter env) (fun x s₁ => wpAny (model prog w) (A.over c fs) (pyIter x) (fun it s₂ => ∀ p, Seg (model prog w) A R Y n s₀ (.forLoop target it body orelse env) ((model prog w).den (.forLoop target it body orelse env))
      (.ret (fun r => ((match r with | .ok f => (.pure f : Sem Flow) | .error e => .raise e).onRaise fun (x : Value) => do
        if (← field x 1) == Value.none then unsupported "frame.own-activation:exception-without-traceback"
        setFlight x env.frame).wrap K H gd lv) none (gd false) (lv []) c p [] :: fs) s₂) (fun _ _ => False) s₁) (fun _ _ => False) s) :
    Seg (model prog w) A R Y n s₀ c ((exec (.For target iter body orelse pos) env).wrap K H gd lv) fs s := by
  rw [exec_For]
  refine seg_bind_wrap (wpAny_standAt (seg_bind_wrap (wpAny_mono h (fun x s₁ h₁ => ?_) fun _ _ h' => h'.elim)))
  refine seg_bind_wrap (wpAny_of_eq (hs x) (seg_bind_wrap (wpAny_standAt (seg_bind_wrap (wpAny_holding (wpAny_mono h₁ (fun it s₂ h₂ => ?_) fun _ _ h' => h'.elim))))))
  exact seg_call h₂


/-- the generator's frame -/
noncomputable def S_gap : Sx := ⟨scopeAt 3, ["grouping", "last_interval", "interval"], ""⟩
theorem hS_gap : SxOk S_gap := ⟨by decide +kernel, by decide +kernel⟩

noncomputable def outs : List Int → Option (List Int)
  | [] => some []
  | x :: r => match x == 127 with
    | true => some []
    | false => match x == 0 with
      | true => none
      | false => (outs r).map (x :: ·)

structure GS0 (W : Wd) (env : Env) (Il lst : Addr) (vs : Array Value) (rem : List Int) (t : Shared) : Prop where
  keep : ∀ b o, W.hb.get? b = some o → t.heap.get? b = some o
  tk : 0 < t.toks
  ns : ∃ m, t.heap.Ns env.locals m
  it : ∃ j, t.heap.IsListIter Il lst j ∧ t.heap.IsList lst vs ∧ IntsAre (vs.toList.drop j) rem
structure GS1 (W : Wd) (env : Env) (Il lst : Addr) (vs : Array Value) (rem : List Int) (t : Shared) : Prop extends GS0 W env Il lst vs rem t where
  iv : ∃ m v, t.heap.Ns env.locals m ∧ m "interval" = some v

noncomputable abbrev own2 (env : Env) (Il : Addr) : Addr → Prop := fun a => a = env.locals ∨ a = Il
noncomputable def gEnd (env : Env) (Il : Addr) : GenEnd := fun n s₀ r s₁ => r = .ok (.ret .none) ∧ n = 0 ∧ Ext (own2 env Il) s₀ s₁
noncomputable def gProto (W : Wd) (env : Env) (Il lst : Addr) (vs : Array Value) (all : List Int) : Protocol := fun m s₀ v s kap =>
  (∃ x t, all[all.length - 1 - m]? = some x ∧ v = .int x t) ∧ Ext (own2 env Il) s₀ s ∧ ∃ rem, outs rem = some (all.drop (all.length - m)) ∧ GS1 W env Il lst vs rem s ∧ ∀ s'', GS1 W env Il lst vs rem s'' → kap (.send .none) s''

theorem rep_gap {W : Wd} {env : Env} {Il lst : Addr} {vs : Array Value} {rem : List Int} {t : Shared} (h : GS0 W env Il lst vs rem t) (hL : W.hb.get? env.locals = none) (hc : env.cells = []) : Rep W S_gap ⟨env, nobody⟩ none t ⟨blank 3, none⟩ where
  keep := h.keep
  base := fun a ha => by
    rcases ha with rfl | ⟨x, hx⟩ | h
    · exact hL
    · rw [show (⟨env, nobody⟩ : Cx).env.cells = [] from hc] at hx; cases hx
    · cases h
  live := fun a ha => by
    rcases ha with h | rfl | ⟨x, hx⟩ | h
    · exact h.elim
    · obtain ⟨m, o, _, _, ho, _⟩ := h.ns; exact ⟨o, ho⟩
    · rw [show (⟨env, nobody⟩ : Cx).env.cells = [] from hc] at hx; cases hx
    · cases h
  ns := h.ns
  cells := fun x c hx => by rw [show (⟨env, nobody⟩ : Cx).env.cells = [] from hc] at hx; cases hx
  slot := fun i x v _ hv => by rw [getS_blank] at hv; cases hv
  tk := h.tk
  own := fun xs h => by cases h

/-- a branch that is not taken -/
theorem body_any {W : Wd} {k : Nat} {S : Sx} {b : List Stmt} : GoodB W k S b (fun _ => none) := by
  intro A C oa s σ φ σ' hA hC R h; cases h

theorem Rep.noOwn {W : Wd} {S : Sx} {C : Cx} {oa : Option Addr} {s : Shared} {σ : St} (R : Rep W S C oa s σ) (h : σ.own = none) : Rep W S C none s σ := by
  have hm : ∀ a, C.mut none a → C.mut oa a := fun a h => by
    rcases h with h | h | h
    · exact .inl h
    · exact .inr (.inl h)
    · cases h
  have hav : ∀ a, C.avd none a → C.avd oa a := fun a h => by
    rcases h with h | h
    · exact .inl h
    · exact .inr (hm a h)
  refine ⟨R.keep, fun a h => R.base a (hm a h), fun a h => R.live a (hav a h), R.ns, R.cells, fun i x v h1 h2 => ?_, R.tk, fun xs h' => by rw [h] at h'; cases h'⟩
  obtain ⟨r, hb, hr⟩ := R.slot i x v h1 h2
  exact ⟨r, hb, hr.move (fun a o na ea => ⟨ea, fun h => na (hav a h)⟩) (Nat.le_refl _)⟩

theorem seg_gap {W : Wd} (hW : WOk W) {A : Around} {env : Env} {Il lst : Addr} {vs : Array Value} {all : List Int} {fs : List Frame} {p0 p1 p2 p3 p4 p5 p6 p7 p8 p9 p10 p11 p12 p13 p14 p15 : Pos} {n0 : Nat} {bad : List Stmt}
    (hC : FrS S_gap ⟨env, nobody⟩) (hcells : env.cells = []) (hL : W.hb.get? env.locals = none) (hIL : Il ≠ env.locals) (hll : lst ≠ env.locals) (hlI : lst ≠ Il) (hIb : W.hb.get? Il = none) (hco : env.scope.isCoroutine = false) (hint : interactive env = false)
    (hsplit : splitAtGen fs = none) (hguard : fs.any Frame.guarded = false)
    (body : List Stmt) (hb : body = [.If (.Compare (.Name "interval" p1) [.Eq] [.Name "CHAR_MAX" p2] p3) [.Return none p4] [] p5, .If (.Compare (.Name "interval" p6) [.Eq] [.Constant (.int 0) n0 p7] p8) bad [] p9, .Expr (.Yield (some (.Name "interval" p10)) p11) p12, .Assign [.Name "last_interval" p13] (.Name "interval" p14) p15])
    (hroom : Room 0 (A.over (.forLoop (.Name "interval" p0) (.ref Il) body [] env) fs))
    (hend : ∀ n s₀ c s' f, (f = .next ∨ f = .ret .none) → gEnd env Il n s₀ (.ok (.ret .none)) s' → Seg W.M A (gEnd env Il) (gProto W env Il lst vs all) n s₀ c (leafOf (.ok f)) fs s') :
    ∀ (rem ys : List Int) (s₀ s : Shared), outs rem = some ys → ys = all.drop (all.length - ys.length) → GS0 W env Il lst vs rem s → Ext (own2 env Il) s₀ s →
      Seg W.M A (gEnd env Il) (gProto W env Il lst vs all) ys.length s₀ (.forLoop (.Name "interval" p0) (.ref Il) body [] env) (W.M.den (.forLoop (.Name "interval" p0) (.ref Il) body [] env)) fs s := by
  intro rem
  induction rem with
  | nil =>
    intro ys s₀ s ho hsuf hg e
    cases ho
    refine seg_forLoop ?_
    obtain ⟨j, hit, hl, hi⟩ := hg.it
    have hdrop : vs.size ≤ j := by
      have : (vs.toList.drop j).length = 0 := by cases hd : vs.toList.drop j with
        | nil => rfl
        | cons a b => rw [hd] at hi; cases hi
      simp at this; omega
    refine wpAny_pyNext_list_end hroom.handled hit hl (Array.getElem?_eq_none hdrop) fun h' he => ?_
    refine seg_again rfl ?_
    have e' : Ext (own2 env Il) s { s with heap := h' } := Ext.of_heap (tk := s.toks) fun b o nb eb => he b o (fun h => nb (.inr h)) eb
    exact hend _ _ _ _ .next (.inl rfl) ⟨rfl, rfl, e.trans' e'⟩
  | cons x rem ih =>
    intro ys s₀ s ho hsuf hg e
    refine seg_forLoop ?_
    obtain ⟨j, hit, hl, hi⟩ := hg.it
    obtain ⟨tk, rest, hd, hi'⟩ : ∃ tk rest, vs.toList.drop j = .int x tk :: rest ∧ IntsAre rest rem := by
      cases hd : vs.toList.drop j with
      | nil => rw [hd] at hi; cases hi
      | cons a b => rw [hd] at hi; cases hi with | cons _ tk h => exact ⟨tk, b, rfl, h⟩
    have hx : vs[j]? = some (.int x tk) := by
      have : (vs.toList.drop j)[0]? = some (.int x tk) := by rw [hd]; rfl
      rw [List.getElem?_drop] at this
      simpa using this
    have hi1 : IntsAre (vs.toList.drop (j + 1)) rem := by
      have : vs.toList.drop (j + 1) = rest := by
        rw [← List.drop_drop, hd]; rfl
      rw [this]; exact hi'
    refine wpAny_pyNext_list_item hit hl hx fun h' hit' hs => ?_
    have e₁ : Ext (own2 env Il) s { s with heap := h' } := Ext.of_heap (tk := s.toks) fun b o nb eb => hs.extBut b o (fun h => nb (.inr h)) eb
    have hg₁ : GS0 W env Il lst vs rem { s with heap := h' } := ⟨fun b o eb => hs.extBut b o (fun h => by rw [h, hIb] at eb; cases eb) (hg.keep b o eb), hg.tk, let ⟨m, h⟩ := hg.ns; ⟨m, ns_at h fun o => hs.extBut _ o (Ne.symm hIL)⟩, j + 1, hit', isList_at hl fun o => hs.extBut _ o hlI, hi1⟩
    generalize ({ s with heap := h' } : Shared) = s₁ at e₁ hg₁
    refine wpAny_of_eq (show letOwnedTupleGo (.Name "interval" p0) (.ref Il) _ = pure () from rfl) ?_
    refine tgt_name hS_gap (i := 2) (by decide +kernel) _ ⟨env, nobody⟩ none s₁ _ (.int x tk) (.int x) hC (rep_gap hg₁ hL hcells) (.int _ _) _ _ fun s₂ e₂ t₂ R₂ => ?_
    have mutL : ∀ a, Cx.mut ⟨env, nobody⟩ none a → a = env.locals := fun a ha => by
      rcases ha with h | ⟨x, hx⟩ | h
      · exact h
      · rw [show (⟨env, nobody⟩ : Cx).env.cells = [] from hcells] at hx; cases hx
      · cases h
    -- a step of the frame keeps what the generator holds
    have keepG : ∀ {u v : Shared} {σ : St}, GS0 W env Il lst vs rem u → Ext (Cx.mut ⟨env, nobody⟩ none) u v → Rep W S_gap ⟨env, nobody⟩ none v σ → GS0 W env Il lst vs rem v := fun hu ev Rv => ⟨Rv.keep, Rv.tk, Rv.ns, let ⟨j, h1, h2, h3⟩ := hu.it
      ⟨j, h1.at fun o h => ev.heap _ o (fun hm => hIL (mutL _ hm)) h, isList_at h2 fun o h => ev.heap _ o (fun hm => hll (mutL _ hm)) h, h3⟩⟩
    have extG : ∀ {u v : Shared}, Ext (Cx.mut ⟨env, nobody⟩ none) u v → Ext (own2 env Il) u v := fun ev => ev.mono fun a o _ h => .inl (mutL a h)
    have hg₂ := keepG hg₁ e₂ R₂
    have e02 : Ext (own2 env Il) s₀ s₂ := (e.trans' e₁).trans' (extG e₂)
    subst hb
    refine seg_execs_cons (seg_wrap ?_)
    have hgint : GoodE W 0 S_gap (.Name "CHAR_MAX" p2) (dConst (.int 127)) := good_gint hW.ok hW.c_CHAR_MAX (by decide +kernel)
    have hvar : ∀ p, GoodE W 0 S_gap (.Name "interval" p) (dVar 2) := fun p => good_var 2 (by decide +kernel) (by decide +kernel) (by decide +kernel)
    have g₁ : GoodS W 0 S_gap (.If (.Compare (.Name "interval" p1) [.Eq] [.Name "CHAR_MAX" p2] p3) [.Return none p4] [] p5) (dIf (dT (d2 eqI (dVar 2) (dConst (.int 127)))) (dSeq dRetNone dNil) dNil) :=
      st_if (test_cmp (op_eq W) (hvar _) hgint) (body_cons st_retNone body_nil) body_nil
    have g₂ : GoodS W 0 S_gap (.If (.Compare (.Name "interval" p6) [.Eq] [.Constant (.int 0) n0 p7] p8) bad [] p9) (dIf (dT (d2 eqI (dVar 2) (dConst (.int 0)))) (fun _ => none) dNil) :=
      st_if (test_cmp (op_eq W) (hvar _) good_int) body_any body_nil
    cases h127 : x == 127 with
    | true =>
      simp only [outs, h127] at ho
      cases ho
      refine g₁ _ ⟨env, nobody⟩ none s₂ ⟨[none, none, some (.int x)], none⟩ (.ret .none) ⟨[none, none, some (.int x)], none⟩ hroom hC R₂ (by simp [dIf, dT, d2, dVar, getS, dConst, eqI, eqB, truthV, dSeq, dRetNone, h127]) _ _ fun f oa' s₃ e₃ t₃ o₃ R₃ hf => ?_
      (cases f <;> try (exact False.elim hf))
      cases hf
      exact hend _ _ _ _ (.ret .none) (.inr rfl) ⟨rfl, rfl, e02.trans' (extG e₃)⟩
    | false =>
      cases h0 : x == 0 with
      | true => simp [outs, h127, h0] at ho
      | false =>
      simp only [outs, h127, h0] at ho
      cases hor : outs rem with
      | none => rw [hor] at ho; cases ho
      | some ys' =>
      rw [hor] at ho
      simp only [Option.map_some, Option.some.injEq] at ho
      subst ho
      refine g₁ _ ⟨env, nobody⟩ none s₂ ⟨[none, none, some (.int x)], none⟩ .next ⟨[none, none, some (.int x)], none⟩ hroom hC R₂ (by simp [dIf, dT, d2, dVar, getS, dConst, eqI, eqB, truthV, dSeq, dRetNone, dNil, h127]) _ _ fun f oa' s₃ e₃ t₃ o₃ R₃ hf => ?_
      (cases f <;> try (exact False.elim hf))
      have R₃ := R₃.noOwn rfl
      have hg₃ := keepG hg₂ e₃ R₃
      refine seg_execs_cons (seg_wrap ?_)
      refine g₂ _ ⟨env, nobody⟩ none s₃ ⟨[none, none, some (.int x)], none⟩ .next ⟨[none, none, some (.int x)], none⟩ hroom hC R₃ (by simp [dIf, dT, d2, dVar, getS, dConst, eqI, eqB, truthV, dNil, h0]) _ _ fun f oa'' s₄ e₄ t₄ o₄ R₄ hf => ?_
      (cases f <;> try (exact False.elim hf))
      have R₄ := R₄.noOwn rfl
      have hg₄ := keepG hg₃ e₄ R₄
      have e04 : Ext (own2 env Il) s₀ s₄ := (e02.trans' (extG e₃)).trans' (extG e₄)
      refine seg_execs_cons (seg_Expr_Yield hsplit rfl hguard ?_ hco hint)
      refine hvar p10 _ ⟨env, nobody⟩ none s₄ _ (.int x) hroom hC R₄ rfl _ _ fun r s₅ e₅ q kap hkap => ?_
      have R₅ := R₄.ext e₅
      have hg₅ := keepG hg₄ (e₅.weak) R₅
      cases q with
      | int _ tx =>
      have hlen : (all.drop (all.length - (ys'.length + 1))).length = ys'.length + 1 := by rw [← show (x :: ys').length = ys'.length + 1 from rfl, ← hsuf]
      have hle : ys'.length + 1 ≤ all.length := by rw [List.length_drop] at hlen; omega
      have hidx : all[all.length - 1 - ys'.length]? = some x := by
        have h1 : (all.drop (all.length - (ys'.length + 1)))[0]? = some x := by
          have := congrArg (·[0]?) hsuf
          simpa using this.symm
        rw [List.getElem?_drop] at h1
        rw [show all.length - 1 - ys'.length = all.length - (ys'.length + 1) + 0 by omega]; exact h1
      have htail : ys' = all.drop (all.length - ys'.length) := by
        have h1 : ys' = (all.drop (all.length - (ys'.length + 1))).drop 1 := by
          have := congrArg (List.drop 1) hsuf
          simpa using this
        rw [List.drop_drop] at h1
        rw [show all.length - ys'.length = all.length - (ys'.length + 1) + 1 by omega]; exact h1
      refine ⟨⟨x, tx, hidx, rfl⟩, e04.trans' e₅.weak, rem, by rw [← htail]; exact hor, ⟨hg₅, ?_⟩, fun s₆ hg₆ => hkap .none s₆ ?_⟩
      · obtain ⟨r, hb, _⟩ := R₅.slot 2 "interval" (.int x) (by decide +kernel) rfl
        rcases hb with ⟨h1, m, h2, h3⟩ | ⟨_, c, h2, _⟩
        · exact ⟨m, r, h2, h3⟩
        · rw [show (⟨env, nobody⟩ : Cx).env.cells = [] from hcells] at h2; cases h2
      · obtain ⟨m, v, hm, hv⟩ := hg₆.iv
        have hks : ∀ y, env.kindOf y = S_gap.scope.names.lookup y := fun y => by unfold Env.kindOf; rw [show env.scope = S_gap.scope from hC.scope]
        have hkf : env.scope.kind = .function := by rw [show env.scope = S_gap.scope from hC.scope]; exact hC.kind
        refine seg_execs_cons (seg_wrap (wpAny_Assign_Name (wpAny_Name (wpAny_loadName_local hkf (by rw [hks]; decide +kernel) hm hv ?_) (by decide +kernel)) rfl))
        refine wpAny_storeName_local (by rw [hks]; decide +kernel) hm (fun h' hn' hs' => ?_) (by rw [hkf]; rfl)
        have e₇ : Ext (own2 env Il) s₆ { s₆ with heap := h', toks := s₆.toks + 1 } := Ext.of_heap (fun b o nb eb => hs'.extBut b o (fun h => nb (.inl h)) eb) (Nat.le_succ _)
        have hg₇ : GS0 W env Il lst vs rem { s₆ with heap := h', toks := s₆.toks + 1 } := ⟨fun b o eb => hs'.extBut b o (fun h => by rw [h, hL] at eb; cases eb) (hg₆.keep b o eb), Nat.lt_succ_of_lt hg₆.tk, ⟨_, hn'⟩, let ⟨j, h1, h2, h3⟩ := hg₆.it
          ⟨j, h1.at fun o => hs'.extBut _ o hIL, isList_at h2 fun o => hs'.extBut _ o hll, h3⟩⟩
        exact seg_again rfl (ih ys' s₆ _ hor htail hg₇ e₇)


end
end Lite
namespace Lite
section
open PySem PySem.Calls PyProof.Rows PySem.W

theorem wpAny_pyNext_funQ {prog : Program} {w : World} {A : Around} {E : Value → Shared → Prop} {s : Shared} {a : Addr} {g n : Nat} {gs : GenState} {P : Nat → Shared → Shared → Prop} {Y : Protocol} {Q : Option Value → Shared → Prop} (hh : A.handled = none)
    (hl : s.heap.NoLimit) (hroom : A.depth < recursionLimit)
    (hg : s.heap.IsGen a g) (hgs : s.gens[g]? = some gs)
    (hgo : gs.Goes (model prog w) A.in1 (fun n s₀ r s₁ => r = .ok (.ret .none) ∧ P n s₀ s₁) Y n (.send .none) (s.setGen g .running))
    (hY : ∀ v s₁ gs', gs'.bare = true → Y (n - 1) (s.setGen g .running) v s₁ (fun r' s'' => match n with
        | 0 => False
        | m + 1 => gs'.Goes (model prog w) A.in1 (fun n s₀ r s₁ => r = .ok (.ret .none) ∧ P n s₀ s₁) Y m r' s'') → Q (some v) (s₁.setGen g gs'))
    (hP : ∀ s₁, P n (s.setGen g .running) s₁ → ∀ h', (∀ b o, s₁.heap.get? b = some o → h'.get? b = some o) → Q none { s₁.setGen g .finished with heap := h' }) :
    wpAny (model prog w) A (pyNext (.ref a)) Q E s := by
  unfold pyNext
  refine wpAny_bind (wpAny_attempt (wpAny_callSpecial?_slot (name := Str.ofString "__next__") hg.typeIs slot_gen_next
    (wpAny_call_entry slot_gen_next hg.typeIs entry_gen_next ?_ (args_gen_next _))))
  show wpAny _ A.in1 (Builtin.Generator.genWake (.ref a) (.send .none)) _ _ s
  unfold Builtin.Generator.genWake
  refine wpAny_bind (wpAny_holding (wpAny_genNumber hg (wpAny_bind (wpAny_genState hgs ?_))))
  cases gs with
  | running => exact hgo.elim
  | finished => exact hgo.elim
  | _ =>
    refine wpAny_bind (wpAny_roomToWake hl hroom ?_)
    show wpAny _ A.in1 (.resume g (.send .none) [] _) _ _ s
    refine wpAny_resumeQ hgs hgo (fun x s₁ hx => ?_) (fun v s₁ gs' hb hv => ?_)
    · obtain ⟨rfl, hp⟩ := hx
      show wpAny _ A.in1 (newExc (.type "StopIteration") [] >>= _) _ _ _
      refine wpAny_bind ?_
      simp only [newExc, newTuple]
      refine wpAny_bind (wpAny_newObj_type ?_ (by size_fits))
      refine wpAny_bind (m := firstArgMember _ _) (wpAny_of_eq (a := Value.none) (by first | rfl | (simp only [firstArgMember]; rfl)) ?_)
      refine wpAny_newObj_type ?_ (by size_fits)
      simp only [raiseNew]
      refine wpAny_bind (wpAny_bind (wpAny_handled ?_))
      first | rw [show A.in1.handled = none from hh] | rw [hh]
      refine wpAny_throw ?_
      refine wpAny_bind (wpAny_isInstance (T := "StopIteration") (b := true) ⟨_, Heap.get?_push_size _ rfl, rfl⟩ isSubtype_stop ?_)
      exact wpAny_pure (hP s₁ hp _ fun b o hb => Heap.get?_push_of_some _ (Heap.get?_push_of_some _ hb))
    · exact wpAny_pure ⟨v, rfl, wpAny_pure (hY v s₁ gs' hb hv)⟩

structure GSF (W : Wd) (env : Env) (lst : Addr) (vs : Array Value) (t : Shared) : Prop where
  keep : ∀ b o, W.hb.get? b = some o → t.heap.get? b = some o
  tk : 0 < t.toks
  ns : ∃ m, t.heap.Ns env.locals m ∧ m "grouping" = some (.ref lst)
  lst : t.heap.IsList lst vs

theorem gap_fresh {W : Wd} (hW : WOk W) {A : Around} {env : Env} {lst : Addr} {vs : Array Value} {ns ys : List Int} (hC : FrS S_gap ⟨env, nobody⟩) (hcells : env.cells = []) (hL : W.hb.get? env.locals = none) (hll : lst ≠ env.locals)
    (hco : env.scope.isCoroutine = false) (hint : interactive env = false) (hA : Room 1 A) (hi : IntsAre vs.toList ns) (ho : outs ns = some ys) (t : Shared) (hg : GSF W env lst vs t) :
    (GenState.fresh (.func (bodyAt 3) env)).Goes W.M A (gEnd env t.heap.objs.size) (gProto W env t.heap.objs.size lst vs ys) ys.length (.send .none) t := by
  have hIn : t.heap.get? t.heap.objs.size = none := Heap.none_size _
  have hIL : t.heap.objs.size ≠ env.locals := fun h => by
    obtain ⟨m, ⟨o, _, _, ho, _⟩, _⟩ := hg.ns
    rw [← h, hIn] at ho; cases ho
  have hlI : lst ≠ t.heap.objs.size := fun h => by
    obtain ⟨o, ho, _⟩ := hg.lst
    rw [h, hIn] at ho; cases ho
  have hIb : W.hb.get? t.heap.objs.size = none := by
    cases q : W.hb.get? t.heap.objs.size with
    | none => rfl
    | some o => have := hg.keep _ o q; rw [hIn] at this; cases this
  have hks : ∀ y, env.kindOf y = S_gap.scope.names.lookup y := fun y => by unfold Env.kindOf; rw [show env.scope = S_gap.scope from hC.scope]
  have hkf : env.scope.kind = .function := by rw [show env.scope = S_gap.scope from hC.scope]; exact hC.kind
  have hh : (A.over (.func (bodyAt 3) env) []).handled = none := hA.handled
  refine ⟨rfl, seg_func ?_⟩
  refine seg_execs_cons (seg_wrap (wpAny_Assign_Name (Constant_none ?_) rfl))
  obtain ⟨m, hm, hv⟩ := hg.ns
  refine wpAny_storeName_local (by rw [hks]; decide +kernel) hm (fun h' hn' hs' => ?_) (by rw [hkf]; rfl)
  have hsz : h'.objs.size = t.heap.objs.size := hs'.1
  refine seg_execs_cons (seg_For (fun _ => rfl) (wpAny_Name (wpAny_loadName_local hkf (by rw [hks]; decide +kernel) hn' (v := .ref lst) ?_ ?_) (by decide +kernel)))
  · rw [if_neg (by decide +kernel)]; exact hv
  refine wpAny_pyIter_list (isList_at hg.lst fun o => hs'.extBut _ o hll) ?_
  intro p
  show Seg _ _ _ _ _ _ (.forLoop _ (.ref h'.objs.size) _ _ _) _ _ _
  rw [hsz]
  have e₁ : Ext (own2 env t.heap.objs.size) t { t with heap := h'.push { cls := .type "list_iterator", data := .fields #[.ref lst, .int 0 0] }, toks := t.toks + 1 } :=
    Ext.of_heap (fun b o nb eb => Heap.get?_push_of_some _ (hs'.extBut b o (fun h => nb (.inl h)) eb)) (Nat.le_succ _)
  have hpush : (h'.push { cls := .type "list_iterator", data := .fields #[.ref lst, .int 0 0] }).get? t.heap.objs.size = some { cls := .type "list_iterator", data := .fields #[.ref lst, .int 0 0] } := by rw [← hsz]; exact Heap.get?_push_size _ rfl
  have hg₁ : GS0 W env t.heap.objs.size lst vs ns { t with heap := h'.push { cls := .type "list_iterator", data := .fields #[.ref lst, .int 0 0] }, toks := t.toks + 1 } := {
    keep := fun b o eb => Heap.get?_push_of_some _ (hs'.extBut b o (fun h => by rw [h, hL] at eb; cases eb) (hg.keep b o eb))
    tk := Nat.lt_succ_of_lt hg.tk
    ns := ⟨_, ns_at hn' fun o => Heap.get?_push_of_some _⟩
    it := ⟨0, ⟨_, hpush, rfl, rfl⟩, isList_at hg.lst fun o h => Heap.get?_push_of_some _ (hs'.extBut _ o hll h), by simpa using hi⟩ }
  refine seg_gap hW hC hcells hL hIL hll hlI hIb hco hint rfl rfl _ rfl ?_ ?_ ns ys _ _ ho (by simp) hg₁ e₁
  · refine ⟨hA.handled, ?_, ?_⟩
    · show A.depth + 1 + 0 + 0 < _
      have := hA.depth; omega
    · show A.units + 3 + 0 + 20 * 0 + 100 < _
      have := hA.units; omega
  · intro n s₀ c s' f hf he
    refine seg_leaf (.ok f) ?_
    rcases hf with rfl | rfl
    · exact seg_end (.ok (.ret .none)) he
    · exact seg_end (.ok (.ret .none)) he


end
end Lite
namespace Lite
section
open PySem PySem.Calls PyProof.Rows PySem.W

theorem Rep.more {W : Wd} {S : Sx} {C : Cx} {oa : Option Addr} {s s' : Shared} {σ : St} {P P' : Addr → Prop} (R : Rep W S (C.add P) oa s σ) (key : ∀ a o, ¬ P a → s.heap.get? a = some o → s'.heap.get? a = some o) (ht : s.toks ≤ s'.toks)
    (hm : ∀ a, P a → ¬ C.mut oa a) (hb : ∀ a, P a → W.hb.get? a = none) (hl : ∀ a, P' a → ∃ o, s'.heap.get? a = some o) (hP : ∀ a, P' a → P a ∨ s.heap.get? a = none) (hle : ∀ a, P a → P' a) : Rep W S (C.add P') oa s' σ := by
  have mv : ∀ a o, ¬ (C.add P).avd oa a → s.heap.get? a = some o → s'.heap.get? a = some o ∧ ¬ (C.add P').avd oa a := fun a o na ea => ⟨key a o (fun p => na (avd_add.mpr (.inr p))) ea, fun h => by
    rcases avd_add.mp h with h | h
    · exact na (avd_add.mpr (.inl h))
    · rcases hP a h with h | h
      · exact na (avd_add.mpr (.inr h))
      · rw [h] at ea; cases ea⟩
  have hbd : ∀ y r, Bound C.env s.heap y r → Bound C.env s'.heap y r := fun y r b => by
    rcases b with ⟨h1, m, h2, h3⟩ | ⟨h1, c, h2, h3⟩
    · exact .inl ⟨h1, m, ns_at h2 fun o => key _ o fun p => hm _ p (.inl rfl), h3⟩
    · exact .inr ⟨h1, c, h2, isCell_at h3 fun o eo => key _ o (fun p => hm _ p (.inr (.inl ⟨y, h2⟩))) eo⟩
  refine ⟨fun b o eb => key b o (fun p => by rw [hb b p] at eb; cases eb) (R.keep b o eb), R.base, fun a h => ?_, let ⟨m, h⟩ := R.ns; ⟨m, ns_at h fun o => key _ o fun p => hm _ p (.inl rfl)⟩, fun x c h => ?_, fun i x v h1 h2 => ?_, Nat.lt_of_lt_of_le R.tk ht, fun xs h => ?_⟩
  · rcases avd_add.mp h with h' | h'
    · by_cases p : P a
      · exact hl a (hle a p)
      · obtain ⟨o, ho⟩ := R.live a (avd_add.mpr (.inl h')); exact ⟨o, key a o p ho⟩
    · exact hl a h'
  · obtain ⟨u, hu⟩ := R.cells x c h
    exact ⟨u, isCell_at hu fun o => key c o fun p => hm _ p (.inr (.inl ⟨x, h⟩))⟩
  · obtain ⟨r, hb, hr⟩ := R.slot i x v h1 h2
    exact ⟨r, hbd _ _ hb, hr.move mv ht⟩
  · obtain ⟨a, vs, h1, h2, h3, h4, h5⟩ := R.own xs h
    have hna : ¬ P a := fun p => hm a p (.inr (.inr h1))
    refine ⟨a, vs, h1, hbd _ _ h2, h3.at fun o => key a o hna, h4.move mv ht, fun h => ?_⟩
    rcases h with h | h
    · exact h5 (.inl h)
    · rcases hP a h with h | h
      · exact hna h
      · obtain ⟨n, ho⟩ := h3; rw [h] at ho; cases ho
theorem Rep.away {W : Wd} {S : Sx} {C : Cx} {oa : Option Addr} {s s' : Shared} {σ : St} {P : Addr → Prop} (R : Rep W S (C.add P) oa s σ) (key : ∀ a o, ¬ P a → s.heap.get? a = some o → s'.heap.get? a = some o) (ht : s.toks ≤ s'.toks)
    (hb : ∀ a, P a → W.hb.get? a = none) (hav : ∀ a, C.avd oa a → ¬ P a) : Rep W S C oa s' σ := by
  have e : Ext P s { s with heap := s'.heap, toks := s'.toks } := Ext.of_heap (fun b o nb eb => key b o nb eb) ht
  have R' := R.drop e (fun a p h => hav a (.inr h) p) hb hav
  exact ⟨R'.keep, R'.base, R'.live, R'.ns, R'.cells, fun i x v h1 h2 => let ⟨r, hb, hr⟩ := R'.slot i x v h1 h2; ⟨r, hb, Rd.move (s := { s with heap := s'.heap, toks := s'.toks }) (s' := s') (fun a o na ea => ⟨ea, na⟩) (Nat.le_refl _) hr⟩, R'.tk, fun xs h => let ⟨a, vs, h1, h2, h3, h4, h5⟩ := R'.own xs h; ⟨a, vs, h1, h2, h3, RdAll.move (s := { s with heap := s'.heap, toks := s'.toks }) (s' := s') (fun a o na ea => ⟨ea, na⟩) (Nat.le_refl _) h4, h5⟩⟩

theorem ext_gen {mu own : Addr → Prop} {s t u : Shared} {gi : Nat} {gs gs' : GenState} (e : Ext mu s t) (hgi : s.gens.size ≤ gi) (hg : t.gens[gi]? = some gs) (e' : Ext own (t.setGen gi .running) u) (ho : ∀ a o, s.heap.get? a = some o → own a → mu a) (hb : gs'.bare = true) :
    Ext mu s (u.setGen gi gs') ∧ (u.setGen gi gs').gens[gi]? = some gs' := by
  have h1 : (t.setGen gi .running).gens[gi]? = some .running := setGen_self hg
  have h2 : u.gens[gi]? = some .running := e'.old gi _ h1
  have h3 : (u.setGen gi gs').gens[gi]? = some gs' := setGen_self h2
  have g1 := GenOnly.setGen t gi .running
  have g2 := GenOnly.setGen u gi gs'
  refine ⟨⟨fun b o nb eb => e'.heap b o (fun h => nb (ho b o eb h)) (e.heap b o nb eb), e'.os.trans e.os, fun i g hi => ?_, fun i g hi hgi' => ?_, Nat.le_trans e.tk e'.tk⟩, h3⟩
  · have hne : i ≠ gi := fun h => by
      have := (Array.getElem?_eq_some_iff.mp hi).1
      omega
    rw [g2.2 i hne]
    refine e'.old i g ?_
    rw [g1.2 i hne]
    exact e.old i g hi
  · by_cases hne : i = gi
    · subst hne; rw [h3] at hgi'; cases hgi'; exact hb
    · rw [g2.2 i hne] at hgi'
      by_cases hsz : (t.setGen gi .running).gens.size ≤ i
      · exact e'.new i g hsz hgi'
      · have hlt : i < (t.setGen gi .running).gens.size := by omega
        have h4 := e'.old i _ (Array.getElem?_eq_getElem hlt)
        rw [hgi'] at h4
        have h5 : (t.setGen gi .running).gens[i]? = some g := by rw [Array.getElem?_eq_getElem hlt]; exact h4.symm
        rw [g1.2 i hne] at h5
        exact e.new i g hi h5

noncomputable def dForGen (ds : St → Option (List V)) (tg : V → St → Option St) (B : Den) (σ : St) : Option (Fl × St) := (ds σ).bind fun vs => match vs with
  | [.list l] => (intsOf l).bind fun ns => (outs ns).bind fun ys => dLoop tg B (ys.map .int) σ
  | _ => none

/-- the loop over the generator -/
theorem gen_loop {W : Wd} {k : Nat} {S : Sx} {target : Expr} {body : List Stmt} {tg : V → St → Option St} {B : Den} (hW : WOk W) (gt : GoodTg W S target tg) (g : GoodB W k S body B) (htg : ∀ I v, letOwnedTupleGo target I v = pure ())
    {A : Around} {C : Cx} {oa : Option Addr} {s s₁ : Shared} {σ σ' : St} {φ : Fl} {env : Env} {ga gi : Nat} {lst : Addr} {vs : Array Value} {ns all : List Int}
    (hA : Room (k + 2) A) (hC : FrS S C) (R : Rep W S C oa s σ) (e₁ : Ext nobody s s₁) (hgi : s.gens.size ≤ gi) (hgen : s₁.heap.IsGen ga gi) (hfresh : s₁.gens[gi]? = some (.fresh (.func (bodyAt 3) env)))
    (hga : s.heap.get? ga = none) (hLn : s.heap.get? env.locals = none) (hgL : ga ≠ env.locals) (hlst : ∃ o, s.heap.get? lst = some o) (hlav : ¬ C.avd oa lst) (hCg : FrS S_gap ⟨env, nobody⟩) (hcells : env.cells = []) (hco : env.scope.isCoroutine = false) (hint : interactive env = false)
    (hgf : GSF W env lst vs s₁) (hi : IntsAre vs.toList ns) (ho : outs ns = some all) (hd : dLoop tg B (all.map .int) σ = some (φ, σ'))
    {Q : Flow → Shared → Prop} {E : Value → Shared → Prop}
    (hQ : ∀ f oa' s', Ext (C.mut oa) s s' → (∀ a o, s.heap.get? a = some o → ∃ o', s'.heap.get? a = some o') → Old C oa s oa' → Rep W S C oa' s' σ' → FlRd C.out s' f φ → Q f s') :
    codeAny W.M (A.mark none) (.forLoop target (.ref ga) body [] C.env) (fun r s' => match r with | .ok f => Q f s' | .error e => cameBackBy W.M A C.env E e s') s₁ := by
  have hlive : ∀ a, C.avd oa a → ∃ o, s.heap.get? a = some o := R.live
  have hLb : W.hb.get? env.locals = none := by
    cases q : W.hb.get? env.locals with
    | none => rfl
    | some o => have := R.keep _ o q; rw [hLn] at this; cases this
  have hll : lst ≠ env.locals := fun h => by obtain ⟨o, ho⟩ := hlst; rw [h, hLn] at ho; cases ho
  have hA' : Room k (A.mark none) := by obtain ⟨a, b, c⟩ := hA; exact ⟨by simp [Around.mark, a], by show A.depth + k < _; omega, by show A.units + 20 * k + 100 < _; omega⟩
  have hAi : Room 1 (A.mark none).in1 := by obtain ⟨a, b, c⟩ := hA; exact ⟨by simp [Around.mark, a], by show A.depth + 1 < _; omega, by show A.units + 1 + 20 * 1 + 100 < _; omega⟩
  have hroom : (A.mark none).depth < recursionLimit := by show A.depth < _; have := hA.depth; omega
  have hbase : ∀ a, s.heap.get? a = none → W.hb.get? a = none := fun a p => by
    cases q : W.hb.get? a with
    | none => rfl
    | some o => have := R.keep a o q; rw [p] at this; cases this
  have R₁ : Rep W S (C.add fun a => a = ga ∨ a = env.locals) oa s₁ σ := R.add e₁ (fun a h => by
    rcases h with h | h
    · rw [h]; exact hga
    · rw [h]; exact hLn) (fun a h => by
    rcases h with h | h
    · rw [h]; obtain ⟨o, _, _, ho, _⟩ := hgen; exact ⟨o, ho⟩
    · rw [h]; obtain ⟨m, ⟨o, _, _, ho, _⟩, _⟩ := hgf.ns; exact ⟨o, ho⟩)
  have hP0 : ∀ a, (a = ga ∨ a = env.locals) → s.heap.get? a = none := fun a h => by
    rcases h with h | h
    · rw [h]; exact hga
    · rw [h]; exact hLn
  have hP0' : ∀ a, (a = ga ∨ a = env.locals) → ¬ C.avd oa a := fun a h hv => by
    obtain ⟨o, ho⟩ := hlive a hv
    rw [hP0 a h] at ho; cases ho
  refine codeAny_forLoop_any (fun n t => ∃ ys oa' σ₁, ∃ (P : Addr → Prop) (gs : GenState) (G : Shared → Prop), n = ys.length ∧ ys = all.drop (all.length - ys.length) ∧ dLoop tg B (ys.map .int) σ₁ = some (φ, σ') ∧
      Ext (C.mut oa) s t ∧ (∀ a o, s.heap.get? a = some o → ∃ o', t.heap.get? a = some o') ∧ Old C oa s oa' ∧ Rep W S (C.add P) oa' t σ₁ ∧
      P ga ∧ P env.locals ∧ (∀ a, P a → s.heap.get? a = none) ∧ (∀ a, P a → ¬ C.avd oa' a) ∧
      t.heap.IsGen ga gi ∧ t.gens[gi]? = some gs ∧ G t ∧
      (∀ t t', G t → (∀ a o, (P a ∨ a = lst ∨ ∃ o, W.hb.get? a = some o) → t.heap.get? a = some o → t'.heap.get? a = some o) → t.toks ≤ t'.toks → G t') ∧
      (∀ t', G t' → ∃ Il, ((P Il ∧ Il ≠ ga) ∨ t'.heap.get? Il = none) ∧ gs.Goes W.M (A.mark none).in1 (gEnd env Il) (gProto W env Il lst vs all) ys.length (.send .none) t')) ?_ all.length
    ⟨all, oa, σ, fun a => a = ga ∨ a = env.locals, _, GSF W env lst vs, rfl, by simp, hd, e₁.weak, e₁.there, Old.refl _ _ _, R₁, .inl rfl, .inr rfl, hP0, hP0', hgen, hfresh, hgf, fun t t' hg hk ht => ⟨fun b o eb => hk b o (.inr (.inr ⟨o, eb⟩)) (hg.keep b o eb), Nat.lt_of_lt_of_le hg.tk ht, let ⟨m, h1, h2⟩ := hg.ns; ⟨m, ns_at h1 fun o => hk _ o (.inl (.inr rfl)), h2⟩, isList_at hg.lst fun o => hk _ o (.inr (.inl rfl))⟩,
      fun t' hg => ⟨t'.heap.objs.size, .inr (Heap.none_size _), gap_fresh hW hCg hcells hLb hll hco hint hAi hi ho t' hg⟩⟩
  rintro n t ⟨ys, oa', σ₁, P, gs, G, rfl, hsuf, hd, et, tt, ot, Rt, hPg, hPL, hPs, hPav, hgt, hgs, hG, hGs, hgo⟩
  have hPb : ∀ a, P a → W.hb.get? a = none := fun a p => hbase a (hPs a p)
  have hG' : G (t.setGen gi .running) := hGs t _ hG (fun a o _ h => h) (Nat.le_refl _)
  obtain ⟨Il, hIl, hgoes⟩ := hgo _ hG'
  have hIl'' : (P Il ∧ Il ≠ ga) ∨ t.heap.get? Il = none := hIl
  have hIg : Il ≠ ga := by
    rcases hIl'' with h | h
    · exact h.2
    · intro q; obtain ⟨o, _, _, ho, _⟩ := hgt; rw [← q, h] at ho; cases ho
  have hIl' : P Il ∨ t.heap.get? Il = none := hIl''.imp (·.1) id
  have hIs : s.heap.get? Il = none := by
    rcases hIl' with h | h
    · exact hPs Il h
    · cases q : s.heap.get? Il with
      | none => rfl
      | some o => obtain ⟨o', ho'⟩ := tt Il o q; rw [h] at ho'; cases ho'
  have hown : ∀ a o, s.heap.get? a = some o → own2 env Il a → C.mut oa a := fun a o ea h => by
    rcases h with h | h
    · rw [h, hLn] at ea; cases ea
    · rw [h, hIs] at ea; cases ea
  have hlim : t.heap.NoLimit := hW.ok.lim.keeps Rt.keep
  have ownP : ∀ a o, t.heap.get? a = some o → own2 env Il a → P a := fun a o ea h => by
    rcases h with h | h
    · rw [h]; exact hPL
    · rcases hIl' with h' | h'
      · rw [h]; exact h'
      · rw [h, h'] at ea; cases ea
  refine wpAny_pyNext_funQ (P := fun n s₀ s₁ => n = 0 ∧ Ext (own2 env Il) s₀ s₁) hA'.handled hlim hroom hgt hgs hgoes (fun v s₂ gs' hbare hy => ?_) (fun s₂ hp h' hk => ?_)
  · cases ys with
    | nil =>
      obtain ⟨_, _, rem, _, hg1, hkap⟩ := hy
      exact (hkap _ hg1).elim
    | cons y ys =>
      obtain ⟨⟨x, tx, hx, rfl⟩, e₂, rem, hrem, hg1, hkap⟩ := hy
      have hlen : (all.drop (all.length - (ys.length + 1))).length = ys.length + 1 := by rw [← show (y :: ys).length = ys.length + 1 from rfl, ← hsuf]
      have hle : ys.length + 1 ≤ all.length := by rw [List.length_drop] at hlen; omega
      have hxy : x = y := by
        have h1 : (all.drop (all.length - (ys.length + 1)))[0]? = some y := by
          have := congrArg (·[0]?) hsuf
          simpa using this.symm
        rw [List.getElem?_drop] at h1
        simp only [List.length_cons, Nat.add_sub_cancel] at hx
        rw [show all.length - 1 - ys.length = all.length - (ys.length + 1) + 0 by omega, h1] at hx
        exact (Option.some.inj hx).symm
      subst hxy
      have htail : ys = all.drop (all.length - ys.length) := by
        have h1 : ys = (all.drop (all.length - (ys.length + 1))).drop 1 := by
          have := congrArg (List.drop 1) hsuf
          simpa using this
        rw [List.drop_drop] at h1
        rw [show all.length - ys.length = all.length - (ys.length + 1) + 1 by omega]; exact h1
      obtain ⟨es, hgs'⟩ := ext_gen et hgi hgs e₂ hown hbare
      generalize ht' : s₂.setGen gi gs' = t' at es hgs'
      have hh' : t'.heap = s₂.heap := by rw [← ht']; rfl
      have htk' : t'.toks = s₂.toks := by rw [← ht']; rfl
      have hkt : ∀ a o, ¬ own2 env Il a → t.heap.get? a = some o → t'.heap.get? a = some o := fun a o na ea => by rw [hh']; exact e₂.heap a o na ea
      have htt : t.toks ≤ t'.toks := by rw [htk']; exact e₂.tk
      have hg1' : GS1 W env Il lst vs rem t' := by
        obtain ⟨⟨a, b, c, d⟩, f⟩ := hg1
        exact ⟨⟨by rw [hh']; exact a, by rw [htk']; exact b, by rw [hh']; exact c, by rw [hh']; exact d⟩, by rw [hh']; exact f⟩
      have hLt' : ∃ o, t'.heap.get? env.locals = some o := by obtain ⟨m, o, _, _, ho, _⟩ := hg1'.ns; exact ⟨o, ho⟩
      have hIt' : ∃ o, t'.heap.get? Il = some o := by obtain ⟨j, ⟨o, ho, _⟩, _⟩ := hg1'.it; exact ⟨o, ho⟩
      have tt' : ∀ a o, t.heap.get? a = some o → ∃ o', t'.heap.get? a = some o' := fun a o ea => by
        by_cases p : own2 env Il a
        · rcases p with p | p
          · rw [p]; exact hLt'
          · rw [p]; exact hIt'
        · exact ⟨o, hkt a o p ea⟩
      let P' : Addr → Prop := fun a => P a ∨ a = Il
      have hP's : ∀ a, P' a → s.heap.get? a = none := fun a h => by
        rcases h with h | h
        · exact hPs a h
        · rw [h]; exact hIs
      have hIav : ¬ C.avd oa' Il := fun h => by
        rcases hIl' with h' | h'
        · exact hPav Il h' h
        · obtain ⟨o, ho⟩ := Rt.live Il (avd_add.mpr (.inl h)); rw [h'] at ho; cases ho
      have hP'av : ∀ a, P' a → ¬ C.avd oa' a := fun a h hv => by
        rcases h with h | h
        · exact hPav a h hv
        · exact hIav (h ▸ hv)
      have hP'live : ∀ a, P' a → ∃ o, t'.heap.get? a = some o := fun a h => by
        rcases h with h | h
        · obtain ⟨o, ho⟩ := Rt.live a (avd_add.mpr (.inr h)); exact tt' a o ho
        · rw [h]; exact hIt'
      have Rt' : Rep W S (C.add P') oa' t' σ₁ := Rt.more (fun a o na ea => hkt a o (fun h => na (ownP a o ea h)) ea) htt (fun a p h => hPav a p (.inr h)) hPb hP'live (fun a h => by
        rcases h with h | h
        · exact .inl h
        · rcases hIl' with h' | h'
          · exact .inl (h ▸ h')
          · exact .inr (h ▸ h')) (fun a h => .inl h)
      have hgt' : t'.heap.IsGen ga gi := by
        obtain ⟨o, nm, qn, ho, r⟩ := hgt
        refine ⟨o, nm, qn, hkt ga o (fun h => ?_) ho, r⟩
        rcases h with h | h
        · exact hgL h
        · exact hIg h.symm
      simp only [List.map_cons, dLoop] at hd
      cases h2 : tg (.int x) σ₁ with
      | none => rw [h2] at hd; cases hd
      | some σ₂ =>
      rw [h2] at hd
      simp only [Option.bind_some] at hd
      cases h3 : B σ₂ with
      | none => rw [h3] at hd; cases hd
      | some p =>
      obtain ⟨φ₁, σ₃⟩ := p
      rw [h3] at hd
      simp only [Option.bind_some] at hd
      refine wpAny_of_eq (htg _ _) ?_
      have thereS : ∀ {v : Shared}, (∀ a o, t'.heap.get? a = some o → ∃ o', v.heap.get? a = some o') → ∀ a o, s.heap.get? a = some o → ∃ o', v.heap.get? a = some o' := fun tv a o ea => by
        obtain ⟨o₁, h₁⟩ := tt a o ea
        obtain ⟨o₂, h₂⟩ := tt' a o₁ h₁
        exact tv a o₂ h₂
      refine gt (A.mark none) (C.add P') oa' t' σ₁ σ₂ (.int x tx) (.int x) hA'.handled (hC.add P') Rt' (.int _ _) h2 _ _ fun t₂ e₃ tt₂ R₂ => ?_
      refine g (A.mark none) (C.add P') oa' t₂ σ₂ φ₁ σ₃ hA' (hC.add P') R₂ h3 _ _ fun f oa₃ t₃ e₄ tt₃ o₃ R₃ hf => ?_
      have tt₂₃ : ∀ a o, t'.heap.get? a = some o → ∃ o', t₃.heap.get? a = some o' := fun a o ea => let ⟨o', h'⟩ := tt₂ a o ea; tt₃ a o' h'
      have ex : Ext (C.mut oa') t' t₃ := e₃.trans e₄ fun a o ea h => h
      have ot₃ : Old C oa s oa₃ := fun a o ea h => by
        obtain ⟨o', ho'⟩ := thereS tt₂ a o ea
        exact ot a o ea (o₃ a o' ho' h)
      have es₃ : Ext (C.mut oa) s t₃ := es.trans ex fun a o ea h => ot a o ea h
      have hP'₃ : ∀ a, P' a → ¬ C.avd oa₃ a := fun a p h => by
        rcases h with h | h
        · exact hP'av a p (.inl h)
        · obtain ⟨o, ho⟩ := hP'live a p
          obtain ⟨o', ho'⟩ := tt₂ a o ho
          exact hP'av a p (.inr (o₃ a o' ho' h))
      have hgt₃ : t₃.heap.IsGen ga gi := let ⟨o, nm, qn, ho, r⟩ := hgt'; ⟨o, nm, qn, ex.heap ga o (fun h => hP'av ga (.inl hPg) (.inr h)) ho, r⟩
      have hlm : ¬ C.mut oa' lst := fun h => by
        obtain ⟨o, ho⟩ := hlst
        exact hlav (.inr (ot lst o ho h))
      have G₃stab : ∀ t t', GS1 W env Il lst vs rem t → (∀ a o, (P' a ∨ a = lst ∨ ∃ o, W.hb.get? a = some o) → t.heap.get? a = some o → t'.heap.get? a = some o) → t.toks ≤ t'.toks → GS1 W env Il lst vs rem t' := fun t t' hg hk ht =>
        ⟨⟨fun b o eb => hk b o (.inr (.inr ⟨o, eb⟩)) (hg.keep b o eb), Nat.lt_of_lt_of_le hg.tk ht, let ⟨m, h⟩ := hg.ns; ⟨m, ns_at h fun o => hk _ o (.inl (.inl hPL))⟩, let ⟨j, h1, h2, h3⟩ := hg.it; ⟨j, h1.at fun o => hk _ o (.inl (.inr rfl)), isList_at h2 fun o => hk _ o (.inr (.inl rfl)), h3⟩⟩,
          let ⟨m, v, h, h'⟩ := hg.iv; ⟨m, v, ns_at h fun o => hk _ o (.inl (.inl hPL)), h'⟩⟩
      have G₃ : GS1 W env Il lst vs rem t₃ := G₃stab t' t₃ hg1' (fun a o h ea => ex.heap a o (fun hm => by
        rcases h with h | h | ⟨o', h⟩
        · exact hP'av a h (.inr hm)
        · exact hlm (h ▸ hm)
        · have := Rt'.base a hm; rw [h] at this; cases this) ea) ex.tk
      have again : dLoop tg B (ys.map .int) σ₃ = some (φ, σ') → ∃ m, m < (x :: ys).length ∧ ∃ ys oa' σ₁, ∃ (P : Addr → Prop) (gs : GenState) (G : Shared → Prop), m = ys.length ∧ ys = all.drop (all.length - ys.length) ∧ dLoop tg B (ys.map .int) σ₁ = some (φ, σ') ∧
          Ext (C.mut oa) s t₃ ∧ (∀ a o, s.heap.get? a = some o → ∃ o', t₃.heap.get? a = some o') ∧ Old C oa s oa' ∧ Rep W S (C.add P) oa' t₃ σ₁ ∧
          P ga ∧ P env.locals ∧ (∀ a, P a → s.heap.get? a = none) ∧ (∀ a, P a → ¬ C.avd oa' a) ∧
          t₃.heap.IsGen ga gi ∧ t₃.gens[gi]? = some gs ∧ G t₃ ∧
          (∀ t t', G t → (∀ a o, (P a ∨ a = lst ∨ ∃ o, W.hb.get? a = some o) → t.heap.get? a = some o → t'.heap.get? a = some o) → t.toks ≤ t'.toks → G t') ∧
          (∀ t', G t' → ∃ Il, ((P Il ∧ Il ≠ ga) ∨ t'.heap.get? Il = none) ∧ gs.Goes W.M (A.mark none).in1 (gEnd env Il) (gProto W env Il lst vs all) ys.length (.send .none) t') := fun hd' =>
        ⟨ys.length, Nat.lt_succ_self _, ys, oa₃, σ₃, P', gs', GS1 W env Il lst vs rem, rfl, htail, hd', es₃, thereS tt₂₃, ot₃, R₃, .inl hPg, .inl hPL, hP's, hP'₃, hgt₃, ex.old gi _ hgs', G₃, G₃stab, fun t' hg => ⟨Il, .inl ⟨.inr rfl, hIg⟩, hkap t' hg⟩⟩
      have fin : ∀ {ψ : Fl} {f : Flow}, FlRd C.out t₃ f ψ → (φ = ψ ∧ σ' = σ₃) → Q f t₃ := fun hf' hh => by
        obtain ⟨rfl, rfl⟩ := hh
        exact hQ _ oa₃ t₃ es₃ (thereS tt₂₃) ot₃ (R₃.away (fun a o _ h => h) (Nat.le_refl _) (fun a h => hbase a (hP's a h)) fun a h p => hP'₃ a p h) hf'
      cases φ₁ with
      | next => (cases f <;> try (exact False.elim hf)); exact again hd
      | cont => (cases f <;> try (exact False.elim hf)); exact again hd
      | brk => (cases f <;> try (exact False.elim hf)); cases hd; exact fin (ψ := .next) (f := .next) trivial ⟨rfl, rfl⟩
      | ret v => (cases f <;> try (exact False.elim hf)); cases hd; exact fin (ψ := .ret v) (f := .ret _) (Rd.move (fun a o na ea => ⟨ea, fun h => na (.inl h)⟩) (Nat.le_refl _) hf) ⟨rfl, rfl⟩
  · cases ys with
    | cons y ys => exact absurd hp.1 (by simp)
    | nil =>
      cases hd
      obtain ⟨_, e₂⟩ := hp
      obtain ⟨es, _⟩ := ext_gen (gs' := .finished) et hgi hgs e₂ hown rfl
      have hk₂ : ∀ a o, ¬ own2 env Il a → t.heap.get? a = some o → h'.get? a = some o := fun a o na ea => hk a o (e₂.heap a o na ea)
      have es' : Ext (C.mut oa) s { s₂.setGen gi .finished with heap := h' } := ⟨fun b o nb eb => hk b o (es.heap b o nb eb), es.os, es.old, es.new, es.tk⟩
      refine wpAny_execs_nil (hQ .next oa' _ es' (fun a o ea => ?_) ot (Rt.away (fun a o na ea => hk₂ a o (fun h => na (ownP a o ea h)) ea) e₂.tk hPb fun a h p => hPav a p h) trivial)
      by_cases p : own2 env Il a
      · exfalso
        rcases p with p | p
        · rw [p, hLn] at ea; cases ea
        · rw [p, hIs] at ea; cases ea
      · obtain ⟨o', ho'⟩ := tt a o ea
        exact ⟨o', hk₂ a o' p ho'⟩


theorem intsAre_rd {av : Addr → Prop} {s : Shared} {vs : List Value} {xs : List V} {ns : List Int} (q : RdAll av s vs xs) (h : intsOf xs = some ns) : IntsAre vs ns := intsAre_of q h
theorem rec3 : (recsOf prog1)[1]? = some (recAt 3) := by kernel_rfl
theorem rec3_chk : ((recAt 3).scope.isGenerator && !(recAt 3).scope.isCoroutine && ((recAt 3).scope.kind == .function) && decide ((recAt 3).name = "_grouping_intervals")) = true := by decide +kernel
theorem rec3_body : (recAt 3).body = bodyAt 3 := by kernel_rfl
theorem rec3_scope : (recAt 3).scope = S_gap.scope := by kernel_rfl
theorem rec3_bind : ∀ pm code doc (r : Value), bindArgs (docDef (recAt 3).name (recAt 3).params (recAt 3).body (recAt 3).scope pm code doc) ⟨[r], []⟩ = pure [(("grouping" : Str), r)] := by intro pm code doc r; kernel_rfl
theorem rec3_cells : ∀ n, cellsFrom n (recAt 3).scope.names [] = [] := by intro n; kernel_rfl
theorem rec3_kind : ∀ x ∈ [(("grouping" : Str), Value.none)], (recAt 3).scope.names.lookup x.1 = some .local := by decide +kernel
theorem gap_names : S_gap.scope.names.all (fun p => !(isCF (some p.2))) = true := by decide +kernel

theorem st_forGen {W : Wd} {k : Nat} {S : Sx} {target e : Expr} {np cpos pos : Pos} {body : List Stmt} {ds : St → Option (List V)} {tg : V → St → Option St} {B : Den} (hW : WOk W) (hx : isGlob S "_grouping_intervals" = true) (gs : GoodEs W (k + 2) S [e] ds) (gt : GoodTg W S target tg) (g : GoodB W k S body B)
    (he : ∀ env, starEach [e] env = (false, eval e env) :: starEach [] env := by intro _; rfl) (hp : ∀ env, (backTo cpos (starEach [e] env)).any (·.1) = false := by intro _; rfl) (htg : ∀ I v, letOwnedTupleGo target I v = pure () := by intro _ _; rfl) :
    GoodS W (k + 2) S (.For target (.Call (.Name "_grouping_intervals" np) [e] [] cpos) body [] pos) (dForGen ds tg B) := by
  intro A C oa s σ φ σ' hA hC R h Q E hQ
  unfold dForGen at h
  cases h1 : ds σ with
  | none => rw [h1] at h; cases h
  | some vs =>
  rw [h1] at h
  simp only [Option.bind_some] at h
  split at h <;> try (cases h; done)
  rename_i vs l
  cases h2 : intsOf l with
  | none => rw [h2] at h; cases h
  | some ns =>
  rw [h2] at h
  simp only [Option.bind_some] at h
  cases h3 : outs ns with
  | none => rw [h3] at h; cases h
  | some all =>
  rw [h3] at h
  simp only [Option.bind_some] at h
  obtain ⟨a, o, pm, code, doc, hmg, ho, hdat, hcd⟩ := hW.has.fn _ (List.mem_of_getElem? rec3)
  have hchk := rec3_chk
  simp only [Bool.and_eq_true, decide_eq_true_eq, Bool.not_eq_true', beq_iff_eq] at hchk
  obtain ⟨⟨⟨hgen, hco⟩, hkind⟩, hname⟩ := hchk
  rw [hname] at hmg
  refine wpAny_For ?_ (by intro _; rfl)
  refine wpAny_Call_NameR (glob_name hW.ok hC R hx (.inl hmg) (callWith_function (o := o) (fd := docDef (recAt 3).name (recAt 3).params (recAt 3).body (recAt 3).scope pm code doc) ?_))
  have hsp := gs A C oa s σ [.list l] cpos hA hC R h1 (fun rs s' => (s'.heap.get? a = some o ∧ o.data = .func (docDef (recAt 3).name (recAt 3).params (recAt 3).body (recAt 3).scope pm code doc)) ∧ wpAny W.M A (call (.ref a) ([] ++ rs) []) (fun x s₁ => wpAny W.M A (pyIter x) (fun it s₂ =>
      codeAny W.M (A.mark none) (.forLoop target it body [] C.env) (fun r s' => match r with | .ok f => Q f s' | .error e => cameBackBy W.M A C.env E e s') s₂) E s₁) E s') E
    fun rs s₁ e₁ q => ⟨⟨e₁.heap a o (fun x => x) (R.keep a o ho), hdat⟩, ?_⟩
  · rw [he] at hsp ⊢
    exact evalArgs_plain hsp
  cases q with
  | @cons r₁ _ _ _ q q' =>
  cases q' with
  | nil =>
  cases q with
  | @list lst vs xs hl na qa =>
  have R₁ := R.ext e₁
  obtain ⟨nl, hlo⟩ := id hl
  refine wpAny_call (codeAny_call_generator (fd := docDef (recAt 3).name (recAt 3).params (recAt 3).body (recAt 3).scope pm code doc) (body := (recAt 3).body) ?_ (R₁.keep _ _ ho) hdat hco hgen rfl (hcd.keeps R₁.keep) ?_)
  · have := hA.depth; omega
  show wpAny _ _ (bindArgs (docDef (recAt 3).name (recAt 3).params (recAt 3).body (recAt 3).scope pm code doc) ⟨[.ref lst], []⟩) _ _ _
  rw [rec3_bind]
  refine wpAny_pure (wpAny_with_toks (Nat.le_refl s₁.toks) (wpAny_newFunctionEnv_cells hkind (fun x hx => .inl ?_) fun env henv s₂ x htk₂ => ?_))
  · simp only [List.mem_singleton] at hx; subst hx
    exact rec3_kind ("grouping", .none) (by simp)
  refine ⟨(hW.ok.lim.keeps R₁.keep).keeps x.toInCall.keep, ?_⟩
  have hcells : env.cells = [] := by rw [henv]; exact rec3_cells (s₁.heap.objs.size + 1)
  have hscope : env.scope = S_gap.scope := by rw [henv]; exact rec3_scope
  have hks : ∀ y, env.kindOf y = S_gap.scope.names.lookup y := fun y => by unfold Env.kindOf; rw [hscope]
  have hCg : FrS S_gap ⟨env, nobody⟩ := {
    scope := hscope
    kind := by rw [← rec3_scope]; exact hkind
    globals := by rw [henv]; rfl
    builtins := by rw [henv]; rfl
    ne := fun x c hx => by rw [show (⟨env, nobody⟩ : Cx).env.cells = [] from hcells] at hx; cases hx
    apart := fun x y c hx => by rw [show (⟨env, nobody⟩ : Cx).env.cells = [] from hcells] at hx; cases hx
    cell := fun y hy => by
      exfalso
      obtain ⟨kk, hkk, hm⟩ : ∃ kk, isCF (some kk) = true ∧ (y, kk) ∈ S_gap.scope.names := by
        rcases hy with hy | hy
        · exact ⟨_, rfl, mem_of_lookup hy⟩
        · exact ⟨_, rfl, mem_of_lookup hy⟩
      have := List.all_eq_true.mp gap_names _ hm
      simp [hkk] at this }
  obtain ⟨hh, tk, hs₂⟩ := x.toInCall.same
  have hle : s₁.heap.objs.size ≤ env.locals := x.toInCall.fresh
  have fresh₁ : ∀ b, s₁.heap.objs.size ≤ b → s₁.heap.get? b = none := fun b hb => by
    cases e : s₁.heap.get? b with
    | none => rfl
    | some o' => exact absurd (Heap.lt_size e) (Nat.not_lt.mpr hb)
  have freshS : ∀ b, s₁.heap.get? b = none → s.heap.get? b = none := fun b hb => none_of_ext e₁ hb
  have e₂ : Ext nobody s₁ s₂ := by
    subst hs₂
    exact Ext.of_heap (fun b o _ e => x.toInCall.keep b o e) htk₂
  have hgs₂ : s₂.gens = s₁.gens := by rw [hs₂]
  generalize hs₃ : ({ s₂ with gens := s₂.gens.push (.fresh (.func (recAt 3).body env)), toks := s₂.toks + 1 + 1, heap := s₂.heap.push { cls := .type "generator", data := .fields #[.int s₂.gens.size 0, .str (docDef (recAt 3).name (recAt 3).params (recAt 3).body (recAt 3).scope pm code doc).name s₂.toks, .str (docDef (recAt 3).name (recAt 3).params (recAt 3).body (recAt 3).scope pm code doc).qualname (s₂.toks + 1)] } } : Shared) = s₃
  have hh₃ : s₃.heap = s₂.heap.push { cls := .type "generator", data := .fields #[.int s₂.gens.size 0, .str (docDef (recAt 3).name (recAt 3).params (recAt 3).body (recAt 3).scope pm code doc).name s₂.toks, .str (docDef (recAt 3).name (recAt 3).params (recAt 3).body (recAt 3).scope pm code doc).qualname (s₂.toks + 1)] } := by rw [← hs₃]
  have hg₃ : s₃.gens = s₂.gens.push (.fresh (.func (recAt 3).body env)) := by rw [← hs₃]
  have hga₃ : s₃.heap.get? s₂.heap.objs.size = some { cls := .type "generator", data := .fields #[.int s₂.gens.size 0, .str (docDef (recAt 3).name (recAt 3).params (recAt 3).body (recAt 3).scope pm code doc).name s₂.toks, .str (docDef (recAt 3).name (recAt 3).params (recAt 3).body (recAt 3).scope pm code doc).qualname (s₂.toks + 1)] } := by rw [hh₃]; exact Heap.get?_push_size _ rfl
  have hIG : s₃.heap.IsGen s₂.heap.objs.size s₂.gens.size := ⟨_, _, _, hga₃, rfl, rfl, rfl⟩
  have e₃ : Ext nobody s₂ s₃ := {
    heap := fun b o _ eb => by rw [hh₃]; exact Heap.get?_push_of_some _ eb
    os := by rw [← hs₃]
    old := fun i g hi => by
      rw [hg₃, Array.getElem?_push]
      have := (Array.getElem?_eq_some_iff.mp hi).1
      rw [if_neg (by omega)]; exact hi
    new := fun i g hi hgi => by
      rw [hg₃, Array.getElem?_push] at hgi
      split at hgi
      · cases hgi; rfl
      · rw [Array.getElem?_eq_none hi] at hgi; cases hgi
    tk := by rw [← hs₃]; show s₂.toks ≤ s₂.toks + 1 + 1; omega }
  have e₀₃ : Ext nobody s s₃ := (e₁.trans' e₂).trans' e₃
  have hgan : s₁.heap.get? s₂.heap.objs.size = none := by
    cases q : s₁.heap.get? s₂.heap.objs.size with
    | none => rfl
    | some o' => have := e₂.heap _ o' (fun x => x) q; rw [Heap.none_size] at this; cases this
  have hLn : s₁.heap.get? env.locals = none := fresh₁ _ hle
  have hLlive : ∃ o, s₂.heap.get? env.locals = some o := by obtain ⟨o, _, _, ho, _⟩ := x.toInCall.ns; exact ⟨o, ho⟩
  have hgL : s₂.heap.objs.size ≠ env.locals := fun h => by
    obtain ⟨o, ho⟩ := hLlive
    rw [← h, Heap.none_size] at ho; cases ho
  have e₁₃ : Ext nobody s₁ s₃ := e₂.trans' e₃
  refine wpAny_pyIter_gen hIG ?_
  have hgf : GSF W env lst vs s₃ := {
    keep := fun b o eb => e₁₃.heap b o (fun x => x) (R₁.keep b o eb)
    tk := Nat.lt_of_lt_of_le R₁.tk e₁₃.tk
    ns := by
      refine ⟨_, ns_at x.toInCall.ns fun o => e₃.heap _ o (fun x => x), ?_⟩
      refine bindL_get ?_ _ _ (by simp) (by simp)
      rw [hks]; decide +kernel
    lst := isList_at hl.isList fun o => e₁₃.heap _ o (fun x => x) }
  have hfr : s₃.gens[s₂.gens.size]? = some (.fresh (.func (bodyAt 3) env)) := by
    rw [hg₃, rec3_body]; simp
  have hco' : env.scope.isCoroutine = false := by rw [hscope, ← rec3_scope]; exact hco
  have hint : interactive env = false := by
    unfold interactive
    rw [hscope]; decide +kernel
  exact gen_loop hW gt g htg hA hC R₁ e₁₃ (by rw [hgs₂]; exact Nat.le_refl _) hIG hfr hgan hLn hgL ⟨_, hlo⟩ na hCg hcells hco' hint hgf (intsAre_rd qa h2) h3 h fun f oa' s' ex tt ot R' hf =>
    hQ f oa' s' (e₁.weak.trans' ex) (fun a o ea => tt a o (e₁.heap a o (fun x => x) ea)) (fun a o ea hm => ot a o (e₁.heap a o (fun x => x) ea) hm) R' hf


end
end Lite
namespace Lite
section
open PySem PySem.Calls PyProof.Rows PySem.W

noncomputable def strip (e : Int × Value) : Int × Value := (e.1, match e.2 with | .int k _ => .int k 0 | v => v)
theorem insertAt_map {α β : Type} (f : α → β) (xs : Array α) (p : Nat) (x : α) : (SetTable.insertAt xs p x).map f = SetTable.insertAt (xs.map f) p (f x) := by
  unfold SetTable.insertAt
  simp [Array.map_append, Array.map_push, Array.map_extract]
theorem layNew_strip (T : SetTable) (es : Array (Int × Value)) (h k : Int) (tk : Tok) : layNew T (es.map strip) h (.int k 0) = ((layNew T es h (.int k tk)).1.map strip, (layNew T es h (.int k tk)).2) := by
  have hx : strip (h, .int k tk) = (h, .int k 0) := rfl
  unfold layNew
  split
  · simp only [insertAt_map, hx, ← Array.size_map (f := strip) (xs := SetTable.insertAt es _ _)]
  · simp only [Array.map_push, hx, Array.size_map]
theorem relayAll_strip (T : SetTable) (es : Array (Int × Value)) (n : Nat) : relayAll T (es.map strip) n = ((relayAll T es n).1.map strip, (relayAll T es n).2) := by
  have h1 : (es.map strip).map (·.1) = es.map (·.1) := by simp [Array.map_map, Function.comp_def, strip]
  unfold relayAll
  rw [h1]
  cases hr : T.relaid (es.map (·.1)) n with
  | none => simp [Array.size_map]
  | some q =>
    obtain ⟨t', order⟩ := q
    have h2 : order.filterMap ((es.map strip)[·]?) = (order.filterMap (es[·]?)).map strip := by
      rw [Array.map_filterMap]
      congr 1
      funext i
      simp
    simp only [h2, Array.size_map]
    split <;> rfl


noncomputable abbrev SetSt := Array (Int × Value) × SetTable
noncomputable def intAt (k : Int) (e : Int × Value) : Bool := Value.isInt k e.2
/-- what a set's table does -/
noncomputable def pureAdd (st : SetSt) (k : Int) : SetSt := match st.1.toList.any (intAt k) with
  | true => st
  | false => match !(layNew st.2 st.1 (hashInt k) (.int k 0)).2.2.1 && (layNew st.2 st.1 (hashInt k) (.int k 0)).2.1.tooFull with
    | true => ((relayAll (layNew st.2 st.1 (hashInt k) (.int k 0)).2.1 (layNew st.2 st.1 (hashInt k) (.int k 0)).1 (SetTable.grown (layNew st.2 st.1 (hashInt k) (.int k 0)).1.size)).1,
        (relayAll (layNew st.2 st.1 (hashInt k) (.int k 0)).2.1 (layNew st.2 st.1 (hashInt k) (.int k 0)).1 (SetTable.grown (layNew st.2 st.1 (hashInt k) (.int k 0)).1.size)).2.1)
    | false => ((layNew st.2 st.1 (hashInt k) (.int k 0)).1, (layNew st.2 st.1 (hashInt k) (.int k 0)).2.1)

noncomputable def SimAt (prog : Program) (w : World) (h : Heap) (a : Addr) (st : SetSt) : Prop :=
  ∃ o es ep, h.get? a = some o ∧ o.ExactSet ∧ o.data = .set es ep st.2 ∧ ElemsOf (intKind prog w) es.toList ∧ st.2.fits es.size = true ∧ es.size < scanBound ∧ es.map strip = st.1

theorem intAt_strip (k : Int) (e : Int × Value) : intAt k (strip e) = intAt k e := by
  obtain ⟨h, v⟩ := e
  cases v <;> rfl
theorem any_strip (k : Int) (es : Array (Int × Value)) : (es.map strip).toList.any (intAt k) = es.toList.any (intAt k) := by
  simp only [Array.toList_map, List.any_map]
  congr 1
  funext e
  exact intAt_strip k e

theorem sim_store {prog : Program} {w : World} {h : Heap} {a : Addr} {o : Obj} {es : Array (Int × Value)} {ep : Nat} {t : SetTable} (ho : h.get? a = some o) (hex : o.ExactSet) (hd : o.data = .set es ep t) {es' : Array (Int × Value)} {t' : SetTable} (hel : ElemsOf (intKind prog w) es'.toList) (hf : t'.fits es'.size = true) (hb : es'.size < scanBound) :
    ∃ o', (h.update a (Obj.putSet es' t')).get? a = some o' ∧ o'.ExactSet ∧ o'.data = .set es' (ep + 1) t' := by
  have e := putSet_of es' t' hd
  refine ⟨_, Heap.get?_update_self _ ho ?_, ?_, ?_⟩
  · rw [e]; rfl
  · rw [e]; exact hex
  · rw [e]

theorem add_sim {prog : Program} {w : World} {A : Around} {E : Value → Shared → Prop} {s : Shared} {a : Addr} {st : SetSt} {k : Int} {tk : Tok} {Q : Bool → Shared → Prop} (hS : SimAt prog w s.heap a st) (hroom : st.1.size + 1 < scanBound)
    (h : ∀ h' b, Heap.SameBut a s.heap h' → SimAt prog w h' a (pureAdd st k) → Q b { s with heap := h' }) :
    wpAny (model prog w) A (setAddHashed a (.int k tk) (hashInt k)) Q E s := by
  obtain ⟨o, es, ep, ho, hex, hd, hel, hf, hb, hst⟩ := hS
  have hkey : (intKind prog w).is k (.int k tk) = true := intKind_is _ _ _ _
  have hsc : (Value.int k tk).scannable = true := rfl
  have hsz : es.size = st.1.size := by rw [← hst, Array.size_map]
  unfold setAddHashed setAddHashedIn
  refine wpAny_holding (wpAny_bind (wpAny_setState_of ho hd hf ?_))
  dsimp only
  rw [byScan_of hsc hb hel]
  simp only [↓reduceIte]
  unfold setAddByScan
  refine wpAny_bind ?_
  refine wpAny_bind (wpAny_rule ?_)
  refine wpAny_bind (wpAny_setScan_of hkey ho hd hf hel ?_)
  have hany : st.1.toList.any (intAt k) = es.toList.any (fun e => (intKind prog w).is k e.2) := by rw [← hst, any_strip]; rfl
  cases hr : List.findIdx? (fun e => (intKind prog w).is k e.2) es.toList with
  | some j =>
    dsimp only
    obtain ⟨hj, hpj, _⟩ := List.findIdx?_eq_some_iff_getElem.mp hr
    refine wpAny_pure (wpAny_pure ?_)
    have e : s = { s with heap := s.heap } := by cases s; rfl
    have hp : pureAdd st k = st := by
      unfold pureAdd
      rw [hany, show es.toList.any (fun e => (intKind prog w).is k e.2) = true from List.any_eq_true.mpr ⟨_, List.getElem_mem hj, hpj⟩]
    have := h s.heap false (Heap.SameBut.refl a s.heap) (by rw [hp]; exact ⟨o, es, ep, ho, hex, hd, hel, hf, hb, hst⟩)
    rw [e]; exact this
  | none =>
    dsimp only
    have hno : es.toList.any (fun e => (intKind prog w).is k e.2) = false := by
      rw [List.any_eq_false]
      intro e he
      have := List.findIdx?_eq_none_iff.mp hr e he
      simpa using this
    have hgw : ∀ (b : Bool) {s₁ : Shared} {Q' : Unit → Shared → Prop}, Q' () s₁ → wpAny (model prog w) A (match b with | true => rule "set.scan.the-table-gave-way" | false => pure ()) Q' E s₁ :=
      fun b s₁ Q' hq => by cases b <;> first | exact wpAny_pure hq | exact wpAny_rule hq
    have hperm := layNew_perm st.2 es (hashInt k) (.int k tk)
    have hfits := layNew_fits st.2 es (hashInt k) (.int k tk)
    have hlay := layNew_strip st.2 es (hashInt k) k tk
    rw [hst] at hlay
    have hpa : pureAdd st k = match !(layNew st.2 es (hashInt k) (.int k tk)).2.2.1 && (layNew st.2 es (hashInt k) (.int k tk)).2.1.tooFull with
      | true => ((relayAll (layNew st.2 es (hashInt k) (.int k tk)).2.1 (layNew st.2 es (hashInt k) (.int k tk)).1 (SetTable.grown (layNew st.2 es (hashInt k) (.int k tk)).1.size)).1.map strip,
          (relayAll (layNew st.2 es (hashInt k) (.int k tk)).2.1 (layNew st.2 es (hashInt k) (.int k tk)).1 (SetTable.grown (layNew st.2 es (hashInt k) (.int k tk)).1.size)).2.1)
      | false => ((layNew st.2 es (hashInt k) (.int k tk)).1.map strip, (layNew st.2 es (hashInt k) (.int k tk)).2.1) := by
      unfold pureAdd
      rw [hany, hno]
      simp only [hlay]
      split
      · simp only [Array.size_map]
        rw [relayAll_strip]
      · rfl
    generalize hL : layNew st.2 es (hashInt k) (.int k tk) = L at hperm hfits hpa ⊢
    obtain ⟨es1, t1, wasDummy, gave⟩ := L
    dsimp only at hperm hfits hpa ⊢
    rw [Array.toList_push] at hperm
    have hel1 : ElemsOf (intKind prog w) es1.toList := (hel.push hkey hsc).perm hperm
    have hsz1 : es1.size = es.size + 1 := by rw [← Array.length_toList, hperm.length_eq, List.length_append, Array.length_toList]; rfl
    have hb1 : es1.size < scanBound := by rw [hsz1, hsz]; exact hroom
    -- the end
    have tail : ∀ {g : Bool → Sem Unit}, (∀ (b : Bool) (s₁ : Shared) (Q' : Unit → Shared → Prop), Q' () s₁ → wpAny (model prog w) A (g b) Q' E s₁) → wpAny (model prog w) A (do
        storeSet a es1 t1
        if (!wasDummy && t1.tooFull) = true then do
            g (relayAll t1 es1 (SetTable.grown es1.size)).2.2
            storeSet a (relayAll t1 es1 (SetTable.grown es1.size)).1 (relayAll t1 es1 (SetTable.grown es1.size)).2.1
            pure (some true)
          else pure (some true)) (fun r s' => r = some true ∧ Q true s') E s := by
      intro g hg
      refine wpAny_bind (wpAny_storeSet_of ho hd ?_ (fits_of_scanBound hb1))
      obtain ⟨o1, ho1, hex1, hd1⟩ := sim_store (prog := prog) (w := w) ho hex hd hel1 hfits hb1
      have hsb1 := Heap.SameBut.update s.heap a (Obj.putSet es1 t1)
      cases hc : (!wasDummy && t1.tooFull) with
      | true =>
        rw [hc] at hpa
        simp only [↓reduceIte]
        have hp := relayAll_perm t1 es1 (SetTable.grown es1.size)
        have hfr := relayAll_fits t1 es1 (SetTable.grown es1.size)
        generalize hRl : relayAll t1 es1 (SetTable.grown es1.size) = Rl at hp hfr hpa ⊢
        obtain ⟨es2, t3, gave2⟩ := Rl
        dsimp only at hp hfr hpa ⊢
        have hel2 : ElemsOf (intKind prog w) es2.toList := hel1.perm hp
        have hsz2 : es2.size = es1.size := by rw [← Array.length_toList, hp.length_eq, Array.length_toList]
        have hb2 : es2.size < scanBound := by rw [hsz2]; exact hb1
        refine wpAny_bind (hg _ _ _ ?_)
        refine wpAny_bind (wpAny_storeSet_of ho1 hd1 ?_ (fits_of_scanBound hb2))
        obtain ⟨o2, ho2, hex2, hd2⟩ := sim_store (prog := prog) (w := w) ho1 hex1 hd1 hel2 hfr hb2
        refine wpAny_pure ⟨rfl, h _ true (hsb1.trans (Heap.SameBut.update _ a _)) ?_⟩
        rw [hpa]
        exact ⟨o2, es2, _, ho2, hex2, hd2, hel2, hfr, hb2, rfl⟩
      | false =>
        rw [hc] at hpa
        simp only [Bool.false_eq_true, if_false]
        refine wpAny_pure ⟨rfl, h _ true hsb1 ?_⟩
        rw [hpa]
        exact ⟨o1, es1, _, ho1, hex1, hd1, hel1, hfits, hb1, rfl⟩
    refine wpAny_bind (hgw _ ?_)
    split
    · refine wpAny_bind ?_
      rw [hashByValue_scannable 8 hsc]
      refine wpAny_pure ?_
      simp only [plainKind, ↓reduceIte]
      refine wpAny_mono (tail ?_) (fun r s' hr => ?_) fun _ _ e => e
      · intro b s₁ Q' hq; cases b <;> first | exact wpAny_pure hq | exact wpAny_rule hq
      · obtain ⟨rfl, hq⟩ := hr; dsimp only; exact wpAny_pure hq
    · refine wpAny_bind (wpAny_pure ?_)
      simp only [↓reduceIte]
      refine wpAny_mono (tail ?_) (fun r s' hr => ?_) fun _ _ e => e
      · intro b s₁ Q' hq; cases b <;> first | exact wpAny_pure hq | exact wpAny_rule hq
      · obtain ⟨rfl, hq⟩ := hr; dsimp only; exact wpAny_pure hq


end
end Lite
namespace Lite
section
open PySem PySem.Calls PyProof.Rows PySem.W

noncomputable def ledOf (w : World) : Bool := !(w.params.followText "set-order")
noncomputable def simUp (led : Bool) (ns : List Int) (i : Nat) : SetSt := ((List.range i).map fun i => ns.getD i 0).foldl pureAdd (#[], .fresh 0 0 led)
theorem simUp_succ (led : Bool) (ns : List Int) (i : Nat) : simUp led ns (i + 1) = pureAdd (simUp led ns i) (ns.getD i 0) := by
  unfold simUp; rw [List.range_succ, List.map_append, List.foldl_append]; rfl
theorem pureAdd_size (st : SetSt) (k : Int) : (pureAdd st k).1.size ≤ st.1.size + 1 := by
  have h1 := (layNew_perm st.2 st.1 (hashInt k) (.int k 0)).length_eq
  have h2 := (relayAll_perm (layNew st.2 st.1 (hashInt k) (.int k 0)).2.1 (layNew st.2 st.1 (hashInt k) (.int k 0)).1 (SetTable.grown (layNew st.2 st.1 (hashInt k) (.int k 0)).1.size)).length_eq
  simp only [Array.length_toList, Array.size_push] at h1 h2
  unfold pureAdd
  split
  · omega
  · split
    · simp only []; omega
    · simp only []; omega
theorem simUp_size (led : Bool) (ns : List Int) : ∀ i, (simUp led ns i).1.size ≤ i
  | 0 => by simp [simUp]
  | i + 1 => by rw [simUp_succ]; have := pureAdd_size (simUp led ns i) (ns.getD i 0); have := simUp_size led ns i; omega

theorem sim_loop {prog : Program} {w : World} {A : Around} {R : Result → Shared → Prop} {I : Addr} {fp wr : List Addr} {G : Array GenState → Array GenState → Prop} {n : Nat} {P : Nat → Value → Prop} {St : Nat → Shared → Prop} {led : Bool} {ns : List Int} (W : WalksS prog w A.in1 I fp wr G n P St) (S : Addr) (hSf : S ∉ fp)
    (hval : ∀ i v, P i v → ∃ t, v = .int (ns.getD i 0) t) (hb : n + 1 < scanBound) :
    ∀ (k i : Nat) (s : Shared), n - i = k → i ≤ n → St i s →
      SimAt prog w s.heap S (simUp led ns i) →
      (∀ s', Moved (S :: wr) G s s' → SimAt prog w s'.heap S (simUp led ns n) → R (.ok (.ret .none)) s') →
      codeAny (model prog w) A (.builtin "set.update.loop" ⟨[.ref S, .ref I], []⟩) R s := by
  have hSw : S ∉ wr := fun h => hSf (W.sub _ h)
  have hsub : ∀ b ∈ wr, b ∈ S :: wr := fun b hb => List.mem_cons_of_mem _ hb
  intro k
  induction k with
  | zero =>
    intro i s hk hi hst hS hR
    have hin : i = n := by omega
    subst hin
    refine codeAny_builtin F.entry_set_update_loop ?_
    rw [Around.under_plainId F.plain_set_update_loop _]
    show wpAny _ A.in1 (pyNext (.ref I) >>= _) _ _ s
    refine wpAny_bind (W.done s _ _ hst fun s' hm => ?_)
    show wpAny _ A.in1 (ret Value.none) _ _ s'
    exact wpAny_pure (hR s' (hm.mono hsub) (by
      obtain ⟨o, es, ep, ho, rest⟩ := hS
      exact ⟨o, es, ep, hm.heap S _ hSw ho, rest⟩))
  | succ k ih =>
    intro i s hk hi hst hS hR
    have hlt : i < n := by omega
    refine codeAny_builtin F.entry_set_update_loop ?_
    rw [Around.under_plainId F.plain_set_update_loop _]
    show wpAny _ A.in1 (pyNext (.ref I) >>= _) _ _ s
    refine wpAny_bind (W.item i s _ _ hlt hst fun v s' hP hst' hm => ?_)
    obtain ⟨t, rfl⟩ := hval i v hP
    have hS' : SimAt prog w s'.heap S (simUp led ns i) := by
      obtain ⟨o, es, ep, ho, rest⟩ := hS
      exact ⟨o, es, ep, hm.heap S _ hSw ho, rest⟩
    show wpAny _ A.in1 (holding [Value.int (ns.getD i 0) t] (setAdd S (.int (ns.getD i 0) t)) >>= _) _ _ s'
    refine wpAny_bind (wpAny_holding ?_)
    unfold setAdd
    refine wpAny_holding ?_
    refine wpAny_bind ((intKind prog w).pyHash (k := ns.getD i 0) (intKind_is _ _ _ _) ?_)
    have hroom : (simUp led ns i).1.size + 1 < scanBound := by have := simUp_size led ns i; omega
    refine add_sim (s := { s' with toks := s'.toks + 1 }) (st := simUp led ns i) hS' hroom fun h' _ hsb hS2 => ?_

    have hSi : SimAt prog w h' S (simUp led ns (i + 1)) := by rw [simUp_succ]; exact hS2
    refine wpAny_pure ⟨plainId_quiet F.plain_set_update_loop _, ih (i + 1) _ (by omega) hlt (W.frame _ s' _ _ hst' (Nat.le_succ _) fun b hb o e => ?_) hSi fun s'' hm'' hS'' => ?_⟩
    · rw [hsb.2 b (fun h : b = S => hSf (by rw [← h]; exact hb))]; exact e
    · refine hR s'' (Moved.trans W.gtrans ((hm.mono hsub).then_heap (Nat.le_succ _) fun b o hb e => ?_) hm'') hS''
      rw [hsb.2 b (fun h : b = S => hb (by rw [h]; exact List.mem_cons_self))]; exact e

theorem code_set_led {prog : Program} {w : World} {A : Around} {E : Value → Shared → Prop} {s : Shared} (a : Value) {Q₁ : Value → Shared → Prop}
    (h : Q₁ (.ref s.heap.objs.size) { s with heap := s.heap.push { cls := .type "set", dict := none, data := .set #[] 0 (.fresh 0 0 (ledOf w)) } }) :
    codeAny (model prog w) A (.call (.builtin "set.__new__") ⟨[.type "set", a], []⟩) (wants Q₁ E) s := by
  refine codeAny_of_tree ?_
  show wpAny _ A.in1 (do checkBuiltinCall "set.__new__" ⟨[.type "set", a], []⟩; again (.builtin "set.__new__" ⟨[.type "set", a], []⟩)) _ _ s
  refine wpAny_bind (wpAny_of_eq (F.newCall_set_1 a) (wpAny_pure ⟨plainId_quiet F.plain_set_new _, codeAny_builtin F.entry_set_new ?_⟩))
  rw [Around.under_plainId F.plain_set_new _]
  unfold Builtin.«set.__new__» Builtin.Frozenset.newClass
  have hsub := sub_set_self
  obtain ⟨hp, g, d, tk, os⟩ := s
  dsimp only
  wp_walk
  refine wpAny_askSetting (wpAny_pure ?_)
  dsimp only
  simp only [newObj]
  refine wpAny_bind (wpAny_alloc (wpAny_pure ?_))
  exact wpAny_pure h

set_option maxHeartbeats 3200000 in
theorem call_set_sim {prog : Program} {w : World} {A : Around} {E : Value → Shared → Prop} {s : Shared} {l : Addr} {items : Array Value} {ns : List Int} {Q : Value → Shared → Prop}
    (hh : A.handled = none) (hl : s.heap.IsList l items) (hi : PyProof.Rows.IntsAre items.toList ns) (hb : items.size + 1 < scanBound)
    (h : ∀ (h' : Heap) (tk : Nat), SimAt prog w h' s.heap.objs.size (simUp (ledOf w) ns items.size) →
      (∀ b o, b < s.heap.objs.size → s.heap.get? b = some o → h'.get? b = some o) → Q (.ref s.heap.objs.size) { s with heap := h', toks := tk }) :
    wpAny (model prog w) A (call (.type "set") [.ref l]) Q E s := by
  obtain ⟨c, tl, hmro⟩ := F.called_set.mro
  have hmade := F.called_set.made
  have hsub := F.called_set.sub
  refine wpAny_call (codeAny_of_tree ?_)
  show wpAny _ _ (callAny (.type "set") _) _ _ _
  refine wpAny_pure ⟨Code.quiet_builtin _ (by decide +kernel), codeAny_builtin F.entry_type_call ?_⟩
  rw [Around.under_plain (weight_type_call_type "set" [.ref l] []) rfl]
  have h1 := F.called_set.notType
  have h2 := F.called_set.canCreate
  have hct := F.typeCall_set_1 (.ref l)
  repeat (any_goals (first | assumption | wp_step))

  refine codeAny_mono (code_set_led (.ref l) (E := E) (Q₁ := fun obj s₁ => obj = .ref s.heap.objs.size ∧ s₁ = { s with heap := s.heap.push { cls := .type "set", dict := none, data := .set #[] 0 (.fresh 0 0 (ledOf w)) } }) ⟨rfl, rfl⟩) fun r s₁ hr => ?_
  cases r with
  | error e => exact hr
  | ok fl =>
    cases fl with
    | ret obj =>
      obtain ⟨rfl, rfl⟩ := hr
      have hS : (s.heap.push { cls := .type "set", dict := none, data := .set #[] 0 (.fresh 0 0 (ledOf w)) }).get? s.heap.objs.size = some { cls := .type "set", dict := none, data := .set #[] 0 (.fresh 0 0 (ledOf w)) } := Heap.get?_push_size _ rfl
      have hT : Shared.TypeIs { s with heap := s.heap.push { cls := .type "set", dict := none, data := .set #[] 0 (.fresh 0 0 (ledOf w)) } } (.ref s.heap.objs.size) "set" := ⟨_, hS, rfl⟩
      have hli := F.called_set.init.lookup
      have hbi := F.called_set.init.bind (.ref s.heap.objs.size)
      repeat (any_goals (first | assumption | wp_step))

      refine codeAny_mono (codeAny_call_builtin (R := wants (fun r s₂ => r = .none ∧ ∃ h' tk, s₂ = { s with heap := h', toks := tk } ∧
          SimAt prog w h' s.heap.objs.size (simUp (ledOf w) ns items.size) ∧
          (∀ b o, b < s.heap.objs.size → s.heap.get? b = some o → h'.get? b = some o)) E) F.called_set.init.plain F.entry_set_init (check_set_init_1 hT ?_)) fun r₂ s₂ hr₂ => ?_
      · obtain ⟨ol, hol, hcl, nl, hdl⟩ := hl
        obtain ⟨ocls, odict, odata, oslots⟩ := ol
        simp only at hcl hdl
        subst hcl; subst hdl
        have hol' : (s.heap.push { cls := .type "set", dict := none, data := .set #[] 0 (.fresh 0 0 (ledOf w)) }).get? l = some { cls := .type "list", dict := odict, data := .seq items nl, slots := oslots } := Heap.get?_push_of_some _ hol
        have hsls := F.sub_list_set
        have hslf := F.sub_list_frozenset
        have hne : (Value.type "list" == Value.type "dict") = false := by decide
        have hl1 : (s.heap.push { cls := .type "set", dict := none, data := .set #[] 0 (.fresh 0 0 (ledOf w)) }).IsList l items := ⟨_, hol', rfl, nl, rfl⟩
        unfold Builtin.«set.__init__» noKeywords Builtin.Frozenset.updateFrom
        generalize hPI : pyIter = PI
        wp_walk
        subst hPI

        refine wpAny_pyIter_list hl1 ?_
        refine wpAny_bind (wpAny_runValue ?_)
        have hlS : l < s.heap.objs.size := Heap.lt_size hol
        have hh3 : A.in1.in1.in1.handled = none := by simp [hh]
        have hneI : l ≠ (s.heap.push { cls := .type "set", dict := none, data := .set #[] 0 (.fresh 0 0 (ledOf w)) }).objs.size := by
          rw [Heap.size_push]; exact Nat.ne_of_lt (Nat.lt_succ_of_lt hlS)
        have hSf : s.heap.objs.size ∉ [(s.heap.push { cls := .type "set", dict := none, data := .set #[] 0 (.fresh 0 0 (ledOf w)) }).objs.size, l] := by
          rw [Heap.size_push]; simp only [List.mem_cons, List.mem_singleton, List.not_mem_nil, or_false, not_or]
          exact ⟨Nat.ne_of_lt (Nat.lt_succ_self _), Nat.ne_of_gt hlS⟩
        have hval : ∀ (i : Nat) (v : Value), items[i]? = some v → ∃ t, v = .int ((fun i => ns.getD i 0) i) t := fun i v hv =>
          PyProof.Rows.IntsAre.int_at hi i v (by rw [Array.getElem?_toList]; exact hv)
        refine sim_loop (led := ledOf w) (ns := ns) ((Walks.list hh3 _ l hneI items).toS) s.heap.objs.size
          hSf hval hb (items.size - 0) 0 _ (by omega) (Nat.zero_le _)
          ⟨⟨_, Heap.get?_push_size _ rfl, rfl, rfl⟩, (hl1.push _)⟩ ?hS0 ?hR
        case hS0 =>
          have hget : ((s.heap.push { cls := .type "set", dict := none, data := .set #[] 0 (.fresh 0 0 (ledOf w)) }).push { cls := .type "list_iterator", data := .fields #[.ref l, .int 0 0] }).get? s.heap.objs.size
              = some { cls := .type "set", dict := none, data := .set #[] 0 (.fresh 0 0 (ledOf w)) } := Heap.get?_push_of_some _ hS
          exact ⟨_, #[], 0, hget, ⟨rfl, rfl, rfl⟩, rfl, fun e he => by simp at he, rfl, by decide, by rw [show simUp (ledOf w) ns 0 = (#[], .fresh 0 0 (ledOf w)) from rfl]; simp⟩
        case hR =>
          intro s' hm hS'
          obtain ⟨h', g', d', tk', os'⟩ := s'
          have eg : g' = s.gens := hm.gens
          have ed : d' = s.drawn := hm.drawn
          have eo : os' = s.os := hm.os
          subst eg; subst ed; subst eo
          show wpAny _ _ _ _ _ _
          refine wpAny_pure ?_
          show wpAny _ _ (ret Value.none) _ _ _
          refine wpAny_pure ⟨rfl, h', tk', rfl, hS', fun b o hb e => ?_⟩
          have hb1 : b ≠ s.heap.objs.size := Nat.ne_of_lt hb
          have hb2 : b ≠ (s.heap.push { cls := .type "set", dict := none, data := .set #[] 0 (.fresh 0 0 (ledOf w)) }).objs.size := by
            rw [Heap.size_push]; exact Nat.ne_of_lt (Nat.lt_succ_of_lt hb)
          exact hm.heap b o (by simp only [List.mem_cons, List.mem_singleton, List.not_mem_nil, or_false, not_or]; exact ⟨hb1, hb2⟩) (Heap.get?_push_of_some _ (Heap.get?_push_of_some _ e))

      · cases r₂ with
        | error e => exact hr₂
        | ok fl₂ =>
          cases fl₂ with
          | ret r =>
            obtain ⟨rfl, h', tk, rfl, hS', hk'⟩ := hr₂
            repeat (any_goals (first | assumption | wp_step))
            exact h _ _ hS' hk'
          | _ => exact hr₂.elim
    | _ => exact hr.elim

end
end Lite
namespace Lite
section
open PySem PySem.Calls PyProof.Rows PySem.W

theorem slot_setit_next : Slot "set_iterator" "__next__" "set_iterator.__next__" :=
  .of (owner := "set_iterator") (n := "__next__") (by rw [typeLookup_type, builtinLookup_eq_fast]; kernel_rfl) (by decide +kernel) (by decide +kernel) (by decide +kernel)
    (by first | exact .inl (by decide +kernel) | exact .inr (by decide +kernel)) (by rw [isSubtype_type]; kernel_rfl)
theorem entry_setit_next : entryFor table "set_iterator.__next__" = some Builtin.«set_iterator.__next__» := entryFor_of_fast (by kernel_rfl)
theorem args_setit_next (a : Value) : argsOk "set_iterator.__next__" ⟨[a], []⟩ := by unfold argsOk; kernel_rfl
theorem slot_setit_iter : Slot "set_iterator" "__iter__" "set_iterator.__iter__" :=
  .of (owner := "set_iterator") (n := "__iter__") (by rw [typeLookup_type, builtinLookup_eq_fast]; kernel_rfl) (by decide +kernel) (by decide +kernel) (by decide +kernel)
    (by first | exact .inl (by decide +kernel) | exact .inr (by decide +kernel)) (by rw [isSubtype_type]; kernel_rfl)
theorem entry_setit_iter : entryFor table "set_iterator.__iter__" = some Builtin.«dict_keyiterator.__iter__» :=
  entryFor_alias (id' := "dict_keyiterator.__iter__") (by kernel_rfl) rfl (by decide +kernel) (by kernel_rfl)
theorem args_setit_iter (a : Value) : argsOk "set_iterator.__iter__" ⟨[a], []⟩ := by unfold argsOk; kernel_rfl
theorem entry_set_iter : entryFor table "set.__iter__" = some Builtin.«frozenset.__iter__» :=
  entryFor_alias (id' := "frozenset.__iter__") (by kernel_rfl) rfl (by decide +kernel) (by kernel_rfl)
theorem args_set_iter (a : Value) : argsOk "set.__iter__" ⟨[a], []⟩ := F.args_set_iter_1 a

theorem erase_perm {α : Type} : ∀ (l : List α) (i : Nat) (x : α), l[i]? = some x → (x :: l.eraseIdx i).Perm l
  | [], _, _, h => by simp at h
  | a :: r, 0, x, h => by simp at h; subst h; exact .refl _
  | a :: r, i + 1, x, h => by
    simp only [List.getElem?_cons_succ] at h
    simp only [List.eraseIdx_cons_succ]
    exact (List.Perm.swap a x _).trans ((erase_perm r i x h).cons a)
/-- picking takes each once -/
theorem pick_go {α : Type} (next : Nat → Nat) : ∀ (fuel k : Nat) (left : List α) (out : Array α), left.length ≤ fuel → (pickOrder.go next fuel k left out).toList.Perm (out.toList ++ left)
  | 0, k, left, out, h => by
    have : left = [] := List.length_eq_zero_iff.mp (by omega)
    subst this
    simp [pickOrder.go]
  | fuel + 1, k, left, out, h => by
    unfold pickOrder.go
    cases hl : left[next k % left.length]? with
    | none =>
      simp only []
      have : left = [] := by
        cases left with
        | nil => rfl
        | cons a r =>
          have := List.getElem?_eq_none_iff.mp hl
          have h2 := Nat.mod_lt (next k) (show (a :: r).length > 0 by simp)
          omega
      subst this; simp
    | some x =>
      simp only []
      obtain ⟨hi, hx⟩ := List.getElem?_eq_some_iff.mp hl
      have ih := pick_go next fuel (k + 1) (left.eraseIdx (next k % left.length)) (out.push x) (by rw [List.length_eraseIdx_of_lt hi]; omega)
      refine ih.trans ?_
      rw [Array.toList_push, List.append_assoc]
      refine List.Perm.append_left _ ?_
      exact erase_perm _ _ _ hl
theorem pick_perm {α : Type} (next : Nat → Nat) (xs : Array α) : (pickOrder next xs).toList.Perm xs.toList := by
  have := pick_go next xs.size 0 xs.toList #[] (by simp)
  simpa [pickOrder] using this

/-- a set as it lies there, ready to be walked -/
structure SetLies (w : World) (h : Heap) (S : Addr) (es : Array (Int × Value)) (ep : Nat) (t : SetTable) : Prop where
  at_ : ∃ o, h.get? S = some o ∧ o.cls = .type "set" ∧ o.data = .set es ep t
  fits : t.fits es.size = true
  led : w.params.followText "set-order" = false → t.plain = true ∧ t.led = true
theorem SetLies.move {w : World} {h h' : Heap} {S : Addr} {es : Array (Int × Value)} {ep : Nat} {t : SetTable} (x : SetLies w h S es ep t) (k : ∀ o, h.get? S = some o → h'.get? S = some o) : SetLies w h' S es ep t :=
  ⟨let ⟨o, ho, r⟩ := x.at_; ⟨o, k o ho, r⟩, x.fits, x.led⟩

noncomputable def ordOf (w : World) (S : Addr) (ep : Nat) (es : Array (Int × Value)) : Array (Int × Value) := if w.params.followText "set-order" then pickOrder (w.params.setOrder S ep) es else es
noncomputable def slotOf (w : World) (t : SetTable) (i : Nat) : Nat := if w.params.followText "set-order" then 0 else match i with | 0 => 0 | i + 1 => t.place.getD i 0 + 1
noncomputable def walkOk (t : SetTable) (n : Nat) : Bool := (List.range (n + 1)).all fun i => SetTable.below t.place (match i with | 0 => 0 | i + 1 => t.place.getD i 0 + 1) == i
theorem ordOf_perm (w : World) (S : Addr) (ep : Nat) (es : Array (Int × Value)) : (ordOf w S ep es).toList.Perm es.toList := by
  unfold ordOf; split
  · exact pick_perm _ _
  · exact .refl _
theorem ordOf_size (w : World) (S : Addr) (ep : Nat) (es : Array (Int × Value)) : (ordOf w S ep es).size = es.size := by
  have := (ordOf_perm w S ep es).length_eq
  simpa using this

theorem setNext_at {prog : Program} {w : World} {A : Around} {E : Value → Shared → Prop} {s : Shared} {S : Addr} {es : Array (Int × Value)} {ep i : Nat} {t : SetTable} {Q : Option (Value × Nat) → Shared → Prop} (hS : SetLies w s.heap S es ep t)
    (hw : w.params.followText "set-order" = false → walkOk t es.size = true) (hi : i ≤ es.size)
    (h : Q (((ordOf w S ep es)[i]?).map fun e => (e.2, slotOf w t (i + 1))) s) : wpAny (model prog w) A (setNext S (slotOf w t i) i ep) Q E s := by
  obtain ⟨⟨o, ho, hc, hd⟩, hf, hled⟩ := hS
  unfold setNext
  refine wpAny_bind (wpAny_setState_of ho hd hf ?_)
  dsimp only
  refine wpAny_bind (m := setsByText) (wpAny_bind (wpAny_askSetting (wpAny_pure ?_)))
  show wpAny (model prog w) A (if w.params.followText "set-order" = true then _ else _) Q E s
  cases hb : w.params.followText "set-order" with
  | true =>
    simp only [if_true]
    rw [if_neg (by simp)]
    refine wpAny_bind ?_
    unfold setWalk
    refine wpAny_bind (wpAny_setState_of ho hd hf ?_)
    dsimp only
    refine wpAny_bind (m := setsByText) (wpAny_bind (wpAny_askSetting (wpAny_pure ?_)))
    show wpAny (model prog w) A (if w.params.followText "set-order" = true then _ else _) _ E s
    rw [hb]
    simp only [if_true]
    refine wpAny_bind (wpAny_askSetting (wpAny_pure (wpAny_pure ?_)))
    have e : ({ program := (model prog w).prog, params := (model prog w).w.params } : Setting).params.setOrder S ep = w.params.setOrder S ep := rfl
    rw [e]
    simpa [ordOf, slotOf, hb] using h
  | false =>
    obtain ⟨hp, hl⟩ := hled hb
    simp only [Bool.false_eq_true, if_false]
    show wpAny (model prog w) A (if (!t.plain && decide (es.size > 1)) = true then _ else ((if (!t.led && !es.isEmpty) = true then unsupported "set:maker-not-led" else pure PUnit.unit) >>= fun _ => pure _)) Q E s
    rw [hp, hl]
    simp only [Bool.not_true, Bool.false_and, Bool.false_eq_true, if_false]
    refine wpAny_bind (wpAny_pure (wpAny_pure ?_))
    have hk := List.all_eq_true.mp (hw hb) i (List.mem_range.mpr (by omega))
    have hsl : SetTable.below t.place (slotOf w t i) = i := by
      simp only [slotOf, hb, Bool.false_eq_true, if_false]
      exact beq_iff_eq.mp hk
    rw [hsl]
    have hps : t.place.size = es.size := by
      simp only [SetTable.fits, Bool.and_eq_true, beq_iff_eq] at hf
      exact hf.1
    simp only [ordOf, slotOf, hb, Bool.false_eq_true, if_false] at h
    cases he : es[i]? with
    | none => rw [he] at h; exact h
    | some e =>
      rw [he] at h
      have hlt : i < t.place.size := by rw [hps]; exact (Array.getElem?_eq_some_iff.mp he).1
      have hg : t.place.getD i 0 = t.place[i] := by simp [Array.getD, hlt]
      rw [Array.getElem?_eq_getElem hlt]
      simp only [Option.map_some, hg] at h
      exact h

noncomputable def SetIt (h : Heap) (I S : Addr) (slot i n ep : Nat) : Prop := h.get? I = some { cls := .type "set_iterator", dict := none, data := .fields #[.int slot 0, .int i 0, .ref S, .int n 0, .int ep 0], slots := #[] }

theorem setIt_typeIs {s : Shared} {I S : Addr} {slot i n ep : Nat} (h : SetIt s.heap I S slot i n ep) : s.TypeIs (.ref I) "set_iterator" := ⟨_, h, rfl⟩

theorem next_set_item {prog : Program} {w : World} {A : Around} {E : Value → Shared → Prop} {s : Shared} {I S : Addr} {es : Array (Int × Value)} {ep i : Nat} {t : SetTable} {Q : Option Value → Shared → Prop} (hS : SetLies w s.heap S es ep t)
    (hw : w.params.followText "set-order" = false → walkOk t es.size = true) (hit : SetIt s.heap I S (slotOf w t i) i es.size ep) (e : Int × Value) (he : (ordOf w S ep es)[i]? = some e)
    (h : ∀ h', SetIt h' I S (slotOf w t (i + 1)) (i + 1) es.size ep → Heap.SameBut I s.heap h' → Q (some e.2) { s with heap := h' }) : wpAny (model prog w) A (pyNext (.ref I)) Q E s := by
  have hlt : i < es.size := by rw [← ordOf_size w S ep es]; exact (Array.getElem?_eq_some_iff.mp he).1
  obtain ⟨⟨o, ho, hc, hd⟩, hf, hled⟩ := id hS
  unfold pyNext
  refine wpAny_bind (wpAny_attempt (wpAny_callSpecial?_slot (name := Str.ofString "__next__") (setIt_typeIs hit) slot_setit_next
    (wpAny_call_entry slot_setit_next (setIt_typeIs hit) entry_setit_next ?_ (args_setit_next _))))
  show wpAny _ _ (fieldsOf (.ref I) >>= _) _ _ s
  refine wpAny_bind (wpAny_fieldsOf hit rfl ?_)
  show wpAny _ _ (setEntries S >>= _) _ _ s
  refine wpAny_bind (wpAny_setEntries_of ho hd hf ?_)
  have hne : ((es.size : Int) != (es.size : Int)) = false := by simp
  show wpAny _ _ (if ((es.size : Int) != (es.size : Int)) = true then _ else _) _ _ s
  rw [hne]
  simp only [Bool.false_eq_true, if_false]
  show wpAny _ _ (setNext S (slotOf w t i : Int).toNat (i : Int).toNat (ep : Int).toNat >>= _) _ _ s
  simp only [Int.toNat_natCast]
  refine wpAny_bind (setNext_at hS hw (Nat.le_of_lt hlt) ?_)
  rw [he]
  simp only [Option.map_some]
  refine wpAny_bind (wpAny_setField_rec hit (by simp) fun h₁ g₁ b₁ => ?_)
  refine wpAny_bind (wpAny_setField_rec (s := { s with heap := h₁ }) g₁ (by simp) fun h₂ g₂ b₂ => ?_)
  refine wpAny_pure ⟨_, rfl, wpAny_pure (h h₂ ?_ (b₁.trans b₂))⟩
  unfold SetIt
  rw [g₂]
  simp [rawInt]


end
end Lite
namespace Lite
section
open PySem PySem.Calls PyProof.Rows PySem.W

theorem next_set_end {prog : Program} {w : World} {A : Around} {E : Value → Shared → Prop} {s : Shared} {I S : Addr} {es : Array (Int × Value)} {ep : Nat} {t : SetTable} {Q : Option Value → Shared → Prop} (hh : A.handled = none) (hS : SetLies w s.heap S es ep t)
    (hw : w.params.followText "set-order" = false → walkOk t es.size = true) (hit : SetIt s.heap I S (slotOf w t es.size) es.size es.size ep)
    (h : ∀ h', Heap.ExtBut I s.heap h' → Q none { s with heap := h' }) : wpAny (model prog w) A (pyNext (.ref I)) Q E s := by
  obtain ⟨⟨o, ho, hc, hd⟩, hf, hled⟩ := id hS
  unfold pyNext
  refine wpAny_bind (wpAny_attempt (wpAny_callSpecial?_slot (name := Str.ofString "__next__") (setIt_typeIs hit) slot_setit_next
    (wpAny_call_entry slot_setit_next (setIt_typeIs hit) entry_setit_next ?_ (args_setit_next _))))
  show wpAny _ _ (fieldsOf (.ref I) >>= _) _ _ s
  refine wpAny_bind (wpAny_fieldsOf hit rfl ?_)
  show wpAny _ _ (setEntries S >>= _) _ _ s
  refine wpAny_bind (wpAny_setEntries_of ho hd hf ?_)
  have hne : ((es.size : Int) != (es.size : Int)) = false := by simp
  show wpAny _ _ (if ((es.size : Int) != (es.size : Int)) = true then _ else _) _ _ s
  rw [hne]
  simp only [Bool.false_eq_true, if_false]
  show wpAny _ _ (setNext S (slotOf w t es.size : Int).toNat (es.size : Int).toNat (ep : Int).toNat >>= _) _ _ s
  simp only [Int.toNat_natCast]
  refine wpAny_bind (setNext_at hS hw (Nat.le_refl _) ?_)
  rw [Array.getElem?_eq_none (by rw [ordOf_size]; exact Nat.le_refl _)]
  simp only [Option.map_none]
  refine wpAny_bind (wpAny_setField hit rfl (by simp) ?_)
  show wpAny _ _ (newExc (.type "StopIteration") [] >>= _) _ _ _
  refine wpAny_bind ?_
  simp only [newExc, newTuple]
  refine wpAny_bind (wpAny_newObj_type ?_ (by size_fits))
  refine wpAny_bind (m := firstArgMember _ _) (wpAny_of_eq (a := Value.none) (by first | rfl | (simp only [firstArgMember]; rfl)) ?_)
  refine wpAny_newObj_type ?_ (by size_fits)
  simp only [raiseNew]
  refine wpAny_bind (wpAny_handled ?_)
  rw [show A.in1.handled = none from hh]
  refine wpAny_bind (wpAny_pure (wpAny_throw ?_))
  refine wpAny_bind (wpAny_isInstance (T := "StopIteration") (b := true) ⟨_, Heap.get?_push_size _ rfl, rfl⟩ isSubtype_stop ?_)
  exact wpAny_pure (h _ (((Heap.SameBut.update ..).extBut.push _).push _))

theorem iter_set {prog : Program} {w : World} {A : Around} {E : Value → Shared → Prop} {s : Shared} {S : Addr} {es : Array (Int × Value)} {ep : Nat} {t : SetTable} {Q : Value → Shared → Prop} (hS : SetLies w s.heap S es ep t)
    (h : Q (.ref s.heap.objs.size) { s with heap := s.heap.push { cls := .type "set_iterator", data := .fields #[.int 0 0, .int 0 0, .ref S, .int es.size 0, .int ep 0] } }) : wpAny (model prog w) A (pyIter (.ref S)) Q E s := by
  obtain ⟨⟨o, ho, hc, hd⟩, hf, hled⟩ := id hS
  have hT : s.TypeIs (.ref S) "set" := ⟨o, ho, hc⟩
  refine wpAny_pyIter_slot hT F.slot_set_iter (wpAny_call_entry F.slot_set_iter hT entry_set_iter ?_ (args_set_iter _))
  show wpAny _ _ (Builtin.Frozenset.sizeOf S >>= _) _ _ s
  refine wpAny_bind (m := Builtin.Frozenset.sizeOf S) (wpAny_bind (wpAny_setEntries_of ho hd hf (wpAny_pure ?_)))
  refine wpAny_bind (m := setDrawn S) ?_
  unfold setDrawn
  refine wpAny_bind (wpAny_setState_of ho hd hf ?_)
  dsimp only
  refine wpAny_bind (m := setsByText) (wpAny_bind (wpAny_askSetting (wpAny_pure (wpAny_pure ?_))))
  show wpAny (model prog w) A.in1 (if (!(w.params.followText "set-order") && (!t.plain && decide (es.size > 1))) = true then _ else _) _ _ s
  have hx : (!(w.params.followText "set-order") && (!t.plain && decide (es.size > 1))) = false := by
    cases hb : w.params.followText "set-order" with
    | true => rfl
    | false => rw [(hled hb).1]; rfl
  rw [hx]
  simp only [Bool.false_eq_true, if_false]
  refine wpAny_bind (wpAny_pure (wpAny_bind (wpAny_setEpoch_of ho hd hf ?_)))
  refine wpAny_bind (wpAny_newObj_type (wpAny_pure ⟨_, rfl, "set_iterator", _, ⟨_, Heap.get?_push_size _ rfl, rfl⟩, slot_setit_next.lookup, h⟩) (by size_fits))

theorem walks_set {prog : Program} {w : World} {A : Around} (hh : A.handled = none) (I S : Addr) (hne : S ≠ I) (es : Array (Int × Value)) (ep : Nat) (t : SetTable) (hw : w.params.followText "set-order" = false → walkOk t es.size = true) :
    Walks prog w A I [I, S] [I] es.size (fun i v => ∃ e, (ordOf w S ep es)[i]? = some e ∧ v = e.2) (fun i h => SetIt h I S (slotOf w t i) i es.size ep ∧ SetLies w h S es ep t) where
  sub := fun b hb => by simp at hb; simp [hb]
  frame := fun i h h' st hk => ⟨hk I (by simp) _ st.1, st.2.move fun o => hk S (by simp) o⟩
  item := fun i s Q E hi st hQ => by
    have hlt : i < (ordOf w S ep es).size := by rw [ordOf_size]; exact hi
    have he := Array.getElem?_eq_getElem hlt
    exact next_set_item st.2 hw st.1 _ he fun h' hit hs => hQ _ h' s.toks ⟨_, he, rfl⟩ ⟨hit, st.2.move fun o => hs.extBut S o hne⟩ fun b o hb e => hs.extBut b o (by simpa using hb) e
  done := fun s Q E st hQ => next_set_end hh st.2 hw st.1 fun h' he => hQ h' s.toks fun b o hb e => he b o (by simpa using hb) e
  self := fun i s Q E st hQ => by
    refine wpAny_pyIter_slot (setIt_typeIs st.1) slot_setit_iter (wpAny_call_entry slot_setit_iter (setIt_typeIs st.1) entry_setit_iter ?_ (args_setit_iter _))
    show wpAny _ _ (ret (.ref I)) _ _ s
    exact wpAny_pure ⟨_, rfl, "set_iterator", _, setIt_typeIs st.1, slot_setit_next.lookup, hQ⟩


theorem collect_set {prog : Program} {w : World} {A : Around} {E : Value → Shared → Prop} {s : Shared} {S : Addr} {es : Array (Int × Value)} {ep : Nat} {t : SetTable} {Q : List Value → Shared → Prop} (hh : A.handled = none) (hS : SetLies w s.heap S es ep t)
    (hw : w.params.followText "set-order" = false → walkOk t es.size = true) (hn : es.size ≤ sizeLine)
    (hQ : ∀ s' acc, (∀ b o, s.heap.get? b = some o → s'.heap.get? b = some o) → s'.gens = s.gens → s'.os = s.os → ItemsOf (fun i v => ∃ e, (ordOf w S ep es)[i]? = some e ∧ v = e.2) acc es.size → Q acc.toList s') :
    wpAny (model prog w) A (collect (.ref S)) Q E s := by
  obtain ⟨⟨o, ho, hc, hd⟩, hf, hled⟩ := id hS
  have hlt := Heap.lt_size ho
  have hSI : s.heap.objs.size ≠ S := Nat.ne_of_gt hlt
  unfold collect
  refine wpAny_bind (wpAny_runValue (codeAny_builtin F.entry_proto_collect ?_))
  rw [Around.under_plainId F.plain_proto_collect _]
  show wpAny _ A.in1 (newList [] >>= fun l => again (.builtin "list.__iadd__" ⟨[l, .ref S], []⟩)) _ _ s
  refine wpAny_bind (wpAny_newObj_type ?_)
  refine wpAny_pure ⟨plainId_quiet F.plain_list_iadd _, codeAny_builtin F.entry_list_iadd ?_⟩
  rw [Around.under_plainId F.plain_list_iadd _]
  have hS₁ : SetLies w (s.heap.push { cls := .type "list", data := .seq ([] : List Value).toArray }) S es ep t := hS.move fun o h => Heap.get?_push_of_some _ h
  have hT : Shared.TypeIs { s with heap := s.heap.push { cls := .type "list", data := .seq ([] : List Value).toArray } } (.ref S) "set" := ⟨o, Heap.get?_push_of_some _ ho, hc⟩
  show wpAny _ A.in1 (Builtin.List.listExtendWith (.ref s.heap.objs.size) (.ref S) (.ref s.heap.objs.size)) _ _ _
  unfold Builtin.List.listExtendWith
  refine wpAny_bind (wpAny_typeOf hT ?_)
  have h1 : Builtin.List.listSameRef (.ref s.heap.objs.size) (.ref S) = false := by simp [Builtin.List.listSameRef, hSI]
  have h2 : (Value.type "set" == Value.type "list") = false := by decide
  have h3 : (Value.type "set" == Value.type "tuple") = false := by decide
  simp only [h1, h2, h3, Bool.or_false, Bool.false_eq_true, if_false]
  refine wpAny_bind (iter_set hS₁ ?_)
  refine wpAny_bind (wpAny_holding ?_)
  generalize hH : s.heap.push { cls := .type "list", data := .seq ([] : List Value).toArray } = H at *
  have hHs : H.objs.size = s.heap.objs.size + 1 := by rw [← hH, Heap.size_push]
  have hL : H.get? s.heap.objs.size = some { cls := .type "list", data := .seq ([] : List Value).toArray } := by rw [← hH]; exact Heap.get?_push_size _ rfl
  have hSH : H.get? S = some o := by rw [← hH]; exact Heap.get?_push_of_some _ ho
  have hT₂ : Shared.TypeIs { s with heap := H.push { cls := .type "set_iterator", data := .fields #[.int 0 0, .int 0 0, .ref S, .int es.size 0, .int ep 0] } } (.ref S) "set" := ⟨o, Heap.get?_push_of_some _ hSH, hc⟩
  unfold Builtin.List.listLengthHint
  refine wpAny_bind (wpAny_specialOf hT₂ F.slot_set_len.lookup ?_)
  wp_delta
  refine wpAny_bind (wpAny_isInstance (T := "set") (b := true) hT₂ (by rw [isSubtype_type]; kernel_rfl) ?_)
  show wpAny _ A.in1 (typeOf (Value.ref S) >>= _) _ _ _
  refine wpAny_bind (wpAny_typeOf hT₂ ?_)
  refine wpAny_pure ?_
  show wpAny _ A.in1 (rule "list.extend.makes-room" >>= fun _ => Builtin.List.listTouch (.ref s.heap.objs.size) >>= fun _ =>
    again (.builtin "list.extend.loop" ⟨[.ref s.heap.objs.size, .ref H.objs.size, .ref s.heap.objs.size], []⟩)) _ _ _
  refine wpAny_bind (wpAny_rule ?_)
  generalize hK : H.push { cls := .type "set_iterator", data := .fields #[.int 0 0, .int 0 0, .ref S, .int es.size 0, .int ep 0] } = K at *
  have hL₂ : K.get? s.heap.objs.size = some { cls := .type "list", data := .seq ([] : List Value).toArray } := by rw [← hK]; exact Heap.get?_push_of_some _ hL
  have hI₂ : K.get? H.objs.size = some { cls := .type "set_iterator", data := .fields #[.int 0 0, .int 0 0, .ref S, .int es.size 0, .int ep 0] } := by rw [← hK]; exact Heap.get?_push_size _ rfl
  have hS₂ : K.get? S = some o := by rw [← hK]; exact Heap.get?_push_of_some _ hSH
  have hold : ∀ b ob, s.heap.get? b = some ob → K.get? b = some ob := fun b ob e => by rw [← hK, ← hH]; exact Heap.get?_push_of_some _ (Heap.get?_push_of_some _ e)
  refine wpAny_bind ?_
  show wpAny _ A.in1 (updateSeq s.heap.objs.size (·.push .none) >>= fun _ => updateSeq s.heap.objs.size (·.pop)) _ _ _
  refine wpAny_bind (wpAny_updateSeq hL₂ rfl ?_)
  have hu₂ := Heap.get?_update_self (Obj.mapSeq (·.push Value.none)) hL₂ rfl
  refine wpAny_updateSeq hu₂ rfl ?_
  have hu₃ := Heap.get?_update_self (Obj.mapSeq (·.pop)) hu₂ rfl
  have oth : ∀ b ob, b ≠ s.heap.objs.size → K.get? b = some ob → ((K.update s.heap.objs.size (Obj.mapSeq (·.push Value.none))).update s.heap.objs.size (Obj.mapSeq (·.pop))).get? b = some ob :=
    fun b ob hb e => (Heap.get?_update_other _ _ (Ne.symm hb)).trans ((Heap.get?_update_other _ _ (Ne.symm hb)).trans e)
  have hIne : H.objs.size ≠ s.heap.objs.size := by rw [hHs]; exact Nat.succ_ne_self _
  have hSne : S ≠ H.objs.size := by rw [hHs]; exact Nat.ne_of_lt (Nat.lt_succ_of_lt hlt)
  have W := walks_set (prog := prog) (w := w) (A := A.in1) hh H.objs.size S hSne es ep t hw
  have hSf : s.heap.objs.size ∉ [H.objs.size, S] := by
    simp only [List.mem_cons, List.not_mem_nil, or_false, not_or]
    exact ⟨Ne.symm hIne, hSI⟩
  have h0 : slotOf w t 0 = 0 := by unfold slotOf; split <;> rfl
  refine wpAny_pure ⟨plainId_quiet F.plain_extend_loop _, codeAny_extend_loopS W.toS hn _ hSf _ es.size 0 _ _ _ rfl (Nat.zero_le _)
    ⟨by unfold SetIt; rw [h0]; exact oth _ _ hIne hI₂, ⟨o, oth _ _ (Ne.symm hSI) hS₂, hc, hd⟩, hf, hled⟩ hu₃ (ItemsOf.nil _) fun s' acc' c' hm hS' hacc => ?_⟩
  show wpAny _ A (load s.heap.objs.size >>= _) _ _ s'
  refine wpAny_bind (wpAny_load hS' ?_)
  refine wpAny_pure (hQ s' acc' (fun b ob e => hm.heap b ob (fun hb => ?_) (oth b ob (Nat.ne_of_lt (Heap.lt_size e)) (hold b ob e))) hm.gens hm.os hacc)
  have hb' := Heap.lt_size e
  rcases List.mem_cons.mp hb with h | h
  · rw [h] at hb'; exact Nat.lt_irrefl _ hb'
  · rw [List.mem_singleton.mp h, hHs] at hb'; exact absurd hb' (Nat.not_lt.mpr (Nat.le_succ _))


end
end Lite
namespace Lite
section
open PySem PySem.Calls PyProof.Rows PySem.W

noncomputable def insI (a : Int) : List Int → List Int
  | [] => [a]
  | b :: r => match decide (a ≤ b) with | true => a :: b :: r | false => b :: insI a r
noncomputable def sortZ : List Int → List Int
  | [] => []
  | a :: r => insI a (sortZ r)
theorem insI_perm (a : Int) : ∀ l, (insI a l).Perm (a :: l)
  | [] => .refl _
  | b :: r => by
    unfold insI
    cases h : decide (a ≤ b) with
    | true => exact .refl _
    | false => exact ((insI_perm a r).cons b).trans (List.Perm.swap a b r)
theorem sortZ_perm : ∀ l, (sortZ l).Perm l
  | [] => .refl _
  | a :: r => (insI_perm a _).trans ((sortZ_perm r).cons a)
theorem insI_sorted (a : Int) : ∀ l : List Int, l.Pairwise (· ≤ ·) → (insI a l).Pairwise (· ≤ ·)
  | [], _ => List.pairwise_singleton ..
  | b :: r, h => by
    unfold insI
    obtain ⟨h1, h2⟩ := List.pairwise_cons.mp h
    cases hab : decide (a ≤ b) with
    | true =>
      have hab' : a ≤ b := of_decide_eq_true hab
      exact List.pairwise_cons.mpr ⟨fun x hx => by
        rcases List.mem_cons.mp hx with rfl | hx
        · exact hab'
        · exact Int.le_trans hab' (h1 x hx), h⟩
    | false =>
      have hab' : ¬ a ≤ b := of_decide_eq_false hab
      refine List.pairwise_cons.mpr ⟨fun x hx => ?_, insI_sorted a r h2⟩
      rcases List.mem_cons.mp ((insI_perm a r).mem_iff.mp hx) with rfl | hx
      · omega
      · exact h1 x hx
theorem sortZ_sorted : ∀ l : List Int, (sortZ l).Pairwise (· ≤ ·)
  | [] => .nil
  | a :: r => insI_sorted a _ (sortZ_sorted r)
theorem sortZ_unique {l l' : List Int} (hp : l'.Perm l) (hs : l'.Pairwise (· ≤ ·)) : l' = sortZ l :=
  List.Perm.eq_of_pairwise (le := (· ≤ ·)) (fun _ _ _ _ h1 h2 => Int.le_antisymm h1 h2) hs (sortZ_sorted l) (hp.trans (sortZ_perm l).symm)

noncomputable def intOf (e : Int × Value) : Int := match e.2 with | .int k _ => k | _ => 0
noncomputable def setInts (E : Array (Int × Value)) : List Int := E.toList.map intOf
theorem intOf_strip (e : Int × Value) : intOf (strip e) = intOf e := by
  obtain ⟨h, v⟩ := e; cases v <;> rfl
theorem setInts_strip (es : Array (Int × Value)) : setInts (es.map strip) = es.toList.map intOf := by
  unfold setInts
  rw [Array.toList_map, List.map_map]
  congr 1
  funext e
  exact intOf_strip e
noncomputable def simSet (led : Bool) (ns : List Int) : SetSt := ns.foldl pureAdd (#[], .fresh 0 0 led)
theorem simUp_all (led : Bool) (ns : List Int) : simUp led ns ns.length = simSet led ns := by
  unfold simUp simSet
  congr 1
  refine List.ext_getElem (by simp) fun i h1 h2 => ?_
  simp [List.getD_eq_getElem?_getD, h2]

noncomputable def sortSetV (ns : List Int) : Option (List Int) :=
  match Nat.blt (simSet true ns).1.size 64 && Nat.blt ns.length 4000 && (simSet true ns).2.plain && (simSet true ns).2.led && walkOk (simSet true ns).2 (simSet true ns).1.size && Nat.blt (simSet false ns).1.size 64 && (sortZ (setInts (simSet true ns).1) == sortZ (setInts (simSet false ns).1)) with
  | true => some (sortZ (setInts (simSet true ns).1))
  | false => none

theorem ints_vals : ∀ (L : List (Int × Value)), (∀ e ∈ L, ∃ k t, e.2 = .int k t) → IntsAre (L.map (·.2)) (L.map intOf)
  | [], _ => .nil
  | e :: r, h => by
    obtain ⟨k, t, hk⟩ := h e List.mem_cons_self
    simp only [List.map_cons]
    have hi : intOf e = k := by unfold intOf; rw [hk]
    rw [hk, hi]
    exact .cons k t (ints_vals r fun e he => h e (List.mem_cons_of_mem _ he))
theorem rd_ints {av : Addr → Prop} {s : Shared} : ∀ {vs : List Value} {ns : List Int}, IntsAre vs ns → RdAll av s vs (ns.map .int)
  | _, _, .nil => .nil
  | _, _, .cons n t r => .cons (.int n t) (rd_ints r)

theorem sorted_set {W : Wd} {A : Around} {E : Value → Shared → Prop} {s : Shared} {S : Addr} {ns out : List Int} {Q : Value → Shared → Prop} (hA : A.handled = none) (hS : SimAt W.prog W.w s.heap S (simSet (ledOf W.w) ns)) (ho : sortSetV ns = some out)
    (hQ : ∀ a vs s', Ext nobody s s' → s.heap.get? a = none → s'.heap.PlainList a vs → IntsAre vs.toList out → Q (.ref a) s') : wpAny W.M A (call (.builtin "sorted") [.ref S]) Q E s := by
  unfold sortSetV at ho
  split at ho
  case h_2 => cases ho
  rename_i hchk
  simp only [Option.some.injEq] at ho
  subst ho
  simp only [Bool.and_eq_true, Nat.blt_eq, beq_iff_eq] at hchk
  obtain ⟨⟨⟨⟨⟨⟨hsz, hlen⟩, hplain⟩, hled⟩, hwalk⟩, hsz'⟩, hsame⟩ := hchk
  obtain ⟨o, es, ep, hoS, hex, hd, hel, hf, hb, hst⟩ := hS
  have hszes : es.size = (simSet (ledOf W.w) ns).1.size := by rw [← hst, Array.size_map]
  have hT : ∀ h : W.w.params.followText "set-order" = false, ledOf W.w = true := fun h => by unfold ledOf; rw [h]; rfl
  have h64 : es.size < 64 := by
    rw [hszes]
    cases hl : ledOf W.w with
    | true => exact hsz
    | false => exact hsz'
  have hsort : sortZ (es.toList.map intOf) = sortZ (setInts (simSet true ns).1) := by
    have : es.toList.map intOf = setInts (simSet (ledOf W.w) ns).1 := by rw [← hst, setInts_strip]
    rw [this]
    cases hl : ledOf W.w with
    | true => rfl
    | false => exact hsame.symm
  have hlies : SetLies W.w s.heap S es ep (simSet (ledOf W.w) ns).2 := ⟨⟨o, hoS, hex.1, hd⟩, hf, fun h => by rw [hT h]; exact ⟨hplain, hled⟩⟩
  have hw : W.w.params.followText "set-order" = false → walkOk (simSet (ledOf W.w) ns).2 es.size = true := fun h => by rw [hszes, hT h]; exact hwalk
  refine sorted_by (wpAny_with_toks (n := s.toks) (Nat.le_refl _) (collect_set (A := A.in1) hA hlies hw (by rw [sizeLine_eq]; omega) fun s₁ acc hkp hg hos hit htk₁ => ?_))
  have hacc : acc.toList = (ordOf W.w S ep es).toList.map (·.2) := by
    refine List.ext_getElem? fun i => ?_
    cases hi : acc.toList[i]? with
    | none =>
      have h1 := List.getElem?_eq_none_iff.mp hi
      have h2 : es.size ≤ i := by rw [← hit.1]; simpa using h1
      rw [List.getElem?_eq_none]
      simp [ordOf_size, h2]
    | some v =>
      obtain ⟨e, h1, h2⟩ := hit.2 i v (by simpa using hi)
      rw [List.getElem?_map, Array.getElem?_toList, h1, h2]; rfl
  have hints : ∀ e ∈ (ordOf W.w S ep es).toList, ∃ k t, e.2 = .int k t := fun e he => by
    have hm : e ∈ es.toList := (ordOf_perm W.w S ep es).mem_iff.mp he
    obtain ⟨⟨k, hk, _⟩, _⟩ := hel e hm
    obtain ⟨t, ht⟩ := Value.isInt_shape hk
    exact ⟨k, t, ht⟩
  have hI : IntsAre acc.toList ((ordOf W.w S ep es).toList.map intOf) := by rw [hacc]; exact ints_vals _ hints
  have hl : acc.toList.length < 64 := by rw [hacc, List.length_map, Array.length_toList, ordOf_size]; exact h64
  refine ⟨by rw [sizeLine_eq]; omega, fun out => IntsAre out.toList (sortZ (setInts (simSet true ns).1)), fun R hR => ?_, fun out h' e hP he hkp' => ?_⟩
  · refine list_sort_tree (n := 0) (Heap.get?_push_size _ rfl) hI hl fun out ns' h1 h2 h3 => hR _ ?_
    rw [← hsort, ← sortZ_unique (h2.trans ((ordOf_perm W.w S ep es).map intOf)) h3]
    exact h1
  · have ex : Ext nobody s { s₁ with heap := h' } := ⟨fun b o _ q => hkp' b o (hkp b o q), hos, fun i g q => by show s₁.gens[i]? = _; rw [hg]; exact q, fun i g hi q => (by
      have q' : s₁.gens[i]? = some g := q
      rw [hg, Array.getElem?_eq_none hi] at q'; cases q'), htk₁⟩
    refine hQ _ out _ ex ?_ ⟨e, he⟩ hP
    cases q : s.heap.get? s₁.heap.objs.size with
    | none => rfl
    | some o' => exact absurd (Heap.lt_size (hkp _ o' q)) (Nat.lt_irrefl _)


theorem intsOf_length : ∀ {l : List V} {ns : List Int}, intsOf l = some ns → l.length = ns.length
  | [], ns, h => by cases h; rfl
  | v :: r, ns, h => by
    cases v <;> try (cases h; done)
    simp only [intsOf] at h
    cases h1 : intsOf r with
    | none => rw [h1] at h; cases h
    | some ms => rw [h1] at h; simp only [Option.map_some, Option.some.injEq] at h; subst h; simp [intsOf_length h1]

noncomputable def dSortSet (d : St → Option (List V)) (σ : St) : Option V := (d σ).bind fun l => (intsOf l).bind fun ns => (sortSetV ns).map fun r => .list (r.map .int)
theorem good_sortSet {W : Wd} {k : Nat} {S : Sx} {np np2 pos pos2 : Pos} {e : Expr} {d : St → Option (List V)} (hW : WOk W) (hx : isGlob S "sorted" = true) (hx2 : isGlob S "set" = true) (g : GoodN W k S e d)
    (he : ∀ env, starEach [e] env = (false, eval e env) :: starEach [] env := by intro _; rfl) (hp : ∀ env, (backTo pos2 (starEach [e] env)).any (·.1) = false := by intro _; rfl) :
    GoodE W k S (.Call (.Name "sorted" np) [.Call (.Name "set" np2) [e] [] pos2] [] pos) (dSortSet d) := by
  intro A C oa s σ v hA hC R hv Q E hQ
  unfold dSortSet at hv
  cases h1 : d σ with
  | none => rw [h1] at hv; cases hv
  | some l =>
  rw [h1] at hv
  simp only [Option.bind_some] at hv
  cases h2 : intsOf l with
  | none => rw [h2] at hv; cases hv
  | some ns =>
  rw [h2] at hv
  simp only [Option.bind_some] at hv
  cases h3 : sortSetV ns with
  | none => rw [h3] at hv; cases hv
  | some out =>
  rw [h3] at hv
  simp only [Option.map_some, Option.some.injEq] at hv
  subst hv
  have hlen : ns.length < 4000 := by
    unfold sortSetV at h3
    split at h3
    · rename_i hchk
      simp only [Bool.and_eq_true, Nat.blt_eq] at hchk
      exact hchk.1.1.1.1.1.2
    · cases h3
  refine wpAny_Call_NameR (glob_name hW.ok hC R hx (.inr hW.b_sorted) (callWith_builtin rfl ?_))
  have hsp : wpAny W.M A (spliced ((false, eval (.Call (.Name "set" np2) [e] [] pos2) C.env) :: backTo pos (starEach [] C.env))) (fun rs s' => wpAny W.M A (call (.builtin "sorted") ([] ++ rs) []) Q E s') E s := by
    refine spliced_cons (Q := fun rs s' => wpAny W.M A (call (.builtin "sorted") ([] ++ rs) []) Q E s') ?_
    refine wpAny_Call_NameR (glob_name hW.ok hC R hx2 (.inr hW.b_set) (PySem.callWith_type (hp _) ?_))
    have hsp2 : wpAny W.M A (spliced ((false, eval e C.env) :: starEach [] C.env)) (fun rs s' => wpAny W.M A (call (.type "set") ([] ++ rs) []) (fun v s₁ => wpAny W.M A (spliced (backTo pos (starEach [] C.env))) (fun rest s₂ => wpAny W.M A (call (.builtin "sorted") ([] ++ (v :: rest)) []) Q E s₂) E s₁) E s') E s := by
      refine spliced_cons (Q := fun rs s' => wpAny W.M A (call (.type "set") ([] ++ rs) []) (fun v s₁ => wpAny W.M A (spliced (backTo pos (starEach [] C.env))) (fun rest s₂ => wpAny W.M A (call (.builtin "sorted") ([] ++ (v :: rest)) []) Q E s₂) E s₁) E s') ?_
      refine g A C oa s σ l hA hC R h1 _ _ fun a vs s₁ e₁ hn hl q => ?_
      refine spliced_nil ?_
      have hi : IntsAre vs.toList ns := intsAre_of q h2
      have hvs : vs.size = ns.length := by
        have h4 := q.length
        have h5 := intsOf_length h2
        simp only [Array.length_toList] at h4
        omega
      refine wpAny_with_toks (Nat.le_refl s₁.toks) (call_set_sim hA.handled hl.isList hi (by unfold scanBound; omega) fun h' tk hsim hkp htk => ?_)
      refine spliced_nil ?_
      have e₂ : Ext nobody s₁ { s₁ with heap := h', toks := tk } := Ext.of_heap (fun b o _ eb => hkp b o (Heap.lt_size eb) eb) htk
      rw [hvs, simUp_all] at hsim
      refine sorted_set hA.handled hsim h3 fun a' vs' s₂ e₃ hn' hl' hi' => ?_
      have e₁₂ := e₁.trans' e₂
      have R₂ := R.ext e₁₂
      exact hQ _ s₂ (e₁₂.trans' e₃) (.list hl' (R₂.liveA.none hn') (rd_ints hi'))
    rw [he]
    exact evalArgs_plain hsp2
  exact evalArgs_plain hsp


end
end Lite
namespace Lite
section
open PySem PySem.Calls PyProof.Rows PySem.W

noncomputable def S__strcoll : Sx := ⟨scopeAt 1, ["a", "b"], ""⟩
noncomputable def D__strcoll : Den := (dSeq (dRet (d2 subV (d2 gtI (dVar 0) (dVar 1)) (d2 ltI (dVar 0) (dVar 1)))) dNil)
noncomputable def f__strcoll : List V → Option V := runFn D__strcoll 2 0
theorem hS__strcoll : SxOk S__strcoll := ⟨by decide +kernel, by decide +kernel⟩
theorem b__strcoll {W : Wd} (hW : WOk W) : GoodB W 0 S__strcoll (bodyAt 1) D__strcoll := by
  have hS := hS__strcoll
  refine body_cons ?_ ?_
  · refine st_ret ?_
    · refine good_bin (op_sub _) ?_ ?_
      · refine good_cmp (op_gt _) ?_ ?_
        · exact good_var 0 (by decide +kernel) (by decide +kernel) (by decide +kernel)
        · exact good_var 1 (by decide +kernel) (by decide +kernel) (by decide +kernel)
      · refine good_cmp (op_lt _) ?_ ?_
        · exact good_var 0 (by decide +kernel) (by decide +kernel) (by decide +kernel)
        · exact good_var 1 (by decide +kernel) (by decide +kernel) (by decide +kernel)
  · exact body_nil
theorem ok__strcoll {W : Wd} (hW : WOk W) : FnOk W 1 "_strcoll" f__strcoll := fn_at hW 0 1 _ ["a", "b"] 2 0 hS__strcoll (b__strcoll hW) (by kernel_rfl) (by kernel_rfl) (by kernel_rfl) (by decide +kernel) rfl (by intro pm code doc rs h; match rs, h with | [_, _], _ => kernel_rfl)

noncomputable def S_add : Sx := ⟨scopeAt 5, ["a", "b"], ""⟩
noncomputable def D_add : Den := (dSeq (dRet (d2 addV (dVar 0) (dVar 1))) dNil)
noncomputable def f_add : List V → Option V := runFn D_add 2 0
theorem hS_add : SxOk S_add := ⟨by decide +kernel, by decide +kernel⟩
theorem b_add {W : Wd} (hW : WOk W) : GoodB W 0 S_add (bodyAt 5) D_add := by
  have hS := hS_add
  refine body_cons ?_ ?_
  · refine st_ret ?_
    · refine good_bin (op_add _) ?_ ?_
      · exact good_var 0 (by decide +kernel) (by decide +kernel) (by decide +kernel)
      · exact good_var 1 (by decide +kernel) (by decide +kernel) (by decide +kernel)
  · exact body_nil
theorem ok_add {W : Wd} (hW : WOk W) : FnOk W 1 "add" f_add := fn_at hW 2 5 _ ["a", "b"] 2 0 hS_add (b_add hW) (by kernel_rfl) (by kernel_rfl) (by kernel_rfl) (by decide +kernel) rfl (by intro pm code doc rs h; match rs, h with | [_, _], _ => kernel_rfl)

noncomputable def S_mul : Sx := ⟨scopeAt 6, ["a", "b"], ""⟩
noncomputable def D_mul : Den := (dSeq (dRet (d2 mulV (dVar 0) (dVar 1))) dNil)
noncomputable def f_mul : List V → Option V := runFn D_mul 2 0
theorem hS_mul : SxOk S_mul := ⟨by decide +kernel, by decide +kernel⟩
theorem b_mul {W : Wd} (hW : WOk W) : GoodB W 0 S_mul (bodyAt 6) D_mul := by
  have hS := hS_mul
  refine body_cons ?_ ?_
  · refine st_ret ?_
    · refine good_bin (op_mul _) ?_ ?_
      · exact good_var 0 (by decide +kernel) (by decide +kernel) (by decide +kernel)
      · exact good_var 1 (by decide +kernel) (by decide +kernel) (by decide +kernel)
  · exact body_nil
theorem ok_mul {W : Wd} (hW : WOk W) : FnOk W 1 "mul" f_mul := fn_at hW 3 6 _ ["a", "b"] 2 0 hS_mul (b_mul hW) (by kernel_rfl) (by kernel_rfl) (by kernel_rfl) (by decide +kernel) rfl (by intro pm code doc rs h; match rs, h with | [_, _], _ => kernel_rfl)

noncomputable def S_contains : Sx := ⟨scopeAt 7, ["a", "b"], ""⟩
noncomputable def D_contains : Den := (dSeq (dRet (d2 inI (dVar 1) (dVar 0))) dNil)
noncomputable def f_contains : List V → Option V := runFn D_contains 2 0
theorem hS_contains : SxOk S_contains := ⟨by decide +kernel, by decide +kernel⟩
theorem b_contains {W : Wd} (hW : WOk W) : GoodB W 0 S_contains (bodyAt 7) D_contains := by
  have hS := hS_contains
  refine body_cons ?_ ?_
  · refine st_ret ?_
    · refine good_cmp (op_in _) ?_ ?_
      · exact good_var 1 (by decide +kernel) (by decide +kernel) (by decide +kernel)
      · exact good_var 0 (by decide +kernel) (by decide +kernel) (by decide +kernel)
  · exact body_nil
theorem ok_contains {W : Wd} (hW : WOk W) : FnOk W 1 "contains" f_contains := fn_at hW 4 7 _ ["a", "b"] 2 0 hS_contains (b_contains hW) (by kernel_rfl) (by kernel_rfl) (by kernel_rfl) (by decide +kernel) rfl (by intro pm code doc rs h; match rs, h with | [_, _], _ => kernel_rfl)

noncomputable def S_ipow : Sx := ⟨scopeAt 9, ["a", "b"], ""⟩
noncomputable def D_ipow : Den := (dSeq (dSet 0 (d2 powV (dVar 0) (dVar 1))) (dSeq (dRet (dVar 0)) dNil))
noncomputable def f_ipow : List V → Option V := runFn D_ipow 2 0
theorem hS_ipow : SxOk S_ipow := ⟨by decide +kernel, by decide +kernel⟩
theorem b_ipow {W : Wd} (hW : WOk W) : GoodB W 0 S_ipow (bodyAt 9) D_ipow := by
  have hS := hS_ipow
  refine body_cons ?_ ?_
  · refine st_aug 0 (op_ipow _) hS (by decide +kernel) ?_ (by decide +kernel)
    · exact good_var 1 (by decide +kernel) (by decide +kernel) (by decide +kernel)
  · refine body_cons ?_ ?_
    · refine st_ret ?_
      · exact good_var 0 (by decide +kernel) (by decide +kernel) (by decide +kernel)
    · exact body_nil
theorem ok_ipow {W : Wd} (hW : WOk W) : FnOk W 1 "ipow" f_ipow := fn_at hW 6 9 _ ["a", "b"] 2 0 hS_ipow (b_ipow hW) (by kernel_rfl) (by kernel_rfl) (by kernel_rfl) (by decide +kernel) rfl (by intro pm code doc rs h; match rs, h with | [_, _], _ => kernel_rfl)

noncomputable def S__substitution_cost : Sx := ⟨scopeAt 14, ["ch_a", "ch_b"], ""⟩
noncomputable def D__substitution_cost : Den := (dSeq (dIf (dT (d2 eqI (dVar 0) (dVar 1))) (dSeq (dRet (dConst (.int 0))) dNil) dNil) (dSeq (dIf (dT (d2 eqI (dMeth "str" lowerV (dVar 0) esNil) (dMeth "str" lowerV (dVar 1) esNil))) (dSeq (dRet (dConst (.int 1))) dNil) dNil) (dSeq (dRet (dConst (.int 2))) dNil)))
noncomputable def f__substitution_cost : List V → Option V := runFn D__substitution_cost 2 0
theorem hS__substitution_cost : SxOk S__substitution_cost := ⟨by decide +kernel, by decide +kernel⟩
theorem b__substitution_cost {W : Wd} (hW : WOk W) : GoodB W 0 S__substitution_cost (bodyAt 14) D__substitution_cost := by
  have hS := hS__substitution_cost
  refine body_cons ?_ ?_
  · refine st_if ?_ ?_ ?_
    · refine test_cmp (op_eq _) ?_ ?_
      · exact good_var 0 (by decide +kernel) (by decide +kernel) (by decide +kernel)
      · exact good_var 1 (by decide +kernel) (by decide +kernel) (by decide +kernel)
    · refine body_cons ?_ ?_
      · refine st_ret ?_
        · exact good_int
      · exact body_nil
    · exact body_nil
  · refine body_cons ?_ ?_
    · refine st_if ?_ ?_ ?_
      · refine test_cmp (op_eq _) ?_ ?_
        · refine good_meth m_lower (op_lower _) ?_ ?_ (by decide +kernel)
          · exact good_var 0 (by decide +kernel) (by decide +kernel) (by decide +kernel)
          · exact es_nil
        · refine good_meth m_lower (op_lower _) ?_ ?_ (by decide +kernel)
          · exact good_var 1 (by decide +kernel) (by decide +kernel) (by decide +kernel)
          · exact es_nil
      · refine body_cons ?_ ?_
        · refine st_ret ?_
          · exact good_gint hW.ok hW.c__CASE_COST (by decide +kernel)
        · exact body_nil
      · exact body_nil
    · refine body_cons ?_ ?_
      · refine st_ret ?_
        · exact good_gint hW.ok hW.c__MOVE_COST (by decide +kernel)
      · exact body_nil
theorem ok__substitution_cost {W : Wd} (hW : WOk W) : FnOk W 1 "_substitution_cost" f__substitution_cost := fn_at hW 7 14 _ ["ch_a", "ch_b"] 2 0 hS__substitution_cost (b__substitution_cost hW) (by kernel_rfl) (by kernel_rfl) (by kernel_rfl) (by decide +kernel) rfl (by intro pm code doc rs h; match rs, h with | [_, _], _ => kernel_rfl)


end
end Lite
namespace Lite
section
open PySem PySem.Calls PyProof.Rows PySem.W

theorem item_defL (l : List V) (i : Int) : itemV (.list l) (.int i) = (match decide (0 ≤ i) && decide (i < 1000000) with | true => l[i.toNat]? | false => none) := rfl
theorem item_defS (l : List Nat) (i : Int) : itemV (.str l) (.int i) = (match decide (i.natAbs < 1000000) with | true => (itemS l i).map fun c => .str [c] | false => none) := rfl
theorem itemS_def (l : List Nat) (i : Int) (h : 0 ≤ i) : itemS l i = l[i.toNat]? := by
  unfold itemS
  rw [decide_eq_true h]
theorem item_list {l : List V} {i : Int} {v : V} (h0 : 0 ≤ i) (h1 : i < 1000000) (ha : l[i.toNat]? = some v) : itemV (.list l) (.int i) = some v := by
  rw [item_defL, decide_eq_true h0, decide_eq_true h1]
  exact ha
theorem item_str {l : List Nat} {i : Int} {y : Nat} (h0 : 0 ≤ i) (h1 : i < 1000000) (ha : l[i.toNat]? = some y) : itemV (.str l) (.int i) = some (.str [y]) := by
  rw [item_defS, itemS_def _ _ h0, ha, decide_eq_true (show i.natAbs < 1000000 by omega)]
  rfl

noncomputable def D_cell : Den := (dSeq (dSet 11 (d2 addV (dVar 8) (dCall f__substitution_cost (esCons (dVar 7) (esCons (d2 itemV (dVar 0) (dVar 10)) esNil))))) (dSeq (dSet 8 (dOwnItem (dVar 10))) (dSeq (dSet 12 (d2 addV (dCall minV (esCons (dVar 5) (esCons (dVar 8) esNil))) (dConst (.int 2)))) (dSeq (dSet 5 (dCall minV (esCons (dVar 12) (esCons (dVar 11) esNil)))) (dSeq (dOwnSet (dVar 10) (dVar 5)) (dSeq (dIf (dT (d2 ltI (dVar 5) (dVar 9))) (dSeq (dSet 9 (dVar 5)) dNil) dNil) dNil))))))
noncomputable def D_cells : Den := dFor (dRange (esCons (dCall lenV (esCons (dVar 0) esNil)) esNil)) (tgName 10) D_cell

noncomputable def costN (x y : Nat) : Nat := match Nat.beq x y with | true => 0 | false => 2
noncomputable def minN (a b : Nat) : Nat := match Nat.blt b a with | true => b | false => a
theorem cost_eq {x y : Nat} (hx : lowerC x = true) (hy : lowerC y = true) : f__substitution_cost [.str [x], .str [y]] = some (.int (costN x y : Nat)) := by
  have hb : Nat.beq x y = decide (x = y) := by rw [Bool.eq_iff_iff, Nat.beq_eq, decide_eq_true_eq]
  by_cases h : x = y
  · subst h
    simp [f__substitution_cost, runFn, D__substitution_cost, dSeq, dIf, dT, d2, dVar, getS, slotsOf, blank, eqI, eqB, truthV, dRet, dConst, costN]
  · have hxy : (x == y) = false := beq_eq_false_iff_ne.mpr h
    simp [f__substitution_cost, runFn, D__substitution_cost, dSeq, dIf, dT, d2, dVar, getS, slotsOf, blank, eqI, eqB, truthV, dRet, dConst, dNil, dMeth, isT, lowerV, hx, hy, esNil, costN, h, hb, hxy]
theorem min_eq (a b : Nat) : minV [.int (a : Int), .int (b : Int)] = some (.int (minN a b : Nat)) := by
  have : Nat.blt b a = decide ((b : Int) < (a : Int)) := by rw [Bool.eq_iff_iff, Nat.blt_eq, decide_eq_true_eq]; omega
  show some (V.int (match decide ((b : Int) < (a : Int)) with | true => (b : Int) | false => (a : Int))) = _
  unfold minN
  rw [← this]
  cases Nat.blt b a <;> rfl
theorem seq_next {D₁ D₂ : Den} {σ σ' : St} (h : D₁ σ = some (.next, σ')) : dSeq D₁ D₂ σ = D₂ σ' := by unfold dSeq; rw [h]; rfl
theorem set_next {i : Nat} {d : St → Option V} {σ : St} {v : V} (h : d σ = some v) : dSet i d σ = some (.next, { σ with ρ := setS σ.ρ i v }) := by unfold dSet; rw [h]; rfl
theorem d2_of {f : V → V → Option V} {a b : St → Option V} {σ : St} {x y : V} (ha : a σ = some x) (hb : b σ = some y) : d2 f a b σ = f x y := by unfold d2; rw [ha, hb]; rfl
theorem call1_of {f : List V → Option V} {a : St → Option V} {σ : St} {x : V} (ha : a σ = some x) : dCall f (esCons a esNil) σ = f [x] := by unfold dCall esCons esNil; rw [ha]; rfl
theorem call2_of {f : List V → Option V} {a b : St → Option V} {σ : St} {x y : V} (ha : a σ = some x) (hb : b σ = some y) : dCall f (esCons a (esCons b esNil)) σ = f [x, y] := by unfold dCall esCons esNil; rw [ha, hb]; rfl

theorem ownItem_of {d : St → Option V} {σ : St} {l : List V} {i : V} (ho : σ.own = some l) (hd : d σ = some i) : dOwnItem d σ = itemV (.list l) i := by unfold dOwnItem; rw [ho, hd]; rfl
theorem ownSet_of {di d : St → Option V} {σ : St} {l : List V} {j : Nat} {v : V} (ho : σ.own = some l) (hd : d σ = some v) (hi : di σ = some (.int (j : Int))) (hj : j < l.length) (hl : l.length < 1000000) : dOwnSet di d σ = some (.next, { σ with own := some (l.set j v) }) := by
  unfold dOwnSet
  rw [hd, ho, hi]
  have : (decide (0 ≤ (j : Int)) && decide ((j : Int) < (l.length : Int)) && short l) = true := by
    simp only [short, Bool.and_eq_true, decide_eq_true_eq]; exact ⟨⟨by omega, by omega⟩, hl⟩
  simp only [Option.bind_some, this, Int.toNat_natCast]

noncomputable def cellSt (s1 s2 s3 s4 s6 : Option V) (a : List Nat) (x r d m : Nat) (s10 s11 s12 : Option V) (row : List V) : St :=
  ⟨[some (.str a), s1, s2, s3, s4, some (.int r), s6, some (.str [x]), some (.int d), some (.int m), s10, s11, s12], some row⟩

theorem cell_step {s1 s2 s3 s4 s6 s11 s12 : Option V} {a : List Nat} {x y r d m v j : Nat} {row : List V} (hx : lowerC x = true) (hy : lowerC y = true) (ha : a[j]? = some y) (hv : row[j]? = some (.int v)) (hj : j < 1000000) (hr : row.length < 1000000) :
    D_cell (cellSt s1 s2 s3 s4 s6 a x r d m (some (.int j)) s11 s12 row) = some (.next, cellSt s1 s2 s3 s4 s6 a x (minN (minN r v + 2) (d + costN x y)) v (match Nat.blt (minN (minN r v + 2) (d + costN x y)) m with | true => minN (minN r v + 2) (d + costN x y) | false => m) (some (.int j)) (some (.int ((d + costN x y : Nat) : Int))) (some (.int ((minN r v + 2 : Nat) : Int))) (row.set j (.int ((minN (minN r v + 2) (d + costN x y) : Nat) : Int)))) := by
  have hjl : j < row.length := (List.getElem?_eq_some_iff.mp hv).1
  have h1 : itemV (.str a) (.int (j : Int)) = some (.str [y]) := item_str (Int.natCast_nonneg j) (by omega) ha
  have h2 : itemV (.list row) (.int (j : Int)) = some (.int v) := item_list (Int.natCast_nonneg j) (by omega) hv
  have hc := cost_eq hx hy
  have hm1 := min_eq r v
  have hm2 := min_eq (minN r v + 2) (d + costN x y)
  have hlt : decide (((minN (minN r v + 2) (d + costN x y) : Nat) : Int) < (m : Int)) = Nat.blt (minN (minN r v + 2) (d + costN x y)) m := by rw [Bool.eq_iff_iff, Nat.blt_eq, decide_eq_true_eq]; omega
  generalize hR : minN (minN r v + 2) (d + costN x y) = R at *
  unfold D_cell cellSt
  rw [seq_next (set_next (v := .int ((d + costN x y : Nat) : Int)) ((d2_of rfl ((call2_of rfl ((d2_of rfl rfl).trans h1)).trans hc)).trans (by simp [addV])))]
  rw [seq_next (set_next (v := .int v) ((ownItem_of rfl rfl).trans h2))]
  rw [seq_next (set_next (v := .int ((minN r v + 2 : Nat) : Int)) ((d2_of ((call2_of rfl rfl).trans hm1) rfl).trans (by simp [addV])))]
  rw [seq_next (set_next (v := .int (R : Int)) ((call2_of rfl rfl).trans hm2))]
  rw [seq_next (ownSet_of (v := .int (R : Int)) rfl rfl rfl hjl hr)]
  unfold dSeq dIf dT
  rw [d2_of (x := .int R) (y := .int m) rfl rfl]
  simp only [ltI, Option.bind_some, truthV, hlt]
  cases Nat.blt R m <;> rfl


noncomputable def forceN {α : Type} (n : Nat) (k : Nat → α) : α := match n with | 0 => k 0 | m + 1 => k (Nat.succ m)
theorem forceN_eq {α : Type} (n : Nat) (k : Nat → α) : forceN n k = k n := by cases n <;> rfl
structure Last where
  p : Option V
  q : Option V
  s : Option V
structure Cells where
  row : List Nat
  d : Nat
  r : Nat
  m : Nat
  last : Last
noncomputable def cellsN (x : Nat) : List Nat → List Nat → Nat → Nat → Nat → Nat → Last → Option Cells
  | [], [], _, d, r, m, l => some ⟨[], d, r, m, l⟩
  | y :: as, v :: row, j, d, r, m, _ => forceN (d + costN x y) fun sub => forceN (minN r v + 2) fun i => forceN (minN i sub) fun r' => forceN (match Nat.blt r' m with | true => r' | false => m) fun m' =>
      (cellsN x as row (j + 1) v r' m' ⟨some (.int j), some (.int sub), some (.int i)⟩).map fun c => ⟨r' :: c.row, c.d, c.r, c.m, c.last⟩
  | _, _, _, _, _, _, _ => none
noncomputable def natV (n : Nat) : V := .int n

theorem cells_loop {s1 s2 s3 s4 s6 : Option V} {a : List Nat} {x : Nat} (hx : lowerC x = true) (hall : a.all lowerC = true) (hlen : a.length < 1000) : ∀ (as row : List Nat) (pre : List Nat) (done : List V) (d r m : Nat) (l : Last) (c : Cells), a = pre ++ as → done.length = pre.length → done.length + row.length < 1000000 → cellsN x as row pre.length d r m l = some c →
    dLoop (tgName 10) D_cell (rangeFrom (pre.length : Nat) as.length) (cellSt s1 s2 s3 s4 s6 a x r d m l.p l.q l.s (done ++ row.map natV)) = some (.next, cellSt s1 s2 s3 s4 s6 a x c.r c.d c.m c.last.p c.last.q c.last.s (done ++ c.row.map natV))
  | [], [], pre, done, d, r, m, l, c, ha, hd, hrl, h => by
    simp only [cellsN, Option.some.injEq] at h
    subst h
    rfl
  | [], _ :: _, pre, done, d, r, m, l, c, ha, hd, hrl, h => by simp [cellsN] at h
  | _ :: _, [], pre, done, d, r, m, l, c, ha, hd, hrl, h => by simp [cellsN] at h
  | y :: as, v :: row, pre, done, d, r, m, l, c, ha, hd, hrl, h => by
    simp only [cellsN, forceN_eq] at h
    cases h1 : cellsN x as row (pre.length + 1) v (minN (minN r v + 2) (d + costN x y)) (match Nat.blt (minN (minN r v + 2) (d + costN x y)) m with | true => minN (minN r v + 2) (d + costN x y) | false => m) ⟨some (.int (pre.length : Nat)), some (.int (d + costN x y : Nat)), some (.int (minN r v + 2 : Nat))⟩ with
    | none => rw [h1] at h; cases h
    | some c' =>
    rw [h1] at h
    simp only [Option.map_some, Option.some.injEq] at h
    subst h
    have hpl : pre.length < a.length := by rw [ha]; simp
    have hy : a[pre.length]? = some y := by rw [ha]; simp
    have hyl : lowerC y = true := List.all_eq_true.mp hall y (by rw [ha]; simp)
    have hrow : (done ++ (v :: row).map natV)[pre.length]? = some (.int (v : Int)) := by
      rw [← hd]; simp [natV]
    have hrl' : (done ++ (v :: row).map natV).length < 1000000 := by simpa using hrl
    have hset : ∀ w : V, (done ++ (v :: row).map natV).set pre.length w = (done ++ [w]) ++ row.map natV := fun w => by
      rw [← hd]; simp
    have ih := cells_loop (s1 := s1) (s2 := s2) (s3 := s3) (s4 := s4) (s6 := s6) hx hall hlen as row (pre ++ [y]) (done ++ [.int ((minN (minN r v + 2) (d + costN x y) : Nat) : Int)]) v (minN (minN r v + 2) (d + costN x y)) (match Nat.blt (minN (minN r v + 2) (d + costN x y)) m with | true => minN (minN r v + 2) (d + costN x y) | false => m)
      ⟨some (.int (pre.length : Nat)), some (.int (d + costN x y : Nat)), some (.int (minN r v + 2 : Nat))⟩ c' (by rw [ha]; simp) (by simp [hd]) (by simp at hrl ⊢; omega) (by rw [List.length_append]; exact h1)
    have hcast : (((pre ++ [y]).length : Nat) : Int) = (pre.length : Int) + 1 := by simp
    rw [hcast] at ih
    have hst := cell_step (s1 := s1) (s2 := s2) (s3 := s3) (s4 := s4) (s6 := s6) (s11 := l.q) (s12 := l.s) (r := r) (d := d) (m := m) hx hyl hy hrow (by omega) hrl'
    rw [hset] at hst
    show (tgName 10 (.int (pre.length : Int)) _).bind _ = _
    have htg : tgName 10 (.int (pre.length : Int)) (cellSt s1 s2 s3 s4 s6 a x r d m l.p l.q l.s (done ++ (v :: row).map natV)) = some (cellSt s1 s2 s3 s4 s6 a x r d m (some (.int (pre.length : Int))) l.q l.s (done ++ (v :: row).map natV)) := rfl
    rw [htg]
    simp only [Option.bind_some]
    rw [hst]
    simp only [Option.bind_some]
    rw [ih]
    simp [natV]

noncomputable def natsOf : List V → Option (List Nat)
  | [] => some []
  | .int (.ofNat n) :: r => (natsOf r).map (n :: ·)
  | _ => none
theorem natsOf_ : ∀ {l : List V} {ns : List Nat}, natsOf l = some ns → l = ns.map natV
  | [], ns, h => by cases h; rfl
  | v :: r, ns, h => by
    unfold natsOf at h
    split at h
    · rename_i e; cases e
    · rename_i n r' e
      cases e
      cases h1 : natsOf r with
      | none => rw [h1] at h; cases h
      | some ms => rw [h1] at h; cases h; rw [natsOf_ h1]; rfl
    · cases h
/-- the inner loop, told in short -/
noncomputable def nCells (σ : St) : Option (Fl × St) := match σ with
  | ⟨[some (.str a), s1, s2, s3, s4, some (.int (.ofNat r)), s6, some (.str [x]), some (.int (.ofNat d)), some (.int (.ofNat m)), s10, s11, s12], some row⟩ => (match lowerC x && a.all lowerC && Nat.blt a.length 1000 && Nat.blt row.length 1000, natsOf row with
    | true, some ns => (cellsN x a ns 0 d r m ⟨s10, s11, s12⟩).map fun c => (.next, cellSt s1 s2 s3 s4 s6 a x c.r c.d c.m c.last.p c.last.q c.last.s (c.row.map natV))
    | _, _ => none)
  | _ => none
theorem range_def (b : Int) : rangeV [.int b] = (match decide (b.natAbs < 1000000) with | true => some (rangeFrom 0 b.toNat) | false => none) := rfl
theorem len_def (l : List Nat) : lenV [.str l] = (match decide (l.length < 1000000) with | true => some (.int l.length) | false => none) := rfl
theorem range1_of {d : St → Option V} {σ : St} {x : V} (h : d σ = some x) : dRange (esCons d esNil) σ = rangeV [x] := by unfold dRange esCons esNil; rw [h]; rfl
theorem cells_ok {σ : St} {p : Fl × St} (h : nCells σ = some p) : D_cells σ = some p := by
  unfold nCells at h
  split at h <;> try (cases h; done)
  rename_i a s1 s2 s3 s4 r s6 x d m s10 s11 s12 row
  split at h <;> try (cases h; done)
  rename_i ns hchk hns
  simp only [Bool.and_eq_true, Nat.blt_eq] at hchk
  obtain ⟨⟨⟨hx, hall⟩, hlen⟩, hrow⟩ := hchk
  cases hc : cellsN x a ns 0 d r m ⟨s10, s11, s12⟩ with
  | none => rw [hc] at h; cases h
  | some c =>
  rw [hc] at h
  simp only [Option.map_some, Option.some.injEq] at h
  subst h
  have hr := natsOf_ hns
  have hloop := cells_loop (s1 := s1) (s2 := s2) (s3 := s3) (s4 := s4) (s6 := s6) hx hall hlen a ns [] [] d r m ⟨s10, s11, s12⟩ c rfl rfl (by rw [hr, List.length_map] at hrow; simp; omega) hc
  simp only [List.nil_append] at hloop
  rw [← hr] at hloop
  unfold D_cells dFor
  have hl : dRange (esCons (dCall lenV (esCons (dVar 0) esNil)) esNil) (⟨[some (.str a), s1, s2, s3, s4, some (.int (.ofNat r)), s6, some (.str [x]), some (.int (.ofNat d)), some (.int (.ofNat m)), s10, s11, s12], some row⟩ : St) = some (rangeFrom 0 a.length) := by
    have e1 : dCall lenV (esCons (dVar 0) esNil) (⟨[some (.str a), s1, s2, s3, s4, some (.int (.ofNat r)), s6, some (.str [x]), some (.int (.ofNat d)), some (.int (.ofNat m)), s10, s11, s12], some row⟩ : St) = some (.int (a.length : Int)) := by
      refine (call1_of (x := .str a) rfl).trans ?_
      rw [len_def, decide_eq_true (show a.length < 1000000 by omega)]
    rw [range1_of e1, range_def, decide_eq_true (show (a.length : Int).natAbs < 1000000 by omega)]
    simp
  rw [hl]
  exact hloop

theorem GoodR.less {W : Wd} {k : Nat} {S : Sx} {run : Env → Sem Flow} {D D' : Den} (h : ∀ σ p, D' σ = some p → D σ = some p) (g : GoodR W k S run D) : GoodR W k S run D' := fun A C oa s σ φ σ' hA hC R hd => g A C oa s σ φ σ' hA hC R (h _ _ hd)
theorem cells_good {W : Wd} {k : Nat} {S : Sx} {st : Stmt} (g : GoodS W k S st D_cells) : GoodS W k S st nCells := GoodR.less (fun _ _ => cells_ok) g


end
end Lite
namespace Lite
section
open PySem PySem.Calls PyProof.Rows PySem.W

noncomputable def D_mtest : St → Option Bool := tAnd (dT (d2 neI (dVar 0) (dConst (.str [])))) (tAnd (dT (d2 neI (dVar 1) (dConst (.str [])))) tTrue)
noncomputable def D_mbody : Den := (dSeq (dSet 3 (dCall f__strcoll (esCons (d2 itemV (dVar 0) (dConst (.int 0))) (esCons (d2 itemV (dVar 1) (dConst (.int 0))) esNil)))) (dSeq (dIf (dT (d2 leI (dVar 3) (dConst (.int 0)))) (dSeq (dSet 2 (d2 addV (dVar 2) (d2 itemV (dVar 0) (dConst (.int 0))))) dNil) dNil) (dSeq (dIf (dT (d2 geI (dVar 3) (dConst (.int 0)))) (dSeq (dSet 2 (d2 addV (dVar 2) (d2 itemV (dVar 1) (dConst (.int 0))))) dNil) dNil) (dSeq (dSet 0 (vIf (dT (d2 leI (dVar 3) (dConst (.int 0)))) (dCut (dVar 0) (dConst (.int 1)) (dConst .none)) (dVar 0))) (dSeq (dSet 1 (vIf (dT (d2 geI (dVar 3) (dConst (.int 0)))) (dCut (dVar 1) (dConst (.int 1)) (dConst .none)) (dVar 1))) dNil)))))
noncomputable def D_mloop : Den := dWhile D_mtest D_mbody 100

noncomputable def mSt (a b m : List Nat) (w : Option V) : St := ⟨[some (.str a), some (.str b), some (.str m), w], none⟩
theorem lt_one (x y : Nat) : decide (([x] : List Nat) < [y]) = Nat.blt x y := by
  rw [Bool.eq_iff_iff, Nat.blt_eq, decide_eq_true_eq, List.cons_lt_cons_iff]
  simp
theorem coll_eq (x y : Nat) : f__strcoll [.str [x], .str [y]] = some (.int (b2V (Nat.blt y x) - b2V (Nat.blt x y))) := by
  have e : f__strcoll [.str [x], .str [y]] = some (.int (b2V (decide (([y] : List Nat) < [x])) - b2V (decide (([x] : List Nat) < [y])))) := rfl
  rw [e, lt_one, lt_one]
theorem add_strs {a b : List Nat} (h : a.length + b.length < 100000) : addV (.str a) (.str b) = some (.str (a ++ b)) := by
  show (if a.length + b.length < 100000 then _ else _) = _
  rw [if_pos h]
theorem cutV_def (l : List Nat) (lo hi : Option Int) : cutV (.str l) lo hi = (match decide (l.length < 1000000) with | true => (cutS l lo hi).map .str | false => none) := rfl
theorem cutS_def (l : List Nat) (i : Int) : cutS l (some i) none = (match decide (0 ≤ i) && decide (i ≤ (l.length : Int)) with | true => some (l.drop i.toNat) | false => none) := rfl
theorem cut_one {d : St → Option V} {σ : St} {x : Nat} {a : List Nat} (h : d σ = some (.str (x :: a))) (hl : a.length < 10000) : dCut d (dConst (.int 1)) (dConst .none) σ = some (.str a) := by
  have e : dCut d (dConst (.int 1)) (dConst .none) σ = cutV (.str (x :: a)) (some 1) none := by unfold dCut; rw [h]; rfl
  rw [e, cutV_def, cutS_def, decide_eq_true (show (x :: a).length < 1000000 by simp; omega), decide_eq_true (show (0 : Int) ≤ 1 by decide), decide_eq_true (show (1 : Int) ≤ ((x :: a).length : Int) by simp; omega)]
  rfl
theorem item_zero (x : Nat) (a : List Nat) : itemV (.str (x :: a)) (.int 0) = some (.str [x]) := item_str (by decide) (by decide) rfl
theorem if_true {t : St → Option Bool} {D₁ D₂ : Den} {σ : St} (h : t σ = some true) : dIf t D₁ D₂ σ = D₁ σ := by unfold dIf; rw [h]; rfl
theorem if_false {t : St → Option Bool} {D₁ D₂ : Den} {σ : St} (h : t σ = some false) : dIf t D₁ D₂ σ = D₂ σ := by unfold dIf; rw [h]; rfl
theorem vif_true {t : St → Option Bool} {a b : St → Option V} {σ : St} (h : t σ = some true) : vIf t a b σ = a σ := by unfold vIf; rw [h]; rfl
theorem vif_false {t : St → Option Bool} {a b : St → Option V} {σ : St} (h : t σ = some false) : vIf t a b σ = b σ := by unfold vIf; rw [h]; rfl

theorem m_less {x y : Nat} {a b m : List Nat} {w : Option V} (h1 : Nat.blt x y = true) (h2 : Nat.blt y x = false) (hm : m.length < 10000) (ha : a.length < 10000) : D_mbody (mSt (x :: a) (y :: b) m w) = some (.next, mSt a (y :: b) (m ++ [x]) (some (.int (-1)))) := by
  unfold D_mbody mSt
  rw [seq_next (set_next (v := .int (-1)) ((call2_of ((d2_of rfl rfl).trans (item_zero _ _)) ((d2_of rfl rfl).trans (item_zero _ _))).trans ((coll_eq x y).trans (by rw [h1, h2]; rfl))))]
  rw [seq_next ((if_true rfl).trans (seq_next (set_next ((d2_of rfl ((d2_of rfl rfl).trans (item_zero _ _))).trans (add_strs (by simp; omega))))))]
  rw [seq_next (if_false rfl)]
  rw [seq_next (set_next ((vif_true rfl).trans (cut_one rfl ha)))]
  rw [seq_next (set_next (vif_false rfl))]
  rfl
theorem m_more {x y : Nat} {a b m : List Nat} {w : Option V} (h1 : Nat.blt x y = false) (h2 : Nat.blt y x = true) (hm : m.length < 10000) (hb : b.length < 10000) : D_mbody (mSt (x :: a) (y :: b) m w) = some (.next, mSt (x :: a) b (m ++ [y]) (some (.int 1))) := by
  unfold D_mbody mSt
  rw [seq_next (set_next (v := .int 1) ((call2_of ((d2_of rfl rfl).trans (item_zero _ _)) ((d2_of rfl rfl).trans (item_zero _ _))).trans ((coll_eq x y).trans (by rw [h1, h2]; rfl))))]
  rw [seq_next (if_false rfl)]
  rw [seq_next ((if_true rfl).trans (seq_next (set_next ((d2_of rfl ((d2_of rfl rfl).trans (item_zero _ _))).trans (add_strs (by simp; omega))))))]
  rw [seq_next (set_next (vif_false rfl))]
  rw [seq_next (set_next ((vif_true rfl).trans (cut_one rfl hb)))]
  rfl
theorem m_same {x y : Nat} {a b m : List Nat} {w : Option V} (h1 : Nat.blt x y = false) (h2 : Nat.blt y x = false) (hm : m.length < 10000) (ha : a.length < 10000) (hb : b.length < 10000) : D_mbody (mSt (x :: a) (y :: b) m w) = some (.next, mSt a b (m ++ [x] ++ [y]) (some (.int 0))) := by
  unfold D_mbody mSt
  rw [seq_next (set_next (v := .int 0) ((call2_of ((d2_of rfl rfl).trans (item_zero _ _)) ((d2_of rfl rfl).trans (item_zero _ _))).trans ((coll_eq x y).trans (by rw [h1, h2]; rfl))))]
  rw [seq_next ((if_true rfl).trans (seq_next (set_next ((d2_of rfl ((d2_of rfl rfl).trans (item_zero _ _))).trans (add_strs (by simp; omega))))))]
  rw [seq_next ((if_true rfl).trans (seq_next (set_next ((d2_of rfl ((d2_of rfl rfl).trans (item_zero _ _))).trans (add_strs (by simp; omega))))))]
  rw [seq_next (set_next ((vif_true rfl).trans (cut_one rfl ha)))]
  rw [seq_next (set_next ((vif_true rfl).trans (cut_one rfl hb)))]
  rfl

structure Mg where
  a : List Nat
  b : List Nat
  m : List Nat
  w : Option V
noncomputable def mergeW : Nat → List Nat → List Nat → List Nat → Option V → Option Mg
  | 0, _, _, _, _ => none
  | _ + 1, [], b, m, w => some ⟨[], b, m, w⟩
  | _ + 1, x :: a, [], m, w => some ⟨x :: a, [], m, w⟩
  | n + 1, x :: a, y :: b, m, _ => match Nat.blt x y, Nat.blt y x with
    | true, false => mergeW n a (y :: b) (m ++ [x]) (some (.int (-1)))
    | false, true => mergeW n (x :: a) b (m ++ [y]) (some (.int 1))
    | false, false => mergeW n a b (m ++ [x] ++ [y]) (some (.int 0))
    | true, true => none
theorem mtest_nil (b m : List Nat) (w : Option V) : D_mtest (mSt [] b m w) = some false := rfl
theorem mtest_nil2 (x : Nat) (a m : List Nat) (w : Option V) : D_mtest (mSt (x :: a) [] m w) = some false := rfl
theorem mtest_cons (x y : Nat) (a b m : List Nat) (w : Option V) : D_mtest (mSt (x :: a) (y :: b) m w) = some true := rfl
theorem merge_loop : ∀ (n : Nat) (a b m : List Nat) (w : Option V) (g : Mg), a.length + b.length + m.length < 10000 → mergeW n a b m w = some g → dWhile D_mtest D_mbody n (mSt a b m w) = some (.next, mSt g.a g.b g.m g.w)
  | 0, _, _, _, _, _, _, h => by cases h
  | n + 1, [], b, m, w, g, _, h => by
    cases h
    unfold dWhile
    rw [mtest_nil]; rfl
  | n + 1, x :: a, [], m, w, g, _, h => by
    cases h
    unfold dWhile
    rw [mtest_nil2]; rfl
  | n + 1, x :: a, y :: b, m, w, g, hl, h => by
    simp only [List.length_cons] at hl
    unfold mergeW at h
    unfold dWhile
    rw [mtest_cons]
    simp only [Option.bind_some]
    cases h1 : Nat.blt x y <;> cases h2 : Nat.blt y x <;> rw [h1, h2] at h <;> try (cases h; done)
    · rw [m_same h1 h2 (by omega) (by omega) (by omega)]
      exact merge_loop n a b _ _ g (by simp; omega) h
    · rw [m_more h1 h2 (by omega) (by omega)]
      exact merge_loop n (x :: a) b _ _ g (by simp; omega) h
    · rw [m_less h1 h2 (by omega) (by omega)]
      exact merge_loop n a (y :: b) _ _ g (by simp; omega) h
noncomputable def nMerge (σ : St) : Option (Fl × St) := match σ with
  | ⟨[some (.str a), some (.str b), some (.str m), w], none⟩ => (match Nat.blt (a.length + b.length + m.length) 10000 with
    | true => (mergeW 100 a b m w).map fun g => (.next, mSt g.a g.b g.m g.w)
    | false => none)
  | _ => none
theorem merge_ok {σ : St} {p : Fl × St} (h : nMerge σ = some p) : D_mloop σ = some p := by
  unfold nMerge at h
  split at h <;> try (cases h; done)
  rename_i a b m w
  split at h <;> try (cases h; done)
  rename_i hl
  cases hg : mergeW 100 a b m w with
  | none => rw [hg] at h; cases h
  | some g =>
  rw [hg] at h
  cases h
  exact merge_loop 100 a b m w g (by simpa [Nat.blt_eq] using hl) hg
theorem merge_good {W : Wd} {k : Nat} {S : Sx} {st : Stmt} (g : GoodS W k S st D_mloop) : GoodS W k S st nMerge := GoodR.less (fun _ _ => merge_ok) g


end
end Lite
namespace Lite
section
open PySem PySem.Calls PyProof.Rows PySem.W

noncomputable def S__law_drawn : Sx := ⟨scopeAt 17, ["script", "place", "x", "great", "small", "one", "other"], "base"⟩
noncomputable def D__law_drawn : Den := (dSeq (dOwn (dList (esCons (dConst (.int 5)) (esCons (dConst (.int 0)) (esCons (dConst (.int 0)) esNil))))) (dSeq (dFor (dEnum (esCons (dCut (dVar 0) (dConst .none) (dConst (.int 3))) esNil)) (tgTup [1, 2]) (dSeq (dOwnSet (dVar 1) (d2 addV (dOwnItem (dVar 1)) (d2 modV (dVar 2) (dConst (.int 1000000))))) dNil)) (dSeq (dSet 3 (d2 addV (dConst (.int 2)) (d2 modV (dOwnItem (dConst (.int 0))) (dConst (.int 19))))) (dSeq (dSet 4 (d2 addV (dConst (.int 1)) (d2 modV (dOwnItem (dConst (.int 1))) (d2 subV (dVar 3) (dConst (.int 1)))))) (dSeq (dSet 5 (dVar 3)) (dSeq (dSet 6 (dVar 4)) (dSeq (dWhile (dT (d2 neI (dVar 6) (dConst (.int 0)))) (dSeq (dSwap [6, 5] (dTup (esCons (dVar 6) (esCons (d2 modV (dVar 5) (dVar 6)) esNil)))) dNil) 30) (dSeq (dRet (dTup (esCons (d2 divV (dVar 3) (dVar 5)) (esCons (d2 divV (dVar 4) (dVar 5)) (esCons (dOwnItem (dConst (.int 2))) esNil))))) dNil))))))))
noncomputable def f__law_drawn : List V → Option V := runFn D__law_drawn 1 6
theorem hS__law_drawn : SxOk S__law_drawn := ⟨by decide +kernel, by decide +kernel⟩
theorem b__law_drawn {W : Wd} (hW : WOk W) : GoodB W 0 S__law_drawn (bodyAt 17) D__law_drawn := by
  have hS := hS__law_drawn
  refine body_cons ?_ ?_
  · refine st_own hS (by decide +kernel) (by decide +kernel) ?_
    · refine new_list ?_
      · refine es_cons ?_ ?_
        · exact good_int
        · refine es_cons ?_ ?_
          · exact good_int
          · refine es_cons ?_ ?_
            · exact good_int
            · exact es_nil
  · refine body_cons ?_ ?_
    · refine st_for ?_ ?_ ?_
      · refine it_enum hW.ok hW.b_enumerate (by decide +kernel) ?_
        · refine es_cons ?_ ?_
          · refine good_cut ?_ ?_ ?_
            · exact good_var 0 (by decide +kernel) (by decide +kernel) (by decide +kernel)
            · rfl
            · show GoodE _ _ _ _ _
              exact good_int
          · exact es_nil
      · exact tg_tup (.cons (tgt_name (x := "place") (i := 1) (pos := ⟨84, 8, 84, 13⟩) hS (by decide +kernel)) (.cons (tgt_name (x := "x") (i := 2) (pos := ⟨84, 15, 84, 16⟩) hS (by decide +kernel)) .nil))
      · refine body_cons ?_ ?_
        · refine st_ownSet (by decide +kernel) ?_ ?_ (by decide +kernel) (by decide +kernel)
          · exact good_var 1 (by decide +kernel) (by decide +kernel) (by decide +kernel)
          · refine good_bin (op_add _) ?_ ?_
            · refine good_ownItem (by decide +kernel) ?_ (by decide +kernel) (by decide +kernel)
              · exact good_var 1 (by decide +kernel) (by decide +kernel) (by decide +kernel)
            · refine good_bin (op_mod _) ?_ ?_
              · exact good_var 2 (by decide +kernel) (by decide +kernel) (by decide +kernel)
              · exact good_int
        · exact body_nil
    · refine body_cons ?_ ?_
      · refine st_assign 3 hS (by decide +kernel) ?_
        · refine good_bin (op_add _) ?_ ?_
          · exact good_int
          · refine good_bin (op_mod _) ?_ ?_
            · refine good_ownItem (by decide +kernel) ?_ (by decide +kernel) (by decide +kernel)
              · exact good_int
            · exact good_int
      · refine body_cons ?_ ?_
        · refine st_assign 4 hS (by decide +kernel) ?_
          · refine good_bin (op_add _) ?_ ?_
            · exact good_int
            · refine good_bin (op_mod _) ?_ ?_
              · refine good_ownItem (by decide +kernel) ?_ (by decide +kernel) (by decide +kernel)
                · exact good_int
              · refine good_bin (op_sub _) ?_ ?_
                · exact good_var 3 (by decide +kernel) (by decide +kernel) (by decide +kernel)
                · exact good_int
        · refine body_cons ?_ ?_
          · refine st_assign 5 hS (by decide +kernel) ?_
            · exact good_var 3 (by decide +kernel) (by decide +kernel) (by decide +kernel)
          · refine body_cons ?_ ?_
            · refine st_assign 6 hS (by decide +kernel) ?_
              · exact good_var 4 (by decide +kernel) (by decide +kernel) (by decide +kernel)
            · refine body_cons ?_ ?_
              · refine st_while 30 ?_ ?_
                · refine test_cmp (op_ne _) ?_ ?_
                  · exact good_var 6 (by decide +kernel) (by decide +kernel) (by decide +kernel)
                  · exact good_int
                · refine body_cons ?_ ?_
                  · refine st_swap ["one", "other"] (.cons (tgt_bind hS (by decide +kernel)) (.cons (tgt_bind hS (by decide +kernel)) .nil)) ?_ (by intro env h; cases env; cases h; kernel_rfl)
                    · refine good_tup ?_
                      · refine es_cons ?_ ?_
                        · exact good_var 6 (by decide +kernel) (by decide +kernel) (by decide +kernel)
                        · refine es_cons ?_ ?_
                          · refine good_bin (op_mod _) ?_ ?_
                            · exact good_var 5 (by decide +kernel) (by decide +kernel) (by decide +kernel)
                            · exact good_var 6 (by decide +kernel) (by decide +kernel) (by decide +kernel)
                          · exact es_nil
                  · exact body_nil
              · refine body_cons ?_ ?_
                · refine st_ret ?_
                  · refine good_tup ?_
                    · refine es_cons ?_ ?_
                      · refine good_bin (op_div _) ?_ ?_
                        · exact good_var 3 (by decide +kernel) (by decide +kernel) (by decide +kernel)
                        · exact good_var 5 (by decide +kernel) (by decide +kernel) (by decide +kernel)
                      · refine es_cons ?_ ?_
                        · refine good_bin (op_div _) ?_ ?_
                          · exact good_var 4 (by decide +kernel) (by decide +kernel) (by decide +kernel)
                          · exact good_var 5 (by decide +kernel) (by decide +kernel) (by decide +kernel)
                        · refine es_cons ?_ ?_
                          · refine good_ownItem (by decide +kernel) ?_ (by decide +kernel) (by decide +kernel)
                            · exact good_int
                          · exact es_nil
                · exact body_nil
theorem ok__law_drawn {W : Wd} (hW : WOk W) : FnOk W 1 "_law_drawn" f__law_drawn := fn_at hW 9 17 _ ["script"] 1 6 hS__law_drawn (b__law_drawn hW) (by kernel_rfl) (by kernel_rfl) (by kernel_rfl) (by decide +kernel) rfl (by intro pm code doc rs h; match rs, h with | [_], _ => kernel_rfl)

noncomputable def S__law_values : Sx := ⟨scopeAt 18, ["great", "small", "whole", "total", "k"], "values"⟩
noncomputable def D__law_values : Den := (dSeq (dOwn (dList esNil)) (dSeq (dFor (dIter (dTup (esCons (dN (dList (esCons (d1 negV (dConst (.int 1))) (esCons (dConst (.int 1)) esNil)))) (esCons (dN (dList (esCons (dConst (.int 1)) (esCons (dConst (.int 1)) esNil)))) (esCons (dN (dList (esCons (dConst (.int 1)) (esCons (dConst (.int 1)) (esCons (dConst (.int 1)) esNil))))) (esCons (dN (dList (esCons (dConst (.int 1)) (esCons (dConst (.int 0)) (esCons (dConst (.int 1)) esNil))))) (esCons (dN (dList (esCons (dConst (.int 1)) (esCons (dConst (.int 1)) (esCons (dConst (.int 1)) (esCons (dConst (.int 1)) (esCons (dConst (.int 1)) esNil))))))) (esCons (dN (dList (esCons (dConst (.int 1)) (esCons (d1 negV (dConst (.int 1))) (esCons (dConst (.int 1)) esNil))))) esNil)))))))) (tgName 2) (dSeq (dSet 3 (dConst (.int 0))) (dSeq (dFor (dRange (esCons (dCall lenV (esCons (dVar 2) esNil)) esNil)) (tgName 4) (dSeq (dSet 3 (dCall f_add (esCons (dVar 3) (esCons (dCall f_mul (esCons (d2 itemV (dVar 2) (dVar 4)) (esCons (dCall f_mul (esCons (dCall f_ipow (esCons (dVar 0) (esCons (dVar 4) esNil))) (esCons (dCall f_ipow (esCons (dVar 1) (esCons (d2 subV (d2 subV (dCall lenV (esCons (dVar 2) esNil)) (dConst (.int 1))) (dVar 4)) esNil))) esNil))) esNil))) esNil)))) dNil)) (dSeq (dApp (dVar 3)) dNil)))) (dSeq dRetOwn dNil)))
noncomputable def f__law_values : List V → Option V := runFn D__law_values 2 3
theorem hS__law_values : SxOk S__law_values := ⟨by decide +kernel, by decide +kernel⟩
theorem b__law_values {W : Wd} (hW : WOk W) (ok_add : FnOk W 1 "add" f_add) (ok_ipow : FnOk W 1 "ipow" f_ipow) (ok_mul : FnOk W 1 "mul" f_mul) : GoodB W 1 S__law_values (bodyAt 18) D__law_values := by
  have hS := hS__law_values
  refine body_cons ?_ ?_
  · refine st_own hS (by decide +kernel) (by decide +kernel) ?_
    · refine new_list ?_
      · exact es_nil
  · refine body_cons ?_ ?_
    · refine st_for ?_ ?_ ?_
      · refine it_val ?_
        · refine good_tup ?_
          · refine es_cons ?_ ?_
            · refine GoodN.e ?_
              · refine new_list ?_
                · refine es_cons ?_ ?_
                  · refine good_neg ?_
                    · exact good_int
                  · refine es_cons ?_ ?_
                    · exact good_int
                    · exact es_nil
            · refine es_cons ?_ ?_
              · refine GoodN.e ?_
                · refine new_list ?_
                  · refine es_cons ?_ ?_
                    · exact good_int
                    · refine es_cons ?_ ?_
                      · exact good_int
                      · exact es_nil
              · refine es_cons ?_ ?_
                · refine GoodN.e ?_
                  · refine new_list ?_
                    · refine es_cons ?_ ?_
                      · exact good_int
                      · refine es_cons ?_ ?_
                        · exact good_int
                        · refine es_cons ?_ ?_
                          · exact good_int
                          · exact es_nil
                · refine es_cons ?_ ?_
                  · refine GoodN.e ?_
                    · refine new_list ?_
                      · refine es_cons ?_ ?_
                        · exact good_int
                        · refine es_cons ?_ ?_
                          · exact good_int
                          · refine es_cons ?_ ?_
                            · exact good_int
                            · exact es_nil
                  · refine es_cons ?_ ?_
                    · refine GoodN.e ?_
                      · refine new_list ?_
                        · refine es_cons ?_ ?_
                          · exact good_int
                          · refine es_cons ?_ ?_
                            · exact good_int
                            · refine es_cons ?_ ?_
                              · exact good_int
                              · refine es_cons ?_ ?_
                                · exact good_int
                                · refine es_cons ?_ ?_
                                  · exact good_int
                                  · exact es_nil
                    · refine es_cons ?_ ?_
                      · refine GoodN.e ?_
                        · refine new_list ?_
                          · refine es_cons ?_ ?_
                            · exact good_int
                            · refine es_cons ?_ ?_
                              · refine good_neg ?_
                                · exact good_int
                              · refine es_cons ?_ ?_
                                · exact good_int
                                · exact es_nil
                      · exact es_nil
      · exact tg_name hS (by decide +kernel)
      · refine body_cons ?_ ?_
        · refine st_assign 3 hS (by decide +kernel) ?_
          · exact good_int
        · refine body_cons ?_ ?_
          · refine st_for ?_ ?_ ?_
            · refine it_range hW.ok hW.b_range (by decide +kernel) ?_
              · refine es_cons ?_ ?_
                · refine good_bi hW.ok hW.b_len (op_len _) (by decide +kernel) ?_
                  · refine es_cons ?_ ?_
                    · exact good_var 2 (by decide +kernel) (by decide +kernel) (by decide +kernel)
                    · exact es_nil
                · exact es_nil
            · exact tg_name hS (by decide +kernel)
            · refine body_cons ?_ ?_
              · refine st_assign 3 hS (by decide +kernel) ?_
                · refine good_call hW.ok ok_add (by decide +kernel) (by decide +kernel) ?_
                  · refine es_cons ?_ ?_
                    · exact good_var 3 (by decide +kernel) (by decide +kernel) (by decide +kernel)
                    · refine es_cons ?_ ?_
                      · refine good_call hW.ok ok_mul (by decide +kernel) (by decide +kernel) ?_
                        · refine es_cons ?_ ?_
                          · refine good_item ?_ ?_
                            · exact good_var 2 (by decide +kernel) (by decide +kernel) (by decide +kernel)
                            · exact good_var 4 (by decide +kernel) (by decide +kernel) (by decide +kernel)
                          · refine es_cons ?_ ?_
                            · refine good_call hW.ok ok_mul (by decide +kernel) (by decide +kernel) ?_
                              · refine es_cons ?_ ?_
                                · refine good_call hW.ok ok_ipow (by decide +kernel) (by decide +kernel) ?_
                                  · refine es_cons ?_ ?_
                                    · exact good_var 0 (by decide +kernel) (by decide +kernel) (by decide +kernel)
                                    · refine es_cons ?_ ?_
                                      · exact good_var 4 (by decide +kernel) (by decide +kernel) (by decide +kernel)
                                      · exact es_nil
                                · refine es_cons ?_ ?_
                                  · refine good_call hW.ok ok_ipow (by decide +kernel) (by decide +kernel) ?_
                                    · refine es_cons ?_ ?_
                                      · exact good_var 1 (by decide +kernel) (by decide +kernel) (by decide +kernel)
                                      · refine es_cons ?_ ?_
                                        · refine good_bin (op_sub _) ?_ ?_
                                          · refine good_bin (op_sub _) ?_ ?_
                                            · refine good_bi hW.ok hW.b_len (op_len _) (by decide +kernel) ?_
                                              · refine es_cons ?_ ?_
                                                · exact good_var 2 (by decide +kernel) (by decide +kernel) (by decide +kernel)
                                                · exact es_nil
                                            · exact good_int
                                          · exact good_var 4 (by decide +kernel) (by decide +kernel) (by decide +kernel)
                                        · exact es_nil
                                  · exact es_nil
                            · exact es_nil
                      · exact es_nil
              · exact body_nil
          · refine body_cons ?_ ?_
            · refine st_app (by decide +kernel) ?_ (by decide +kernel) (by decide +kernel) (by decide +kernel) (hi := by kernel_rfl)
              · exact good_var 3 (by decide +kernel) (by decide +kernel) (by decide +kernel)
            · exact body_nil
    · refine body_cons ?_ ?_
      · exact st_retOwn (by decide +kernel) (by decide +kernel) (by decide +kernel)
      · exact body_nil
theorem ok__law_values {W : Wd} (hW : WOk W) : FnOk W 2 "_law_values" f__law_values := fn_at hW 10 18 _ ["great", "small"] 2 3 hS__law_values (b__law_values hW (ok_add hW) (ok_ipow hW) (ok_mul hW)) (by kernel_rfl) (by kernel_rfl) (by kernel_rfl) (by decide +kernel) rfl (by intro pm code doc rs h; match rs, h with | [_, _], _ => kernel_rfl)

noncomputable def S__law_primes : Sx := ⟨scopeAt 19, ["number", "part"], "found"⟩
noncomputable def D__law_primes : Den := (dSeq (dOwn (dList esNil)) (dSeq (dSet 1 (dConst (.int 2))) (dSeq (dWhile (dT (d2 leI (d2 mulV (dVar 1) (dVar 1)) (dVar 0))) (dSeq (dIf (dT (d2 eqI (d2 modV (dVar 0) (dVar 1)) (dConst (.int 0)))) (dSeq (dApp (dVar 1)) (dSeq (dSet 0 (d2 divV (dVar 0) (dVar 1))) dNil)) (dSeq (dIf (dT (d2 eqI (dVar 1) (dConst (.int 2)))) (dSeq (dSet 1 (dConst (.int 3))) dNil) (dSeq (dSet 1 (d2 addV (dVar 1) (dConst (.int 2)))) dNil)) dNil)) dNil) 1000) (dSeq (dIf (dT (d2 gtI (dVar 0) (dConst (.int 1)))) (dSeq (dApp (dVar 0)) dNil) dNil) (dSeq dRetOwn dNil)))))
noncomputable def f__law_primes : List V → Option V := runFn D__law_primes 1 1
theorem hS__law_primes : SxOk S__law_primes := ⟨by decide +kernel, by decide +kernel⟩
theorem b__law_primes {W : Wd} (hW : WOk W) : GoodB W 0 S__law_primes (bodyAt 19) D__law_primes := by
  have hS := hS__law_primes
  refine body_cons ?_ ?_
  · refine st_own hS (by decide +kernel) (by decide +kernel) ?_
    · refine new_list ?_
      · exact es_nil
  · refine body_cons ?_ ?_
    · refine st_assign 1 hS (by decide +kernel) ?_
      · exact good_int
    · refine body_cons ?_ ?_
      · refine st_while 1000 ?_ ?_
        · refine test_cmp (op_le _) ?_ ?_
          · refine good_bin (op_mul _) ?_ ?_
            · exact good_var 1 (by decide +kernel) (by decide +kernel) (by decide +kernel)
            · exact good_var 1 (by decide +kernel) (by decide +kernel) (by decide +kernel)
          · exact good_var 0 (by decide +kernel) (by decide +kernel) (by decide +kernel)
        · refine body_cons ?_ ?_
          · refine st_if ?_ ?_ ?_
            · refine test_cmp (op_eq _) ?_ ?_
              · refine good_bin (op_mod _) ?_ ?_
                · exact good_var 0 (by decide +kernel) (by decide +kernel) (by decide +kernel)
                · exact good_var 1 (by decide +kernel) (by decide +kernel) (by decide +kernel)
              · exact good_int
            · refine body_cons ?_ ?_
              · refine st_app (by decide +kernel) ?_ (by decide +kernel) (by decide +kernel) (by decide +kernel) (hi := by kernel_rfl)
                · exact good_var 1 (by decide +kernel) (by decide +kernel) (by decide +kernel)
              · refine body_cons ?_ ?_
                · refine st_assign 0 hS (by decide +kernel) ?_
                  · refine good_bin (op_div _) ?_ ?_
                    · exact good_var 0 (by decide +kernel) (by decide +kernel) (by decide +kernel)
                    · exact good_var 1 (by decide +kernel) (by decide +kernel) (by decide +kernel)
                · exact body_nil
            · refine body_cons ?_ ?_
              · refine st_if ?_ ?_ ?_
                · refine test_cmp (op_eq _) ?_ ?_
                  · exact good_var 1 (by decide +kernel) (by decide +kernel) (by decide +kernel)
                  · exact good_int
                · refine body_cons ?_ ?_
                  · refine st_assign 1 hS (by decide +kernel) ?_
                    · exact good_int
                  · exact body_nil
                · refine body_cons ?_ ?_
                  · refine st_assign 1 hS (by decide +kernel) ?_
                    · refine good_bin (op_add _) ?_ ?_
                      · exact good_var 1 (by decide +kernel) (by decide +kernel) (by decide +kernel)
                      · exact good_int
                  · exact body_nil
              · exact body_nil
          · exact body_nil
      · refine body_cons ?_ ?_
        · refine st_if ?_ ?_ ?_
          · refine test_cmp (op_gt _) ?_ ?_
            · exact good_var 0 (by decide +kernel) (by decide +kernel) (by decide +kernel)
            · exact good_int
          · refine body_cons ?_ ?_
            · refine st_app (by decide +kernel) ?_ (by decide +kernel) (by decide +kernel) (by decide +kernel) (hi := by kernel_rfl)
              · exact good_var 0 (by decide +kernel) (by decide +kernel) (by decide +kernel)
            · exact body_nil
          · exact body_nil
        · refine body_cons ?_ ?_
          · exact st_retOwn (by decide +kernel) (by decide +kernel) (by decide +kernel)
          · exact body_nil
theorem ok__law_primes {W : Wd} (hW : WOk W) : FnOk W 1 "_law_primes" f__law_primes := fn_at hW 11 19 _ ["number"] 1 1 hS__law_primes (b__law_primes hW) (by kernel_rfl) (by kernel_rfl) (by kernel_rfl) (by decide +kernel) rfl (by intro pm code doc rs h; match rs, h with | [_], _ => kernel_rfl)

noncomputable def S__law_merged : Sx := ⟨scopeAt 20, ["one", "other", "made", "way"], ""⟩
noncomputable def D__law_merged : Den := (dSeq (dSet 2 (dConst (.str []))) (dSeq nMerge (dSeq (dRet (d2 addV (d2 addV (dVar 2) (dVar 0)) (dVar 1))) dNil)))
noncomputable def f__law_merged : List V → Option V := runFn D__law_merged 2 2
theorem hS__law_merged : SxOk S__law_merged := ⟨by decide +kernel, by decide +kernel⟩
theorem b__law_merged {W : Wd} (hW : WOk W) (ok__strcoll : FnOk W 1 "_strcoll" f__strcoll) : GoodB W 1 S__law_merged (bodyAt 20) D__law_merged := by
  have hS := hS__law_merged
  refine body_cons ?_ ?_
  · refine st_assign 2 hS (by decide +kernel) ?_
    · exact good_str [] (by decide +kernel)
  · refine body_cons ?_ ?_
    · refine merge_good ?_
      · refine st_while 100 ?_ ?_
        · refine test_and ?_ ?_
          · refine test_cmp (op_ne _) ?_ ?_
            · exact good_var 0 (by decide +kernel) (by decide +kernel) (by decide +kernel)
            · exact good_str [] (by decide +kernel)
          · refine test_and ?_ ?_
            · refine test_cmp (op_ne _) ?_ ?_
              · exact good_var 1 (by decide +kernel) (by decide +kernel) (by decide +kernel)
              · exact good_str [] (by decide +kernel)
            · exact test_and_nil
        · refine body_cons ?_ ?_
          · refine st_assign 3 hS (by decide +kernel) ?_
            · refine good_call hW.ok ok__strcoll (by decide +kernel) (by decide +kernel) ?_
              · refine es_cons ?_ ?_
                · refine good_item ?_ ?_
                  · exact good_var 0 (by decide +kernel) (by decide +kernel) (by decide +kernel)
                  · exact good_int
                · refine es_cons ?_ ?_
                  · refine good_item ?_ ?_
                    · exact good_var 1 (by decide +kernel) (by decide +kernel) (by decide +kernel)
                    · exact good_int
                  · exact es_nil
          · refine body_cons ?_ ?_
            · refine st_if ?_ ?_ ?_
              · refine test_cmp (op_le _) ?_ ?_
                · exact good_var 3 (by decide +kernel) (by decide +kernel) (by decide +kernel)
                · exact good_int
              · refine body_cons ?_ ?_
                · refine st_assign 2 hS (by decide +kernel) ?_
                  · refine good_bin (op_add _) ?_ ?_
                    · exact good_var 2 (by decide +kernel) (by decide +kernel) (by decide +kernel)
                    · refine good_item ?_ ?_
                      · exact good_var 0 (by decide +kernel) (by decide +kernel) (by decide +kernel)
                      · exact good_int
                · exact body_nil
              · exact body_nil
            · refine body_cons ?_ ?_
              · refine st_if ?_ ?_ ?_
                · refine test_cmp (op_ge _) ?_ ?_
                  · exact good_var 3 (by decide +kernel) (by decide +kernel) (by decide +kernel)
                  · exact good_int
                · refine body_cons ?_ ?_
                  · refine st_assign 2 hS (by decide +kernel) ?_
                    · refine good_bin (op_add _) ?_ ?_
                      · exact good_var 2 (by decide +kernel) (by decide +kernel) (by decide +kernel)
                      · refine good_item ?_ ?_
                        · exact good_var 1 (by decide +kernel) (by decide +kernel) (by decide +kernel)
                        · exact good_int
                  · exact body_nil
                · exact body_nil
              · refine body_cons ?_ ?_
                · refine st_assign 0 hS (by decide +kernel) ?_
                  · refine good_ifexp ?_ ?_ ?_
                    · refine test_cmp (op_le _) ?_ ?_
                      · exact good_var 3 (by decide +kernel) (by decide +kernel) (by decide +kernel)
                      · exact good_int
                    · refine good_cut ?_ ?_ ?_
                      · exact good_var 0 (by decide +kernel) (by decide +kernel) (by decide +kernel)
                      · show GoodE _ _ _ _ _
                        exact good_int
                      · rfl
                    · exact good_var 0 (by decide +kernel) (by decide +kernel) (by decide +kernel)
                · refine body_cons ?_ ?_
                  · refine st_assign 1 hS (by decide +kernel) ?_
                    · refine good_ifexp ?_ ?_ ?_
                      · refine test_cmp (op_ge _) ?_ ?_
                        · exact good_var 3 (by decide +kernel) (by decide +kernel) (by decide +kernel)
                        · exact good_int
                      · refine good_cut ?_ ?_ ?_
                        · exact good_var 1 (by decide +kernel) (by decide +kernel) (by decide +kernel)
                        · show GoodE _ _ _ _ _
                          exact good_int
                        · rfl
                      · exact good_var 1 (by decide +kernel) (by decide +kernel) (by decide +kernel)
                  · exact body_nil
    · refine body_cons ?_ ?_
      · refine st_ret ?_
        · refine good_bin (op_add _) ?_ ?_
          · refine good_bin (op_add _) ?_ ?_
            · exact good_var 2 (by decide +kernel) (by decide +kernel) (by decide +kernel)
            · exact good_var 0 (by decide +kernel) (by decide +kernel) (by decide +kernel)
          · exact good_var 1 (by decide +kernel) (by decide +kernel) (by decide +kernel)
      · exact body_nil
theorem ok__law_merged {W : Wd} (hW : WOk W) : FnOk W 2 "_law_merged" f__law_merged := fn_at hW 12 20 _ ["one", "other"] 2 2 hS__law_merged (b__law_merged hW (ok__strcoll hW)) (by kernel_rfl) (by kernel_rfl) (by kernel_rfl) (by decide +kernel) rfl (by intro pm code doc rs h; match rs, h with | [_, _], _ => kernel_rfl)

noncomputable def S__law_words : Sx := ⟨scopeAt 21, ["rows", "start", "n", "parts", "turn", "word", "d"], "words"⟩
noncomputable def D__law_words : Den := (dSeq (dOwn (dList esNil)) (dSeq (dFor (dRange (esCons (dConst (.int 1)) (esCons (dConst (.int 7)) esNil))) (tgName 2) (dSeq (dSet 3 (dN (dLC (dRange (esCons (dConst (.int 1)) (esCons (d2 addV (dVar 2) (dConst (.int 1))) esNil))) (dComp (tgName 0) (dCond (dT (d2 eqI (d2 modV (dVar 1) (dVar 0)) (dConst (.int 0)))) (dVar 0))) 1 [2]))) (dSeq (dSet 4 (d2 modC (dVar 1) (dCall lenV (esCons (dVar 3) esNil)))) (dSeq (dSet 5 (dConst (.str []))) (dSeq (dFor (dIter (d2 addV (dCut (dVar 3) (dVar 4) (dConst .none)) (dCut (dVar 3) (dConst .none) (dVar 4)))) (tgName 6) (dSeq (dSet 5 (dCall f__law_merged (esCons (dVar 5) (esCons (d2 itemV (dVar 0) (d2 subV (dVar 6) (dConst (.int 1)))) esNil)))) dNil)) (dSeq (dApp (dVar 5)) dNil)))))) (dSeq dRetOwn dNil)))
noncomputable def f__law_words : List V → Option V := runFn D__law_words 2 5
theorem hS__law_words : SxOk S__law_words := ⟨by decide +kernel, by decide +kernel⟩
theorem b__law_words {W : Wd} (hW : WOk W) (ok__law_merged : FnOk W 2 "_law_merged" f__law_merged) : GoodB W 2 S__law_words (bodyAt 21) D__law_words := by
  have hS := hS__law_words
  refine body_cons ?_ ?_
  · refine st_own hS (by decide +kernel) (by decide +kernel) ?_
    · refine new_list ?_
      · exact es_nil
  · refine body_cons ?_ ?_
    · refine st_for ?_ ?_ ?_
      · refine it_range hW.ok hW.b_range (by decide +kernel) ?_
        · refine es_cons ?_ ?_
          · exact good_int
          · refine es_cons ?_ ?_
            · exact good_int
            · exact es_nil
      · exact tg_name hS (by decide +kernel)
      · refine body_cons ?_ ?_
        · refine st_compM ["d", "n"] ["d"] 3 hS (by decide +kernel) ?_ ?_ ?_ (by intro env h; cases env; cases h; kernel_rfl)
          · exact compOk_of (nown := 1) (caps := [2]) (vars := ["d"]) (by decide +kernel) (by kernel_rfl)
          · refine it_range hW.ok hW.b_range (by decide +kernel) ?_
            · refine es_cons ?_ ?_
              · exact good_int
              · refine es_cons ?_ ?_
                · refine good_bin (op_add _) ?_ ?_
                  · exact good_var 2 (by decide +kernel) (by decide +kernel) (by decide +kernel)
                  · exact good_int
                · exact es_nil
          · refine comp_oneC (i := 0) (mkS_ok _ _ (by decide +kernel)) (tc_of (by decide +kernel)) ?_ ?_
            · refine test_cmp (op_eq _) ?_ ?_
              · refine good_bin (op_mod _) ?_ ?_
                · exact good_var 1 (by decide +kernel) (by decide +kernel) (by decide +kernel)
                · exact good_var 0 (by decide +kernel) (by decide +kernel) (by decide +kernel)
              · exact good_int
            · exact good_var 0 (by decide +kernel) (by decide +kernel) (by decide +kernel)
        · refine body_cons ?_ ?_
          · refine st_assign 4 hS (by decide +kernel) ?_
            · refine good_bin (op_modC _) ?_ ?_
              · exact good_var 1 (by decide +kernel) (by decide +kernel) (by decide +kernel)
              · refine good_bi hW.ok hW.b_len (op_len _) (by decide +kernel) ?_
                · refine es_cons ?_ ?_
                  · exact good_var 3 (by decide +kernel) (by decide +kernel) (by decide +kernel)
                  · exact es_nil
          · refine body_cons ?_ ?_
            · refine st_assign 5 hS (by decide +kernel) ?_
              · exact good_str [] (by decide +kernel)
            · refine body_cons ?_ ?_
              · refine st_for ?_ ?_ ?_
                · refine it_val ?_
                  · refine good_bin (op_add _) ?_ ?_
                    · refine good_cut ?_ ?_ ?_
                      · exact good_var 3 (by decide +kernel) (by decide +kernel) (by decide +kernel)
                      · show GoodE _ _ _ _ _
                        exact good_var 4 (by decide +kernel) (by decide +kernel) (by decide +kernel)
                      · rfl
                    · refine good_cut ?_ ?_ ?_
                      · exact good_var 3 (by decide +kernel) (by decide +kernel) (by decide +kernel)
                      · rfl
                      · show GoodE _ _ _ _ _
                        exact good_var 4 (by decide +kernel) (by decide +kernel) (by decide +kernel)
                · exact tg_name hS (by decide +kernel)
                · refine body_cons ?_ ?_
                  · refine st_assign 5 hS (by decide +kernel) ?_
                    · refine good_call hW.ok ok__law_merged (by decide +kernel) (by decide +kernel) ?_
                      · refine es_cons ?_ ?_
                        · exact good_var 5 (by decide +kernel) (by decide +kernel) (by decide +kernel)
                        · refine es_cons ?_ ?_
                          · refine good_item ?_ ?_
                            · exact good_var 0 (by decide +kernel) (by decide +kernel) (by decide +kernel)
                            · refine good_bin (op_sub _) ?_ ?_
                              · exact good_var 6 (by decide +kernel) (by decide +kernel) (by decide +kernel)
                              · exact good_int
                          · exact es_nil
                  · exact body_nil
              · refine body_cons ?_ ?_
                · refine st_app (by decide +kernel) ?_ (by decide +kernel) (by decide +kernel) (by decide +kernel) (hi := by kernel_rfl)
                  · exact good_var 5 (by decide +kernel) (by decide +kernel) (by decide +kernel)
                · exact body_nil
    · refine body_cons ?_ ?_
      · exact st_retOwn (by decide +kernel) (by decide +kernel) (by decide +kernel)
      · exact body_nil
theorem ok__law_words {W : Wd} (hW : WOk W) : FnOk W 3 "_law_words" f__law_words := fn_at hW 13 21 _ ["rows", "start"] 2 5 hS__law_words (b__law_words hW (ok__law_merged hW)) (by kernel_rfl) (by kernel_rfl) (by kernel_rfl) (by decide +kernel) rfl (by intro pm code doc rs h; match rs, h with | [_, _], _ => kernel_rfl)

noncomputable def S__law_spelled : Sx := ⟨scopeAt 22, ["words", "primes", "great", "small", "n", "number", "letter"], ""⟩
noncomputable def D__law_spelled : Den := (dSeq (dFor (dRange (esCons (dConst (.int 1)) (esCons (dConst (.int 7)) esNil))) (tgName 4) (dSeq (dSet 5 (dConst (.int 1))) (dSeq (dFor (dIter (d2 itemV (dVar 0) (d2 subV (dVar 4) (dConst (.int 1))))) (tgName 6) (dSeq (dSet 5 (d2 mulV (dVar 5) (d2 itemV (dVar 1) (d2 subV (dCall ordV (esCons (dVar 6) esNil)) (dConst (.int 97)))))) dNil)) (dSeq (dIf (tOr (dT (d2 neI (dVar 5) (d2 subV (d2 powV (dVar 2) (dVar 4)) (d2 powV (dVar 3) (dVar 4))))) (tOr (dT (d2 neI (d2 itemV (dVar 0) (d2 subV (dVar 4) (dConst (.int 1)))) (dMeth "str" joinV (dConst (.str [])) (esCons (dCall sortedV (esCons (d2 itemV (dVar 0) (d2 subV (dVar 4) (dConst (.int 1)))) esNil)) esNil)))) tFalse)) (dSeq (dRet (dConst (.bool false))) dNil) dNil) dNil)))) (dSeq (dRet (dConst (.bool true))) dNil))
noncomputable def f__law_spelled : List V → Option V := runFn D__law_spelled 4 3
theorem hS__law_spelled : SxOk S__law_spelled := ⟨by decide +kernel, by decide +kernel⟩
theorem b__law_spelled {W : Wd} (hW : WOk W) : GoodB W 0 S__law_spelled (bodyAt 22) D__law_spelled := by
  have hS := hS__law_spelled
  refine body_cons ?_ ?_
  · refine st_for ?_ ?_ ?_
    · refine it_range hW.ok hW.b_range (by decide +kernel) ?_
      · refine es_cons ?_ ?_
        · exact good_int
        · refine es_cons ?_ ?_
          · exact good_int
          · exact es_nil
    · exact tg_name hS (by decide +kernel)
    · refine body_cons ?_ ?_
      · refine st_assign 5 hS (by decide +kernel) ?_
        · exact good_int
      · refine body_cons ?_ ?_
        · refine st_for ?_ ?_ ?_
          · refine it_val ?_
            · refine good_item ?_ ?_
              · exact good_var 0 (by decide +kernel) (by decide +kernel) (by decide +kernel)
              · refine good_bin (op_sub _) ?_ ?_
                · exact good_var 4 (by decide +kernel) (by decide +kernel) (by decide +kernel)
                · exact good_int
          · exact tg_name hS (by decide +kernel)
          · refine body_cons ?_ ?_
            · refine st_assign 5 hS (by decide +kernel) ?_
              · refine good_bin (op_mul _) ?_ ?_
                · exact good_var 5 (by decide +kernel) (by decide +kernel) (by decide +kernel)
                · refine good_item ?_ ?_
                  · exact good_var 1 (by decide +kernel) (by decide +kernel) (by decide +kernel)
                  · refine good_bin (op_sub _) ?_ ?_
                    · refine good_bi hW.ok hW.b_ord (op_ord _) (by decide +kernel) ?_
                      · refine es_cons ?_ ?_
                        · exact good_var 6 (by decide +kernel) (by decide +kernel) (by decide +kernel)
                        · exact es_nil
                    · exact good_int
            · exact body_nil
        · refine body_cons ?_ ?_
          · refine st_if ?_ ?_ ?_
            · refine test_or ?_ ?_
              · refine test_cmp (op_ne _) ?_ ?_
                · exact good_var 5 (by decide +kernel) (by decide +kernel) (by decide +kernel)
                · refine good_bin (op_sub _) ?_ ?_
                  · refine good_bin (op_pow _) ?_ ?_
                    · exact good_var 2 (by decide +kernel) (by decide +kernel) (by decide +kernel)
                    · exact good_var 4 (by decide +kernel) (by decide +kernel) (by decide +kernel)
                  · refine good_bin (op_pow _) ?_ ?_
                    · exact good_var 3 (by decide +kernel) (by decide +kernel) (by decide +kernel)
                    · exact good_var 4 (by decide +kernel) (by decide +kernel) (by decide +kernel)
              · refine test_or ?_ ?_
                · refine test_cmp (op_ne _) ?_ ?_
                  · refine good_item ?_ ?_
                    · exact good_var 0 (by decide +kernel) (by decide +kernel) (by decide +kernel)
                    · refine good_bin (op_sub _) ?_ ?_
                      · exact good_var 4 (by decide +kernel) (by decide +kernel) (by decide +kernel)
                      · exact good_int
                  · refine good_meth m_join (op_join _) ?_ ?_ (by decide +kernel)
                    · exact good_str [] (by decide +kernel)
                    · refine es_cons ?_ ?_
                      · refine good_bi hW.ok hW.b_sorted (op_sorted _) (by decide +kernel) ?_
                        · refine es_cons ?_ ?_
                          · refine good_item ?_ ?_
                            · exact good_var 0 (by decide +kernel) (by decide +kernel) (by decide +kernel)
                            · refine good_bin (op_sub _) ?_ ?_
                              · exact good_var 4 (by decide +kernel) (by decide +kernel) (by decide +kernel)
                              · exact good_int
                          · exact es_nil
                      · exact es_nil
                · exact test_or_nil
            · refine body_cons ?_ ?_
              · refine st_ret ?_
                · exact good_bool
              · exact body_nil
            · exact body_nil
          · exact body_nil
  · refine body_cons ?_ ?_
    · refine st_ret ?_
      · exact good_bool
    · exact body_nil
theorem ok__law_spelled {W : Wd} (hW : WOk W) : FnOk W 1 "_law_spelled" f__law_spelled := fn_at hW 14 22 _ ["words", "primes", "great", "small"] 4 3 hS__law_spelled (b__law_spelled hW) (by kernel_rfl) (by kernel_rfl) (by kernel_rfl) (by decide +kernel) rfl (by intro pm code doc rs h; match rs, h with | [_, _, _, _], _ => kernel_rfl)

noncomputable def S__law_counted : Sx := ⟨scopeAt 23, ["counts", "primes", "values", "k", "number", "count", "prime"], ""⟩
noncomputable def D__law_counted : Den := (dSeq (dFor (dRange (esCons (dConst (.int 6)) esNil)) (tgName 3) (dSeq (dSet 4 (dConst (.int 1))) (dSeq (dFor (dZip (esCons (dVar 0) (esCons (dVar 1) esNil))) (tgTup [5, 6]) (dSeq (dSet 4 (d2 mulV (dVar 4) (d2 powV (dVar 6) (d2 itemV (dVar 5) (dVar 3))))) dNil)) (dSeq (dIf (dT (d2 neI (dVar 4) (d2 itemV (dVar 2) (dVar 3)))) (dSeq (dRet (dConst (.bool false))) dNil) dNil) dNil)))) (dSeq (dRet (dConst (.bool true))) dNil))
noncomputable def f__law_counted : List V → Option V := runFn D__law_counted 3 4
theorem hS__law_counted : SxOk S__law_counted := ⟨by decide +kernel, by decide +kernel⟩
theorem b__law_counted {W : Wd} (hW : WOk W) : GoodB W 0 S__law_counted (bodyAt 23) D__law_counted := by
  have hS := hS__law_counted
  refine body_cons ?_ ?_
  · refine st_for ?_ ?_ ?_
    · refine it_range hW.ok hW.b_range (by decide +kernel) ?_
      · refine es_cons ?_ ?_
        · exact good_int
        · exact es_nil
    · exact tg_name hS (by decide +kernel)
    · refine body_cons ?_ ?_
      · refine st_assign 4 hS (by decide +kernel) ?_
        · exact good_int
      · refine body_cons ?_ ?_
        · refine st_for ?_ ?_ ?_
          · refine it_zip hW.ok hW.b_zip (by decide +kernel) ?_
            · refine es_cons ?_ ?_
              · exact good_var 0 (by decide +kernel) (by decide +kernel) (by decide +kernel)
              · refine es_cons ?_ ?_
                · exact good_var 1 (by decide +kernel) (by decide +kernel) (by decide +kernel)
                · exact es_nil
          · exact tg_tup (.cons (tgt_name (x := "count") (i := 5) (pos := ⟨147, 12, 147, 17⟩) hS (by decide +kernel)) (.cons (tgt_name (x := "prime") (i := 6) (pos := ⟨147, 19, 147, 24⟩) hS (by decide +kernel)) .nil))
          · refine body_cons ?_ ?_
            · refine st_assign 4 hS (by decide +kernel) ?_
              · refine good_bin (op_mul _) ?_ ?_
                · exact good_var 4 (by decide +kernel) (by decide +kernel) (by decide +kernel)
                · refine good_bin (op_pow _) ?_ ?_
                  · exact good_var 6 (by decide +kernel) (by decide +kernel) (by decide +kernel)
                  · refine good_item ?_ ?_
                    · exact good_var 5 (by decide +kernel) (by decide +kernel) (by decide +kernel)
                    · exact good_var 3 (by decide +kernel) (by decide +kernel) (by decide +kernel)
            · exact body_nil
        · refine body_cons ?_ ?_
          · refine st_if ?_ ?_ ?_
            · refine test_cmp (op_ne _) ?_ ?_
              · exact good_var 4 (by decide +kernel) (by decide +kernel) (by decide +kernel)
              · refine good_item ?_ ?_
                · exact good_var 2 (by decide +kernel) (by decide +kernel) (by decide +kernel)
                · exact good_var 3 (by decide +kernel) (by decide +kernel) (by decide +kernel)
            · refine body_cons ?_ ?_
              · refine st_ret ?_
                · exact good_bool
              · exact body_nil
            · exact body_nil
          · exact body_nil
  · refine body_cons ?_ ?_
    · refine st_ret ?_
      · exact good_bool
    · exact body_nil
theorem ok__law_counted {W : Wd} (hW : WOk W) : FnOk W 1 "_law_counted" f__law_counted := fn_at hW 15 23 _ ["counts", "primes", "values"] 3 4 hS__law_counted (b__law_counted hW) (by kernel_rfl) (by kernel_rfl) (by kernel_rfl) (by decide +kernel) rfl (by intro pm code doc rs h; match rs, h with | [_, _, _], _ => kernel_rfl)

noncomputable def S__law_new : Sx := ⟨scopeAt 27, ["firsts", "great", "small", "n", "spared"], ""⟩
noncomputable def D__law_new : Den := (dSeq (dFor (dRange (esCons (dConst (.int 1)) (esCons (dConst (.int 7)) esNil))) (tgName 3) (dSeq (dSet 4 (vOr (vAnd (d2 eqI (dVar 3) (dConst (.int 1))) (d2 eqI (d2 subV (dVar 1) (dVar 2)) (dConst (.int 1)))) (vAnd (d2 eqI (dVar 3) (dConst (.int 6))) (d2 eqI (dTup (esCons (dVar 1) (esCons (dVar 2) esNil))) (dTup (esCons (dConst (.int 2)) (esCons (dConst (.int 1)) esNil))))))) (dSeq (dIf (tAnd (dT (d2 eqI (dVar 3) (dConst (.int 2)))) (tAnd (dT (dCall f_contains (esCons (dN (dList (esCons (dConst (.int 4)) (esCons (dConst (.int 8)) (esCons (dConst (.int 16)) (esCons (dConst (.int 32)) esNil)))))) (esCons (d2 addV (dVar 1) (dVar 2)) esNil)))) tTrue)) (dSeq (dSet 4 (dConst (.bool true))) dNil) dNil) (dSeq (dIf (dT (d2 eqI (dCall f_contains (esCons (dVar 0) (esCons (dVar 3) esNil))) (dVar 4))) (dSeq (dRet (dConst (.bool false))) dNil) dNil) dNil)))) (dSeq (dRet (dConst (.bool true))) dNil))
noncomputable def f__law_new : List V → Option V := runFn D__law_new 3 2
theorem hS__law_new : SxOk S__law_new := ⟨by decide +kernel, by decide +kernel⟩
theorem b__law_new {W : Wd} (hW : WOk W) (ok_contains : FnOk W 1 "contains" f_contains) : GoodB W 1 S__law_new (bodyAt 27) D__law_new := by
  have hS := hS__law_new
  refine body_cons ?_ ?_
  · refine st_for ?_ ?_ ?_
    · refine it_range hW.ok hW.b_range (by decide +kernel) ?_
      · refine es_cons ?_ ?_
        · exact good_int
        · refine es_cons ?_ ?_
          · exact good_int
          · exact es_nil
    · exact tg_name hS (by decide +kernel)
    · refine body_cons ?_ ?_
      · refine st_assign 4 hS (by decide +kernel) ?_
        · refine good_or ?_ ?_
          · refine good_and ?_ ?_
            · refine good_cmp (op_eq _) ?_ ?_
              · exact good_var 3 (by decide +kernel) (by decide +kernel) (by decide +kernel)
              · exact good_int
            · refine good_bool1 ?_
              · refine good_cmp (op_eq _) ?_ ?_
                · refine good_bin (op_sub _) ?_ ?_
                  · exact good_var 1 (by decide +kernel) (by decide +kernel) (by decide +kernel)
                  · exact good_var 2 (by decide +kernel) (by decide +kernel) (by decide +kernel)
                · exact good_int
          · refine good_bool1 ?_
            · refine good_and ?_ ?_
              · refine good_cmp (op_eq _) ?_ ?_
                · exact good_var 3 (by decide +kernel) (by decide +kernel) (by decide +kernel)
                · exact good_int
              · refine good_bool1 ?_
                · refine good_cmp (op_eq _) ?_ ?_
                  · refine good_tup ?_
                    · refine es_cons ?_ ?_
                      · exact good_var 1 (by decide +kernel) (by decide +kernel) (by decide +kernel)
                      · refine es_cons ?_ ?_
                        · exact good_var 2 (by decide +kernel) (by decide +kernel) (by decide +kernel)
                        · exact es_nil
                  · refine good_tup ?_
                    · refine es_cons ?_ ?_
                      · exact good_int
                      · refine es_cons ?_ ?_
                        · exact good_int
                        · exact es_nil
      · refine body_cons ?_ ?_
        · refine st_if ?_ ?_ ?_
          · refine test_and ?_ ?_
            · refine test_cmp (op_eq _) ?_ ?_
              · exact good_var 3 (by decide +kernel) (by decide +kernel) (by decide +kernel)
              · exact good_int
            · refine test_and ?_ ?_
              · refine test_plain ?_
                · refine good_call hW.ok ok_contains (by decide +kernel) (by decide +kernel) ?_
                  · refine es_cons ?_ ?_
                    · refine GoodN.e ?_
                      · refine new_list ?_
                        · refine es_cons ?_ ?_
                          · exact good_int
                          · refine es_cons ?_ ?_
                            · exact good_int
                            · refine es_cons ?_ ?_
                              · exact good_int
                              · refine es_cons ?_ ?_
                                · exact good_int
                                · exact es_nil
                    · refine es_cons ?_ ?_
                      · refine good_bin (op_add _) ?_ ?_
                        · exact good_var 1 (by decide +kernel) (by decide +kernel) (by decide +kernel)
                        · exact good_var 2 (by decide +kernel) (by decide +kernel) (by decide +kernel)
                      · exact es_nil
              · exact test_and_nil
          · refine body_cons ?_ ?_
            · refine st_assign 4 hS (by decide +kernel) ?_
              · exact good_bool
            · exact body_nil
          · exact body_nil
        · refine body_cons ?_ ?_
          · refine st_if ?_ ?_ ?_
            · refine test_cmp (op_eq _) ?_ ?_
              · refine good_call hW.ok ok_contains (by decide +kernel) (by decide +kernel) ?_
                · refine es_cons ?_ ?_
                  · exact good_var 0 (by decide +kernel) (by decide +kernel) (by decide +kernel)
                  · refine es_cons ?_ ?_
                    · exact good_var 3 (by decide +kernel) (by decide +kernel) (by decide +kernel)
                    · exact es_nil
              · exact good_var 4 (by decide +kernel) (by decide +kernel) (by decide +kernel)
            · refine body_cons ?_ ?_
              · refine st_ret ?_
                · exact good_bool
              · exact body_nil
            · exact body_nil
          · exact body_nil
  · refine body_cons ?_ ?_
    · refine st_ret ?_
      · exact good_bool
    · exact body_nil
theorem ok__law_new {W : Wd} (hW : WOk W) : FnOk W 2 "_law_new" f__law_new := fn_at hW 19 27 _ ["firsts", "great", "small"] 3 2 hS__law_new (b__law_new hW (ok_contains hW)) (by kernel_rfl) (by kernel_rfl) (by kernel_rfl) (by decide +kernel) rfl (by intro pm code doc rs h; match rs, h with | [_, _, _], _ => kernel_rfl)


end
end Lite
namespace Lite
section
open PySem PySem.Calls PyProof.Rows PySem.W
noncomputable def W_in : Den := dSeq (dSet 5 (dCall f__law_merged (esCons (dVar 5) (esCons (d2 itemV (dVar 0) (d2 subV (dVar 6) (dConst (.int 1)))) esNil)))) dNil
noncomputable def W_parts : St → Option V := dN (dLC (dRange (esCons (dConst (.int 1)) (esCons (d2 addV (dVar 2) (dConst (.int 1))) esNil))) (dComp (tgName 0) (dCond (dT (d2 eqI (d2 modV (dVar 1) (dVar 0)) (dConst (.int 0)))) (dVar 0))) 1 [2])
noncomputable def W_iter : St → Option (List V) := dIter (d2 addV (dCut (dVar 3) (dVar 4) (dConst .none)) (dCut (dVar 3) (dConst .none) (dVar 4)))
noncomputable def W_body : Den := dSeq (dSet 3 W_parts) (dSeq (dSet 4 (d2 modC (dVar 1) (dCall lenV (esCons (dVar 3) esNil)))) (dSeq (dSet 5 (dConst (.str []))) (dSeq (dFor W_iter (tgName 6) W_in) (dSeq (dApp (dVar 5)) dNil))))
theorem W_split : D__law_words = dSeq (dOwn (dList esNil)) (dSeq (dFor (dRange (esCons (dConst (.int 1)) (esCons (dConst (.int 7)) esNil))) (tgName 2) W_body) (dSeq dRetOwn dNil)) := rfl

/-- one more row merged in -/
noncomputable def mstep (R w d : V) : Option V := ((subV d (.int 1)).bind fun i => itemV R i).bind fun r => f__law_merged [w, r]
noncomputable def wfold (R : V) : V → List V → Option V
  | w, [] => some w
  | w, d :: ds => (mstep R w d).bind fun w => wfold R w ds
theorem W_in_eq {R s1 s2 s3 s4 w d : V} {own : Option (List V)} {w' : V} (h : mstep R w d = some w') :
    W_in ⟨[some R, some s1, some s2, some s3, some s4, some w, some d], own⟩ = some (.next, ⟨[some R, some s1, some s2, some s3, some s4, some w', some d], own⟩) := by
  have e : (dCall f__law_merged (esCons (dVar 5) (esCons (d2 itemV (dVar 0) (d2 subV (dVar 6) (dConst (.int 1)))) esNil))) ⟨[some R, some s1, some s2, some s3, some s4, some w, some d], own⟩ = some w' := by
    rw [← h]
    unfold mstep dCall esCons esNil d2
    show ((((subV d (.int 1)).bind fun i => itemV R i).bind fun v => some [v]).map fun x => w :: x).bind f__law_merged = _
    cases (subV d (.int 1)).bind fun i => itemV R i <;> rfl
  unfold W_in dSeq dSet
  rw [e]
  rfl
theorem W_loop {R s1 s2 s3 s4 : V} {own : Option (List V)} : ∀ (ds : List V) (w w' : V) (s6 : Option V), wfold R w ds = some w' →
    ∃ e6, dLoop (tgName 6) W_in ds ⟨[some R, some s1, some s2, some s3, some s4, some w, s6], own⟩ = some (.next, ⟨[some R, some s1, some s2, some s3, some s4, some w', e6], own⟩)
  | [], w, w', s6, h => by cases h; exact ⟨_, rfl⟩
  | d :: ds, w, w', s6, h => by
    obtain ⟨w1, h1, h2⟩ := Option.bind_eq_some_iff.mp h
    obtain ⟨e6, ih⟩ := W_loop ds w1 w' (some d) h2
    refine ⟨e6, ?_⟩
    show ((W_in ⟨[some R, some s1, some s2, some s3, some s4, some w, some d], own⟩).bind _) = _
    rw [W_in_eq h1]
    exact ih
theorem next_seq {D₁ D₂ : Den} {σ σ' : St} {r : Option (Fl × St)} (h : D₁ σ = some (.next, σ')) (h2 : D₂ σ' = r) : dSeq D₁ D₂ σ = r := by unfold dSeq; rw [h]; exact h2
theorem set_val {i : Nat} {d : St → Option V} {σ : St} {v : V} (h : d σ = some v) : dSet i d σ = some (.next, { σ with ρ := setS σ.ρ i v }) := by unfold dSet; rw [h]; rfl
theorem W_turn {R w t n : V} {a : Int} {ps ds own : List V} {s3 s4 s5 s6 : Option V}
    (h3 : W_parts ⟨[some R, some (.int a), some n, s3, s4, s5, s6], some own⟩ = some (.list ps))
    (h4 : (lenV [.list ps]).bind (modC (.int a)) = some t)
    (hd : W_iter ⟨[some R, some (.int a), some n, some (.list ps), some t, some (.str []), s6], some own⟩ = some ds)
    (hw : wfold R (.str []) ds = some w) (ho : short own = true) :
    ∃ e3 e4 e5 e6, W_body ⟨[some R, some (.int a), some n, s3, s4, s5, s6], some own⟩ = some (.next, ⟨[some R, some (.int a), some n, e3, e4, e5, e6], some (own ++ [w])⟩) := by
  obtain ⟨e6, hl⟩ := W_loop (R := R) (s1 := .int a) (s2 := n) (s3 := .list ps) (s4 := t) (own := some own) ds (.str []) w s6 hw
  refine ⟨some (.list ps), some t, some w, e6, next_seq (set_val h3) (next_seq (set_val (v := t) ?_) (next_seq (set_val rfl) (next_seq (D₁ := dFor W_iter (tgName 6) W_in) (σ' := ⟨[some R, some (.int a), some n, some (.list ps), some t, some w, e6], some own⟩) ?_ (next_seq (D₁ := dApp (dVar 5)) ?_ rfl))))⟩
  · rw [← h4]
    show (some (V.int a)).bind (fun x => ((lenV [.list ps]).bind fun y => modC x y)) = _
    rfl
  · unfold dFor
    refine (congrArg (fun o => Option.bind o _) hd).trans ?_
    exact hl
  · unfold dApp
    show (match short own with | true => _ | false => _) = _
    rw [ho]

noncomputable def rots : List (List (List V)) := [[[.int 1]], [[.int 1, .int 2], [.int 2, .int 1]], [[.int 1, .int 3], [.int 3, .int 1]], [[.int 1, .int 2, .int 4], [.int 2, .int 4, .int 1], [.int 4, .int 1, .int 2]],
  [[.int 1, .int 5], [.int 5, .int 1]], [[.int 1, .int 2, .int 3, .int 6], [.int 2, .int 3, .int 6, .int 1], [.int 3, .int 6, .int 1, .int 2], [.int 6, .int 1, .int 2, .int 3]]]
noncomputable def strIs (s : List Nat) : Option V → Bool
  | some (.str s') => s == s'
  | _ => false
theorem strIs_ {s : List Nat} {o : Option V} (h : strIs s o = true) : o = some (.str s) := by
  unfold strIs at h
  split at h
  · rw [eq_of_beq h]
  · cases h
noncomputable def oneWord (R : V) : List (List V) → Option (List Nat)
  | [] => none
  | d :: ds => match wfold R (.str []) d with
    | some (.str s) => match ds.all (fun e => strIs s (wfold R (.str []) e)) with
      | true => some s
      | false => none
    | _ => none
theorem oneWord_ {R : V} {s : List Nat} : ∀ {g : List (List V)}, oneWord R g = some s → ∀ d ∈ g, wfold R (.str []) d = some (.str s)
  | [], h, _, _ => by cases h
  | d :: ds, h, e, he => by
    simp only [oneWord] at h
    split at h <;> try (cases h; done)
    rename_i s' hs
    cases hall : ds.all (fun e => strIs s' (wfold R (.str []) e)) with
    | false => rw [hall] at h; cases h
    | true =>
    rw [hall] at h
    cases h
    rcases List.mem_cons.mp he with rfl | he
    · exact hs
    · exact strIs_ (List.all_eq_true.mp hall e he)
noncomputable def allWords (R : V) : List (List (List V)) → Option (List V)
  | [] => some []
  | g :: gs => (oneWord R g).bind fun s => (allWords R gs).bind fun r => some (.str s :: r)
/-- the words, when the turn does not show -/
noncomputable def f_words2 : List V → Option V
  | [R, .int _] => (allWords R rots).map .list
  | _ => none
theorem fmod_cases (a : Int) : a.fmod 1 = 0 ∧ (a.fmod 2 = 0 ∨ a.fmod 2 = 1) ∧ (a.fmod 3 = 0 ∨ a.fmod 3 = 1 ∨ a.fmod 3 = 2) ∧ (a.fmod 4 = 0 ∨ a.fmod 4 = 1 ∨ a.fmod 4 = 2 ∨ a.fmod 4 = 3) := by
  simp only [Int.fmod_eq_emod_of_nonneg _ (show (0 : Int) ≤ 1 by decide), Int.fmod_eq_emod_of_nonneg _ (show (0 : Int) ≤ 2 by decide), Int.fmod_eq_emod_of_nonneg _ (show (0 : Int) ≤ 3 by decide), Int.fmod_eq_emod_of_nonneg _ (show (0 : Int) ≤ 4 by decide)]
  omega
theorem W_1 {R : V} {a : Int} {s : List Nat} (h : oneWord R [[.int 1]] = some s) (s3 s4 s5 s6 : Option V) (own : List V) (ho : short own = true) :
    ∃ e3 e4 e5 e6, W_body ⟨[some R, some (.int a), some (.int 1), s3, s4, s5, s6], some own⟩ = some (.next, ⟨[some R, some (.int a), some (.int 1), e3, e4, e5, e6], some (own ++ [.str s])⟩) :=
  W_turn (ps := [.int 1]) (t := .int 0) rfl (congrArg (fun i => some (V.int i)) (fmod_cases a).1) rfl (oneWord_ h _ (by simp)) ho
theorem W_2 {R : V} {a n p : Int} {s : List Nat} (h : oneWord R [[.int 1, .int p], [.int p, .int 1]] = some s) (s3 s4 s5 s6 : Option V) (own : List V) (ho : short own = true)
    (h3 : W_parts ⟨[some R, some (.int a), some (.int n), s3, s4, s5, s6], some own⟩ = some (.list [.int 1, .int p])) :
    ∃ e3 e4 e5 e6, W_body ⟨[some R, some (.int a), some (.int n), s3, s4, s5, s6], some own⟩ = some (.next, ⟨[some R, some (.int a), some (.int n), e3, e4, e5, e6], some (own ++ [.str s])⟩) := by
  rcases (fmod_cases a).2.1 with q | q
  · exact W_turn h3 (congrArg (fun i => some (V.int i)) q) (ds := [.int 1, .int p]) rfl (oneWord_ h _ (by simp)) ho
  · exact W_turn h3 (congrArg (fun i => some (V.int i)) q) (ds := [.int p, .int 1]) rfl (oneWord_ h _ (by simp)) ho
theorem W_4 {R : V} {a : Int} {s : List Nat} (h : oneWord R [[.int 1, .int 2, .int 4], [.int 2, .int 4, .int 1], [.int 4, .int 1, .int 2]] = some s) (s3 s4 s5 s6 : Option V) (own : List V) (ho : short own = true) :
    ∃ e3 e4 e5 e6, W_body ⟨[some R, some (.int a), some (.int 4), s3, s4, s5, s6], some own⟩ = some (.next, ⟨[some R, some (.int a), some (.int 4), e3, e4, e5, e6], some (own ++ [.str s])⟩) := by
  rcases (fmod_cases a).2.2.1 with q | q | q <;> exact W_turn (ps := [.int 1, .int 2, .int 4]) rfl (congrArg (fun i => some (V.int i)) q) rfl (oneWord_ h _ (by simp)) ho
theorem W_6 {R : V} {a : Int} {s : List Nat} (h : oneWord R [[.int 1, .int 2, .int 3, .int 6], [.int 2, .int 3, .int 6, .int 1], [.int 3, .int 6, .int 1, .int 2], [.int 6, .int 1, .int 2, .int 3]] = some s) (s3 s4 s5 s6 : Option V) (own : List V) (ho : short own = true) :
    ∃ e3 e4 e5 e6, W_body ⟨[some R, some (.int a), some (.int 6), s3, s4, s5, s6], some own⟩ = some (.next, ⟨[some R, some (.int a), some (.int 6), e3, e4, e5, e6], some (own ++ [.str s])⟩) := by
  rcases (fmod_cases a).2.2.2 with q | q | q | q <;> exact W_turn (ps := [.int 1, .int 2, .int 3, .int 6]) rfl (congrArg (fun i => some (V.int i)) q) rfl (oneWord_ h _ (by simp)) ho
theorem loop_step {i : Nat} {B : Den} {x : V} {xs : List V} {σ σ' : St} {r : Option (Fl × St)} (h : B { σ with ρ := setS σ.ρ i x } = some (.next, σ')) (h2 : dLoop (tgName i) B xs σ' = r) : dLoop (tgName i) B (x :: xs) σ = r := by
  show ((B { σ with ρ := setS σ.ρ i x }).bind _) = r
  rw [h]
  exact h2
theorem words2 {vs : List V} {v : V} (h : f_words2 vs = some v) : f__law_words vs = some v := by
  unfold f_words2 at h
  split at h <;> try (cases h; done)
  rename_i R a
  obtain ⟨l, hl, rfl⟩ := Option.map_eq_some_iff.mp h
  unfold rots at hl
  simp only [allWords, Option.bind_eq_some_iff, Option.some.injEq] at hl
  obtain ⟨s1, h1, _, ⟨s2, h2, _, ⟨s3, h3, _, ⟨s4, h4, _, ⟨s5, h5, _, ⟨s6, h6, _, rfl, rfl⟩, rfl⟩, rfl⟩, rfl⟩, rfl⟩, rfl⟩ := hl
  obtain ⟨a1, b1, c1, d1, e1⟩ := W_1 (a := a) h1 none none none none [] rfl
  obtain ⟨a2, b2, c2, d2, e2⟩ := W_2 (a := a) (n := 2) h2 a1 b1 c1 d1 [.str s1] rfl rfl
  obtain ⟨a3, b3, c3, d3, e3⟩ := W_2 (a := a) (n := 3) h3 a2 b2 c2 d2 [.str s1, .str s2] rfl rfl
  obtain ⟨a4, b4, c4, d4, e4⟩ := W_4 (a := a) h4 a3 b3 c3 d3 [.str s1, .str s2, .str s3] rfl
  obtain ⟨a5, b5, c5, d5, e5⟩ := W_2 (a := a) (n := 5) h5 a4 b4 c4 d4 [.str s1, .str s2, .str s3, .str s4] rfl rfl
  obtain ⟨a6, b6, c6, d6, e6⟩ := W_6 (a := a) h6 a5 b5 c5 d5 [.str s1, .str s2, .str s3, .str s4, .str s5] rfl
  have hloop : dLoop (tgName 2) W_body [.int 1, .int 2, .int 3, .int 4, .int 5, .int 6] ⟨[some R, some (.int a), none, none, none, none, none], some []⟩ = some (.next, ⟨[some R, some (.int a), some (.int 6), a6, b6, c6, d6], some [.str s1, .str s2, .str s3, .str s4, .str s5, .str s6]⟩) :=
    loop_step e1 (loop_step e2 (loop_step e3 (loop_step e4 (loop_step e5 (loop_step e6 rfl)))))
  have hD : D__law_words ⟨[some R, some (.int a), none, none, none, none, none], none⟩ = some (.ret (.list [.str s1, .str s2, .str s3, .str s4, .str s5, .str s6]), ⟨[some R, some (.int a), some (.int 6), a6, b6, c6, d6], some [.str s1, .str s2, .str s3, .str s4, .str s5, .str s6]⟩) := by
    rw [W_split]
    exact next_seq rfl (next_seq (D₁ := dFor (dRange (esCons (dConst (.int 1)) (esCons (dConst (.int 7)) esNil))) (tgName 2) W_body) hloop rfl)
  show ((D__law_words ⟨[some R, some (.int a), none, none, none, none, none], none⟩).bind _) = _
  rw [hD]
  rfl
theorem FnOk.less {W : Wd} {k : Nat} {x : Str} {d d' : List V → Option V} (h : FnOk W k x d) (hd : ∀ vs v, d' vs = some v → d vs = some v) : FnOk W k x d' := by
  obtain ⟨a, h1, h2, h3⟩ := h
  exact ⟨a, h1, h2, fun A av s rs vs v hA hL hk q hv => h3 A av s rs vs v hA hL hk q (hd vs v hv)⟩
theorem ok_words2 {W : Wd} (hW : WOk W) : FnOk W 3 "_law_words" f_words2 := (ok__law_words hW).less fun _ _ => words2

end
end Lite
namespace Lite
section
open PySem PySem.Calls PyProof.Rows PySem.W

noncomputable def S__levenshtein_distance : Sx := ⟨scopeAt 15, ["a", "b", "max_cost", "pre", "post", "result", "bindex", "bchar", "distance", "minimum", "index", "substitute", "insert_delete"], "row"⟩
noncomputable def D__levenshtein_distance : Den := (dSeq (dIf (dT (d2 eqI (dVar 0) (dVar 1))) (dSeq (dRet (dConst (.int 0))) dNil) dNil) (dSeq (dSet 3 (dConst (.int 0))) (dSeq (dWhile (tAnd (dT (dCut (dVar 0) (dVar 3) (dConst .none))) (tAnd (dT (dCut (dVar 1) (dVar 3) (dConst .none))) (tAnd (dT (d2 eqI (d2 itemV (dVar 0) (dVar 3)) (d2 itemV (dVar 1) (dVar 3)))) tTrue))) (dSeq (dSet 3 (d2 addI (dVar 3) (dConst (.int 1)))) dNil) 100) (dSeq (dSet 0 (dCut (dVar 0) (dVar 3) (dConst .none))) (dSeq (dSet 1 (dCut (dVar 1) (dVar 3) (dConst .none))) (dSeq (dSet 4 (dConst (.int 0))) (dSeq (dWhile (tAnd (dT (dCut (dVar 0) (dConst .none) (vOr (dVar 4) (dConst .none)))) (tAnd (dT (dCut (dVar 1) (dConst .none) (vOr (dVar 4) (dConst .none)))) (tAnd (dT (d2 eqI (d2 itemV (dVar 0) (d2 subV (dVar 4) (dConst (.int 1)))) (d2 itemV (dVar 1) (d2 subV (dVar 4) (dConst (.int 1)))))) tTrue))) (dSeq (dSet 4 (d2 subI (dVar 4) (dConst (.int 1)))) dNil) 100) (dSeq (dSet 0 (dCut (dVar 0) (dConst .none) (vOr (dVar 4) (dConst .none)))) (dSeq (dSet 1 (dCut (dVar 1) (dConst .none) (vOr (dVar 4) (dConst .none)))) (dSeq (dIf (tOr (tNot (dT (dVar 0))) (tOr (tNot (dT (dVar 1))) tFalse)) (dSeq (dRet (d2 mulV (dConst (.int 2)) (d2 addV (dCall lenV (esCons (dVar 0) esNil)) (dCall lenV (esCons (dVar 1) esNil))))) dNil) dNil) (dSeq (dIf (tOr (dT (d2 gtI (dCall lenV (esCons (dVar 0) esNil)) (dConst (.int 40)))) (tOr (dT (d2 gtI (dCall lenV (esCons (dVar 1) esNil)) (dConst (.int 40)))) tFalse)) (dSeq (dRet (d2 addV (dVar 2) (dConst (.int 1)))) dNil) dNil) (dSeq (dIf (dT (d2 ltI (dCall lenV (esCons (dVar 1) esNil)) (dCall lenV (esCons (dVar 0) esNil)))) (dSeq (dSwap [1, 0] (dTup (esCons (dVar 1) (esCons (dVar 0) esNil)))) dNil) dNil) (dSeq (dIf (dT (d2 gtI (d2 mulV (d2 subV (dCall lenV (esCons (dVar 1) esNil)) (dCall lenV (esCons (dVar 0) esNil))) (dConst (.int 2))) (dVar 2))) (dSeq (dRet (d2 addV (dVar 2) (dConst (.int 1)))) dNil) dNil) (dSeq (dOwn (dListRange (esCons (dConst (.int 2)) (esCons (d2 mulV (dConst (.int 2)) (d2 addV (dCall lenV (esCons (dVar 0) esNil)) (dConst (.int 1)))) (esCons (dConst (.int 2)) esNil))))) (dSeq (dSet 5 (dConst (.int 0))) (dSeq (dFor (dRange (esCons (dCall lenV (esCons (dVar 1) esNil)) esNil)) (tgName 6) (dSeq (dSet 7 (d2 itemV (dVar 1) (dVar 6))) (dSeq (dSet2 8 5 (d2 mulV (dVar 6) (dConst (.int 2)))) (dSeq (dSet 9 (dConst (.int 9223372036854775807))) (dSeq nCells (dSeq (dIf (dT (d2 gtI (dVar 9) (dVar 2))) (dSeq (dRet (d2 addV (dVar 2) (dConst (.int 1)))) dNil) dNil) dNil)))))) (dSeq (dRet (dVar 5)) dNil)))))))))))))))))
noncomputable def f__levenshtein_distance : List V → Option V := runFn D__levenshtein_distance 3 10
theorem hS__levenshtein_distance : SxOk S__levenshtein_distance := ⟨by decide +kernel, by decide +kernel⟩
theorem b__levenshtein_distance {W : Wd} (hW : WOk W) (ok__substitution_cost : FnOk W 1 "_substitution_cost" f__substitution_cost) : GoodB W 1 S__levenshtein_distance (bodyAt 15) D__levenshtein_distance := by
  have hS := hS__levenshtein_distance
  refine body_cons ?_ ?_
  · refine st_if ?_ ?_ ?_
    · refine test_cmp (op_eq _) ?_ ?_
      · exact good_var 0 (by decide +kernel) (by decide +kernel) (by decide +kernel)
      · exact good_var 1 (by decide +kernel) (by decide +kernel) (by decide +kernel)
    · refine body_cons ?_ ?_
      · refine st_ret ?_
        · exact good_int
      · exact body_nil
    · exact body_nil
  · refine body_cons ?_ ?_
    · refine st_assign 3 hS (by decide +kernel) ?_
      · exact good_int
    · refine body_cons ?_ ?_
      · refine st_while 100 ?_ ?_
        · refine test_and ?_ ?_
          · refine test_plain ?_
            · refine good_cut ?_ ?_ ?_
              · exact good_var 0 (by decide +kernel) (by decide +kernel) (by decide +kernel)
              · show GoodE _ _ _ _ _
                exact good_var 3 (by decide +kernel) (by decide +kernel) (by decide +kernel)
              · rfl
          · refine test_and ?_ ?_
            · refine test_plain ?_
              · refine good_cut ?_ ?_ ?_
                · exact good_var 1 (by decide +kernel) (by decide +kernel) (by decide +kernel)
                · show GoodE _ _ _ _ _
                  exact good_var 3 (by decide +kernel) (by decide +kernel) (by decide +kernel)
                · rfl
            · refine test_and ?_ ?_
              · refine test_cmp (op_eq _) ?_ ?_
                · refine good_item ?_ ?_
                  · exact good_var 0 (by decide +kernel) (by decide +kernel) (by decide +kernel)
                  · exact good_var 3 (by decide +kernel) (by decide +kernel) (by decide +kernel)
                · refine good_item ?_ ?_
                  · exact good_var 1 (by decide +kernel) (by decide +kernel) (by decide +kernel)
                  · exact good_var 3 (by decide +kernel) (by decide +kernel) (by decide +kernel)
              · exact test_and_nil
        · refine body_cons ?_ ?_
          · refine st_aug 3 (op_iadd _) hS (by decide +kernel) ?_ (by decide +kernel)
            · exact good_int
          · exact body_nil
      · refine body_cons ?_ ?_
        · refine st_assign 0 hS (by decide +kernel) ?_
          · refine good_cut ?_ ?_ ?_
            · exact good_var 0 (by decide +kernel) (by decide +kernel) (by decide +kernel)
            · show GoodE _ _ _ _ _
              exact good_var 3 (by decide +kernel) (by decide +kernel) (by decide +kernel)
            · rfl
        · refine body_cons ?_ ?_
          · refine st_assign 1 hS (by decide +kernel) ?_
            · refine good_cut ?_ ?_ ?_
              · exact good_var 1 (by decide +kernel) (by decide +kernel) (by decide +kernel)
              · show GoodE _ _ _ _ _
                exact good_var 3 (by decide +kernel) (by decide +kernel) (by decide +kernel)
              · rfl
          · refine body_cons ?_ ?_
            · refine st_assign 4 hS (by decide +kernel) ?_
              · exact good_int
            · refine body_cons ?_ ?_
              · refine st_while 100 ?_ ?_
                · refine test_and ?_ ?_
                  · refine test_plain ?_
                    · refine good_cut ?_ ?_ ?_
                      · exact good_var 0 (by decide +kernel) (by decide +kernel) (by decide +kernel)
                      · rfl
                      · show GoodE _ _ _ _ _
                        refine good_or ?_ ?_
                        · exact good_var 4 (by decide +kernel) (by decide +kernel) (by decide +kernel)
                        · refine good_bool1 ?_
                          · exact good_none
                  · refine test_and ?_ ?_
                    · refine test_plain ?_
                      · refine good_cut ?_ ?_ ?_
                        · exact good_var 1 (by decide +kernel) (by decide +kernel) (by decide +kernel)
                        · rfl
                        · show GoodE _ _ _ _ _
                          refine good_or ?_ ?_
                          · exact good_var 4 (by decide +kernel) (by decide +kernel) (by decide +kernel)
                          · refine good_bool1 ?_
                            · exact good_none
                    · refine test_and ?_ ?_
                      · refine test_cmp (op_eq _) ?_ ?_
                        · refine good_item ?_ ?_
                          · exact good_var 0 (by decide +kernel) (by decide +kernel) (by decide +kernel)
                          · refine good_bin (op_sub _) ?_ ?_
                            · exact good_var 4 (by decide +kernel) (by decide +kernel) (by decide +kernel)
                            · exact good_int
                        · refine good_item ?_ ?_
                          · exact good_var 1 (by decide +kernel) (by decide +kernel) (by decide +kernel)
                          · refine good_bin (op_sub _) ?_ ?_
                            · exact good_var 4 (by decide +kernel) (by decide +kernel) (by decide +kernel)
                            · exact good_int
                      · exact test_and_nil
                · refine body_cons ?_ ?_
                  · refine st_aug 4 (op_isub _) hS (by decide +kernel) ?_ (by decide +kernel)
                    · exact good_int
                  · exact body_nil
              · refine body_cons ?_ ?_
                · refine st_assign 0 hS (by decide +kernel) ?_
                  · refine good_cut ?_ ?_ ?_
                    · exact good_var 0 (by decide +kernel) (by decide +kernel) (by decide +kernel)
                    · rfl
                    · show GoodE _ _ _ _ _
                      refine good_or ?_ ?_
                      · exact good_var 4 (by decide +kernel) (by decide +kernel) (by decide +kernel)
                      · refine good_bool1 ?_
                        · exact good_none
                · refine body_cons ?_ ?_
                  · refine st_assign 1 hS (by decide +kernel) ?_
                    · refine good_cut ?_ ?_ ?_
                      · exact good_var 1 (by decide +kernel) (by decide +kernel) (by decide +kernel)
                      · rfl
                      · show GoodE _ _ _ _ _
                        refine good_or ?_ ?_
                        · exact good_var 4 (by decide +kernel) (by decide +kernel) (by decide +kernel)
                        · refine good_bool1 ?_
                          · exact good_none
                  · refine body_cons ?_ ?_
                    · refine st_if ?_ ?_ ?_
                      · refine test_or ?_ ?_
                        · refine test_not ?_
                          · refine test_plain ?_
                            · exact good_var 0 (by decide +kernel) (by decide +kernel) (by decide +kernel)
                        · refine test_or ?_ ?_
                          · refine test_not ?_
                            · refine test_plain ?_
                              · exact good_var 1 (by decide +kernel) (by decide +kernel) (by decide +kernel)
                          · exact test_or_nil
                      · refine body_cons ?_ ?_
                        · refine st_ret ?_
                          · refine good_bin (op_mul _) ?_ ?_
                            · exact good_gint hW.ok hW.c__MOVE_COST (by decide +kernel)
                            · refine good_bin (op_add _) ?_ ?_
                              · refine good_bi hW.ok hW.b_len (op_len _) (by decide +kernel) ?_
                                · refine es_cons ?_ ?_
                                  · exact good_var 0 (by decide +kernel) (by decide +kernel) (by decide +kernel)
                                  · exact es_nil
                              · refine good_bi hW.ok hW.b_len (op_len _) (by decide +kernel) ?_
                                · refine es_cons ?_ ?_
                                  · exact good_var 1 (by decide +kernel) (by decide +kernel) (by decide +kernel)
                                  · exact es_nil
                        · exact body_nil
                      · exact body_nil
                    · refine body_cons ?_ ?_
                      · refine st_if ?_ ?_ ?_
                        · refine test_or ?_ ?_
                          · refine test_cmp (op_gt _) ?_ ?_
                            · refine good_bi hW.ok hW.b_len (op_len _) (by decide +kernel) ?_
                              · refine es_cons ?_ ?_
                                · exact good_var 0 (by decide +kernel) (by decide +kernel) (by decide +kernel)
                                · exact es_nil
                            · exact good_gint hW.ok hW.c__MAX_STRING_SIZE (by decide +kernel)
                          · refine test_or ?_ ?_
                            · refine test_cmp (op_gt _) ?_ ?_
                              · refine good_bi hW.ok hW.b_len (op_len _) (by decide +kernel) ?_
                                · refine es_cons ?_ ?_
                                  · exact good_var 1 (by decide +kernel) (by decide +kernel) (by decide +kernel)
                                  · exact es_nil
                              · exact good_gint hW.ok hW.c__MAX_STRING_SIZE (by decide +kernel)
                            · exact test_or_nil
                        · refine body_cons ?_ ?_
                          · refine st_ret ?_
                            · refine good_bin (op_add _) ?_ ?_
                              · exact good_var 2 (by decide +kernel) (by decide +kernel) (by decide +kernel)
                              · exact good_int
                          · exact body_nil
                        · exact body_nil
                      · refine body_cons ?_ ?_
                        · refine st_if ?_ ?_ ?_
                          · refine test_cmp (op_lt _) ?_ ?_
                            · refine good_bi hW.ok hW.b_len (op_len _) (by decide +kernel) ?_
                              · refine es_cons ?_ ?_
                                · exact good_var 1 (by decide +kernel) (by decide +kernel) (by decide +kernel)
                                · exact es_nil
                            · refine good_bi hW.ok hW.b_len (op_len _) (by decide +kernel) ?_
                              · refine es_cons ?_ ?_
                                · exact good_var 0 (by decide +kernel) (by decide +kernel) (by decide +kernel)
                                · exact es_nil
                          · refine body_cons ?_ ?_
                            · refine st_swap ["a", "b"] (.cons (tgt_bind hS (by decide +kernel)) (.cons (tgt_bind hS (by decide +kernel)) .nil)) ?_ (by intro env h; cases env; cases h; kernel_rfl)
                              · refine good_tup ?_
                                · refine es_cons ?_ ?_
                                  · exact good_var 1 (by decide +kernel) (by decide +kernel) (by decide +kernel)
                                  · refine es_cons ?_ ?_
                                    · exact good_var 0 (by decide +kernel) (by decide +kernel) (by decide +kernel)
                                    · exact es_nil
                            · exact body_nil
                          · exact body_nil
                        · refine body_cons ?_ ?_
                          · refine st_if ?_ ?_ ?_
                            · refine test_cmp (op_gt _) ?_ ?_
                              · refine good_bin (op_mul _) ?_ ?_
                                · refine good_bin (op_sub _) ?_ ?_
                                  · refine good_bi hW.ok hW.b_len (op_len _) (by decide +kernel) ?_
                                    · refine es_cons ?_ ?_
                                      · exact good_var 1 (by decide +kernel) (by decide +kernel) (by decide +kernel)
                                      · exact es_nil
                                  · refine good_bi hW.ok hW.b_len (op_len _) (by decide +kernel) ?_
                                    · refine es_cons ?_ ?_
                                      · exact good_var 0 (by decide +kernel) (by decide +kernel) (by decide +kernel)
                                      · exact es_nil
                                · exact good_gint hW.ok hW.c__MOVE_COST (by decide +kernel)
                              · exact good_var 2 (by decide +kernel) (by decide +kernel) (by decide +kernel)
                            · refine body_cons ?_ ?_
                              · refine st_ret ?_
                                · refine good_bin (op_add _) ?_ ?_
                                  · exact good_var 2 (by decide +kernel) (by decide +kernel) (by decide +kernel)
                                  · exact good_int
                              · exact body_nil
                            · exact body_nil
                          · refine body_cons ?_ ?_
                            · refine st_own hS (by decide +kernel) (by decide +kernel) ?_
                              · refine good_listRange hW (by decide +kernel) (by decide +kernel) ?_
                                · refine es_cons ?_ ?_
                                  · exact good_gint hW.ok hW.c__MOVE_COST (by decide +kernel)
                                  · refine es_cons ?_ ?_
                                    · refine good_bin (op_mul _) ?_ ?_
                                      · exact good_gint hW.ok hW.c__MOVE_COST (by decide +kernel)
                                      · refine good_bin (op_add _) ?_ ?_
                                        · refine good_bi hW.ok hW.b_len (op_len _) (by decide +kernel) ?_
                                          · refine es_cons ?_ ?_
                                            · exact good_var 0 (by decide +kernel) (by decide +kernel) (by decide +kernel)
                                            · exact es_nil
                                        · exact good_int
                                    · refine es_cons ?_ ?_
                                      · exact good_gint hW.ok hW.c__MOVE_COST (by decide +kernel)
                                      · exact es_nil
                            · refine body_cons ?_ ?_
                              · refine st_assign 5 hS (by decide +kernel) ?_
                                · exact good_int
                              · refine body_cons ?_ ?_
                                · refine st_for ?_ ?_ ?_
                                  · refine it_range hW.ok hW.b_range (by decide +kernel) ?_
                                    · refine es_cons ?_ ?_
                                      · refine good_bi hW.ok hW.b_len (op_len _) (by decide +kernel) ?_
                                        · refine es_cons ?_ ?_
                                          · exact good_var 1 (by decide +kernel) (by decide +kernel) (by decide +kernel)
                                          · exact es_nil
                                      · exact es_nil
                                  · exact tg_name hS (by decide +kernel)
                                  · refine body_cons ?_ ?_
                                    · refine st_assign 7 hS (by decide +kernel) ?_
                                      · refine good_item ?_ ?_
                                        · exact good_var 1 (by decide +kernel) (by decide +kernel) (by decide +kernel)
                                        · exact good_var 6 (by decide +kernel) (by decide +kernel) (by decide +kernel)
                                    · refine body_cons ?_ ?_
                                      · refine st_assign2 8 5 hS (by decide +kernel) (by decide +kernel) ?_
                                        · refine good_bin (op_mul _) ?_ ?_
                                          · exact good_var 6 (by decide +kernel) (by decide +kernel) (by decide +kernel)
                                          · exact good_gint hW.ok hW.c__MOVE_COST (by decide +kernel)
                                      · refine body_cons ?_ ?_
                                        · refine st_assign 9 hS (by decide +kernel) ?_
                                          · exact good_int
                                        · refine body_cons ?_ ?_
                                          · refine cells_good ?_
                                            · refine st_for ?_ ?_ ?_
                                              · refine it_range hW.ok hW.b_range (by decide +kernel) ?_
                                                · refine es_cons ?_ ?_
                                                  · refine good_bi hW.ok hW.b_len (op_len _) (by decide +kernel) ?_
                                                    · refine es_cons ?_ ?_
                                                      · exact good_var 0 (by decide +kernel) (by decide +kernel) (by decide +kernel)
                                                      · exact es_nil
                                                  · exact es_nil
                                              · exact tg_name hS (by decide +kernel)
                                              · refine body_cons ?_ ?_
                                                · refine st_assign 11 hS (by decide +kernel) ?_
                                                  · refine good_bin (op_add _) ?_ ?_
                                                    · exact good_var 8 (by decide +kernel) (by decide +kernel) (by decide +kernel)
                                                    · refine good_call hW.ok ok__substitution_cost (by decide +kernel) (by decide +kernel) ?_
                                                      · refine es_cons ?_ ?_
                                                        · exact good_var 7 (by decide +kernel) (by decide +kernel) (by decide +kernel)
                                                        · refine es_cons ?_ ?_
                                                          · refine good_item ?_ ?_
                                                            · exact good_var 0 (by decide +kernel) (by decide +kernel) (by decide +kernel)
                                                            · exact good_var 10 (by decide +kernel) (by decide +kernel) (by decide +kernel)
                                                          · exact es_nil
                                                · refine body_cons ?_ ?_
                                                  · refine st_assign 8 hS (by decide +kernel) ?_
                                                    · refine good_ownItem (by decide +kernel) ?_ (by decide +kernel) (by decide +kernel)
                                                      · exact good_var 10 (by decide +kernel) (by decide +kernel) (by decide +kernel)
                                                  · refine body_cons ?_ ?_
                                                    · refine st_assign 12 hS (by decide +kernel) ?_
                                                      · refine good_bin (op_add _) ?_ ?_
                                                        · refine good_bi hW.ok hW.b_min (op_min _) (by decide +kernel) ?_
                                                          · refine es_cons ?_ ?_
                                                            · exact good_var 5 (by decide +kernel) (by decide +kernel) (by decide +kernel)
                                                            · refine es_cons ?_ ?_
                                                              · exact good_var 8 (by decide +kernel) (by decide +kernel) (by decide +kernel)
                                                              · exact es_nil
                                                        · exact good_gint hW.ok hW.c__MOVE_COST (by decide +kernel)
                                                    · refine body_cons ?_ ?_
                                                      · refine st_assign 5 hS (by decide +kernel) ?_
                                                        · refine good_bi hW.ok hW.b_min (op_min _) (by decide +kernel) ?_
                                                          · refine es_cons ?_ ?_
                                                            · exact good_var 12 (by decide +kernel) (by decide +kernel) (by decide +kernel)
                                                            · refine es_cons ?_ ?_
                                                              · exact good_var 11 (by decide +kernel) (by decide +kernel) (by decide +kernel)
                                                              · exact es_nil
                                                      · refine body_cons ?_ ?_
                                                        · refine st_ownSet (by decide +kernel) ?_ ?_ (by decide +kernel) (by decide +kernel)
                                                          · exact good_var 10 (by decide +kernel) (by decide +kernel) (by decide +kernel)
                                                          · exact good_var 5 (by decide +kernel) (by decide +kernel) (by decide +kernel)
                                                        · refine body_cons ?_ ?_
                                                          · refine st_if ?_ ?_ ?_
                                                            · refine test_cmp (op_lt _) ?_ ?_
                                                              · exact good_var 5 (by decide +kernel) (by decide +kernel) (by decide +kernel)
                                                              · exact good_var 9 (by decide +kernel) (by decide +kernel) (by decide +kernel)
                                                            · refine body_cons ?_ ?_
                                                              · refine st_assign 9 hS (by decide +kernel) ?_
                                                                · exact good_var 5 (by decide +kernel) (by decide +kernel) (by decide +kernel)
                                                              · exact body_nil
                                                            · exact body_nil
                                                          · exact body_nil
                                          · refine body_cons ?_ ?_
                                            · refine st_if ?_ ?_ ?_
                                              · refine test_cmp (op_gt _) ?_ ?_
                                                · exact good_var 9 (by decide +kernel) (by decide +kernel) (by decide +kernel)
                                                · exact good_var 2 (by decide +kernel) (by decide +kernel) (by decide +kernel)
                                              · refine body_cons ?_ ?_
                                                · refine st_ret ?_
                                                  · refine good_bin (op_add _) ?_ ?_
                                                    · exact good_var 2 (by decide +kernel) (by decide +kernel) (by decide +kernel)
                                                    · exact good_int
                                                · exact body_nil
                                              · exact body_nil
                                            · exact body_nil
                                · refine body_cons ?_ ?_
                                  · refine st_ret ?_
                                    · exact good_var 5 (by decide +kernel) (by decide +kernel) (by decide +kernel)
                                  · exact body_nil
theorem ok__levenshtein_distance {W : Wd} (hW : WOk W) : FnOk W 2 "_levenshtein_distance" f__levenshtein_distance := fn_at hW 8 15 _ ["a", "b", "max_cost"] 3 10 hS__levenshtein_distance (b__levenshtein_distance hW (ok__substitution_cost hW)) (by kernel_rfl) (by kernel_rfl) (by kernel_rfl) (by decide +kernel) rfl (by intro pm code doc rs h; match rs, h with | [_, _, _], _ => kernel_rfl)

noncomputable def S__law_divides : Sx := ⟨scopeAt 24, ["words", "n", "m", "bound", "told"], ""⟩
noncomputable def D__law_divides : Den := (dSeq (dFor (dRange (esCons (dConst (.int 2)) (esCons (dConst (.int 7)) esNil))) (tgName 1) (dSeq (dFor (dRange (esCons (dConst (.int 1)) (esCons (dVar 1) esNil))) (tgName 2) (dSeq (dSet 3 (d2 mulV (dConst (.int 2)) (d2 subV (dCall lenV (esCons (d2 itemV (dVar 0) (d2 subV (dVar 1) (dConst (.int 1)))) esNil)) (dCall lenV (esCons (d2 itemV (dVar 0) (d2 subV (dVar 2) (dConst (.int 1)))) esNil))))) (dSeq (dSet 4 (dCall f__levenshtein_distance (esCons (d2 itemV (dVar 0) (d2 subV (dVar 2) (dConst (.int 1)))) (esCons (d2 itemV (dVar 0) (d2 subV (dVar 1) (dConst (.int 1)))) (esCons (dVar 3) esNil))))) (dSeq (dIf (tOr (dT (d2 ltI (dVar 4) (dVar 3))) (tOr (dT (d2 neI (d2 eqI (dVar 4) (dVar 3)) (d2 eqI (d2 modV (dVar 1) (dVar 2)) (dConst (.int 0))))) tFalse)) (dSeq (dRet (dConst (.bool false))) dNil) dNil) dNil)))) dNil)) (dSeq (dRet (dConst (.bool true))) dNil))
noncomputable def f__law_divides : List V → Option V := runFn D__law_divides 1 4
theorem hS__law_divides : SxOk S__law_divides := ⟨by decide +kernel, by decide +kernel⟩
theorem b__law_divides {W : Wd} (hW : WOk W) (ok__levenshtein_distance : FnOk W 2 "_levenshtein_distance" f__levenshtein_distance) : GoodB W 2 S__law_divides (bodyAt 24) D__law_divides := by
  have hS := hS__law_divides
  refine body_cons ?_ ?_
  · refine st_for ?_ ?_ ?_
    · refine it_range hW.ok hW.b_range (by decide +kernel) ?_
      · refine es_cons ?_ ?_
        · exact good_int
        · refine es_cons ?_ ?_
          · exact good_int
          · exact es_nil
    · exact tg_name hS (by decide +kernel)
    · refine body_cons ?_ ?_
      · refine st_for ?_ ?_ ?_
        · refine it_range hW.ok hW.b_range (by decide +kernel) ?_
          · refine es_cons ?_ ?_
            · exact good_int
            · refine es_cons ?_ ?_
              · exact good_var 1 (by decide +kernel) (by decide +kernel) (by decide +kernel)
              · exact es_nil
        · exact tg_name hS (by decide +kernel)
        · refine body_cons ?_ ?_
          · refine st_assign 3 hS (by decide +kernel) ?_
            · refine good_bin (op_mul _) ?_ ?_
              · exact good_int
              · refine good_bin (op_sub _) ?_ ?_
                · refine good_bi hW.ok hW.b_len (op_len _) (by decide +kernel) ?_
                  · refine es_cons ?_ ?_
                    · refine good_item ?_ ?_
                      · exact good_var 0 (by decide +kernel) (by decide +kernel) (by decide +kernel)
                      · refine good_bin (op_sub _) ?_ ?_
                        · exact good_var 1 (by decide +kernel) (by decide +kernel) (by decide +kernel)
                        · exact good_int
                    · exact es_nil
                · refine good_bi hW.ok hW.b_len (op_len _) (by decide +kernel) ?_
                  · refine es_cons ?_ ?_
                    · refine good_item ?_ ?_
                      · exact good_var 0 (by decide +kernel) (by decide +kernel) (by decide +kernel)
                      · refine good_bin (op_sub _) ?_ ?_
                        · exact good_var 2 (by decide +kernel) (by decide +kernel) (by decide +kernel)
                        · exact good_int
                    · exact es_nil
          · refine body_cons ?_ ?_
            · refine st_assign 4 hS (by decide +kernel) ?_
              · refine good_call hW.ok ok__levenshtein_distance (by decide +kernel) (by decide +kernel) ?_
                · refine es_cons ?_ ?_
                  · refine good_item ?_ ?_
                    · exact good_var 0 (by decide +kernel) (by decide +kernel) (by decide +kernel)
                    · refine good_bin (op_sub _) ?_ ?_
                      · exact good_var 2 (by decide +kernel) (by decide +kernel) (by decide +kernel)
                      · exact good_int
                  · refine es_cons ?_ ?_
                    · refine good_item ?_ ?_
                      · exact good_var 0 (by decide +kernel) (by decide +kernel) (by decide +kernel)
                      · refine good_bin (op_sub _) ?_ ?_
                        · exact good_var 1 (by decide +kernel) (by decide +kernel) (by decide +kernel)
                        · exact good_int
                    · refine es_cons ?_ ?_
                      · exact good_var 3 (by decide +kernel) (by decide +kernel) (by decide +kernel)
                      · exact es_nil
            · refine body_cons ?_ ?_
              · refine st_if ?_ ?_ ?_
                · refine test_or ?_ ?_
                  · refine test_cmp (op_lt _) ?_ ?_
                    · exact good_var 4 (by decide +kernel) (by decide +kernel) (by decide +kernel)
                    · exact good_var 3 (by decide +kernel) (by decide +kernel) (by decide +kernel)
                  · refine test_or ?_ ?_
                    · refine test_cmp (op_ne _) ?_ ?_
                      · refine good_cmp (op_eq _) ?_ ?_
                        · exact good_var 4 (by decide +kernel) (by decide +kernel) (by decide +kernel)
                        · exact good_var 3 (by decide +kernel) (by decide +kernel) (by decide +kernel)
                      · refine good_cmp (op_eq _) ?_ ?_
                        · refine good_bin (op_mod _) ?_ ?_
                          · exact good_var 1 (by decide +kernel) (by decide +kernel) (by decide +kernel)
                          · exact good_var 2 (by decide +kernel) (by decide +kernel) (by decide +kernel)
                        · exact good_int
                    · exact test_or_nil
                · refine body_cons ?_ ?_
                  · refine st_ret ?_
                    · exact good_bool
                  · exact body_nil
                · exact body_nil
              · exact body_nil
      · exact body_nil
  · refine body_cons ?_ ?_
    · refine st_ret ?_
      · exact good_bool
    · exact body_nil
theorem ok__law_divides {W : Wd} (hW : WOk W) : FnOk W 3 "_law_divides" f__law_divides := fn_at hW 16 24 _ ["words"] 1 4 hS__law_divides (b__law_divides hW (ok__levenshtein_distance hW)) (by kernel_rfl) (by kernel_rfl) (by kernel_rfl) (by decide +kernel) rfl (by intro pm code doc rs h; match rs, h with | [_], _ => kernel_rfl)

noncomputable def S_countOf : Sx := ⟨scopeAt 8, ["a", "b", "count", "i"], ""⟩
noncomputable def D_countOf : Den := (dSeq (dSet 2 (dConst (.int 0))) (dSeq (dCount 0 1 2 3) (dSeq (dRet (dVar 2)) dNil)))
noncomputable def f_countOf : List V → Option V := runFn D_countOf 2 2
theorem hS_countOf : SxOk S_countOf := ⟨by decide +kernel, by decide +kernel⟩
theorem b_countOf {W : Wd} (hW : WOk W) : GoodB W 0 S_countOf (bodyAt 8) D_countOf := by
  have hS := hS_countOf
  refine body_cons ?_ ?_
  · refine st_assign 2 hS (by decide +kernel) ?_
    · exact good_int
  · refine body_cons ?_ ?_
    · exact st_countFor hW.nb 0 1 2 3 hS (by decide +kernel) (by decide +kernel) (by decide +kernel) (by decide +kernel) (by decide +kernel) (by decide +kernel)
    · refine body_cons ?_ ?_
      · refine st_ret ?_
        · exact good_var 2 (by decide +kernel) (by decide +kernel) (by decide +kernel)
      · exact body_nil
theorem ok_countOf {W : Wd} (hW : WOk W) : FnOk W 1 "countOf" f_countOf := fn_at hW 5 8 _ ["a", "b"] 2 2 hS_countOf (b_countOf hW) (by kernel_rfl) (by kernel_rfl) (by kernel_rfl) (by decide +kernel) rfl (by intro pm code doc rs h; match rs, h with | [_, _], _ => kernel_rfl)

noncomputable def S__law_marks : Sx := ⟨scopeAt 25, ["first", "prime", "reach", "gap"], "marks"⟩
noncomputable def D__law_marks : Den := (dSeq (dOwn (dList esNil)) (dSeq (dSet 2 (dConst (.int 0))) (dSeq (dForGen (esCons (dN (dList (esCons (dVar 0) (esCons (d2 mulV (dVar 0) (d2 subV (dVar 1) (dConst (.int 1)))) (esCons (d2 mulV (d2 mulV (dVar 0) (dVar 1)) (d2 subV (dVar 1) (dConst (.int 1)))) (esCons (dConst (.int 127)) (esCons (dConst (.int 1)) esNil))))))) esNil) (tgName 3) (dSeq (dSet 2 (dCall f_add (esCons (dVar 2) (esCons (dVar 3) esNil)))) (dSeq (dIf (tOr (dT (d2 leI (dVar 2) (dConst (.int 6)))) (tOr (dT (d2 gtI (dVar 2) (d2 mulV (d2 mulV (dVar 0) (dVar 1)) (dVar 1)))) tFalse)) (dSeq (dApp (dVar 2)) dNil) dNil) dNil))) (dSeq dRetOwn dNil))))
noncomputable def f__law_marks : List V → Option V := runFn D__law_marks 2 2
theorem hS__law_marks : SxOk S__law_marks := ⟨by decide +kernel, by decide +kernel⟩
theorem b__law_marks {W : Wd} (hW : WOk W) (ok_add : FnOk W 1 "add" f_add) : GoodB W 3 S__law_marks (bodyAt 25) D__law_marks := by
  have hS := hS__law_marks
  refine body_cons ?_ ?_
  · refine st_own hS (by decide +kernel) (by decide +kernel) ?_
    · refine new_list ?_
      · exact es_nil
  · refine body_cons ?_ ?_
    · refine st_assign 2 hS (by decide +kernel) ?_
      · exact good_int
    · refine body_cons ?_ ?_
      · refine st_forGen hW (by decide +kernel) ?_ ?_ ?_
        · refine es_cons ?_ ?_
          · refine GoodN.e ?_
            · refine new_list ?_
              · refine es_cons ?_ ?_
                · exact good_var 0 (by decide +kernel) (by decide +kernel) (by decide +kernel)
                · refine es_cons ?_ ?_
                  · refine good_bin (op_mul _) ?_ ?_
                    · exact good_var 0 (by decide +kernel) (by decide +kernel) (by decide +kernel)
                    · refine good_bin (op_sub _) ?_ ?_
                      · exact good_var 1 (by decide +kernel) (by decide +kernel) (by decide +kernel)
                      · exact good_int
                  · refine es_cons ?_ ?_
                    · refine good_bin (op_mul _) ?_ ?_
                      · refine good_bin (op_mul _) ?_ ?_
                        · exact good_var 0 (by decide +kernel) (by decide +kernel) (by decide +kernel)
                        · exact good_var 1 (by decide +kernel) (by decide +kernel) (by decide +kernel)
                      · refine good_bin (op_sub _) ?_ ?_
                        · exact good_var 1 (by decide +kernel) (by decide +kernel) (by decide +kernel)
                        · exact good_int
                    · refine es_cons ?_ ?_
                      · exact good_int
                      · refine es_cons ?_ ?_
                        · exact good_int
                        · exact es_nil
          · exact es_nil
        · exact tg_name hS (by decide +kernel)
        · refine body_cons ?_ ?_
          · refine st_assign 2 hS (by decide +kernel) ?_
            · refine good_call hW.ok ok_add (by decide +kernel) (by decide +kernel) ?_
              · refine es_cons ?_ ?_
                · exact good_var 2 (by decide +kernel) (by decide +kernel) (by decide +kernel)
                · refine es_cons ?_ ?_
                  · exact good_var 3 (by decide +kernel) (by decide +kernel) (by decide +kernel)
                  · exact es_nil
          · refine body_cons ?_ ?_
            · refine st_if ?_ ?_ ?_
              · refine test_or ?_ ?_
                · refine test_cmp (op_le _) ?_ ?_
                  · exact good_var 2 (by decide +kernel) (by decide +kernel) (by decide +kernel)
                  · exact good_int
                · refine test_or ?_ ?_
                  · refine test_cmp (op_gt _) ?_ ?_
                    · exact good_var 2 (by decide +kernel) (by decide +kernel) (by decide +kernel)
                    · refine good_bin (op_mul _) ?_ ?_
                      · refine good_bin (op_mul _) ?_ ?_
                        · exact good_var 0 (by decide +kernel) (by decide +kernel) (by decide +kernel)
                        · exact good_var 1 (by decide +kernel) (by decide +kernel) (by decide +kernel)
                      · exact good_var 1 (by decide +kernel) (by decide +kernel) (by decide +kernel)
                  · exact test_or_nil
              · refine body_cons ?_ ?_
                · refine st_app (by decide +kernel) ?_ (by decide +kernel) (by decide +kernel) (by decide +kernel) (hi := by kernel_rfl)
                  · exact good_var 2 (by decide +kernel) (by decide +kernel) (by decide +kernel)
                · exact body_nil
              · exact body_nil
            · exact body_nil
      · refine body_cons ?_ ?_
        · exact st_retOwn (by decide +kernel) (by decide +kernel) (by decide +kernel)
        · exact body_nil
theorem ok__law_marks {W : Wd} (hW : WOk W) : FnOk W 4 "_law_marks" f__law_marks := fn_at hW 17 25 _ ["first", "prime"] 2 2 hS__law_marks (b__law_marks hW (ok_add hW)) (by kernel_rfl) (by kernel_rfl) (by kernel_rfl) (by decide +kernel) rfl (by intro pm code doc rs h; match rs, h with | [_, _], _ => kernel_rfl)

noncomputable def S__law_firsts : Sx := ⟨scopeAt 26, ["counts", "primes", "count", "prime", "places", "n"], "firsts"⟩
noncomputable def D__law_firsts : Den := (dSeq (dOwn (dList esNil)) (dSeq (dFor (dZip (esCons (dVar 0) (esCons (dVar 1) esNil))) (tgTup [2, 3]) (dSeq (dSet 4 (dN (dLC (dRange (esCons (dConst (.int 1)) (esCons (dConst (.int 7)) esNil))) (dComp (tgName 0) (dCond (dT (d2 gtI (d2 itemV (dVar 1) (d2 subV (dVar 0) (dConst (.int 1)))) (dConst (.int 0)))) (dVar 0))) 1 [2]))) (dSeq (dIf (tOr (dT (d2 neI (dVar 4) (dCall f__law_marks (esCons (d2 itemV (dVar 4) (dConst (.int 0))) (esCons (dVar 3) esNil))))) (tOr (dT (d2 neI (d2 modV (d2 subV (dVar 3) (dConst (.int 1))) (d2 itemV (dVar 4) (dConst (.int 0)))) (dConst (.int 0)))) tFalse)) (dSeq (dRet (dConst .none)) dNil) dNil) (dSeq (dFor (dIter (dCut (dVar 4) (dConst (.int 1)) (dConst .none))) (tgName 5) (dSeq (dIf (tAnd (dT (d2 neI (d2 itemV (dVar 2) (d2 subV (dVar 5) (dConst (.int 1)))) (dConst (.int 1)))) (tAnd (dT (d2 neI (dTup (esCons (dVar 3) (esCons (dVar 5) esNil))) (dTup (esCons (dConst (.int 2)) (esCons (dConst (.int 2)) esNil))))) tTrue)) (dSeq (dRet (dConst .none)) dNil) dNil) dNil)) (dSeq (dApp (d2 itemV (dVar 4) (dConst (.int 0)))) dNil))))) (dSeq dRetOwn dNil)))
noncomputable def f__law_firsts : List V → Option V := runFn D__law_firsts 2 4
theorem hS__law_firsts : SxOk S__law_firsts := ⟨by decide +kernel, by decide +kernel⟩
theorem b__law_firsts {W : Wd} (hW : WOk W) (ok__law_marks : FnOk W 4 "_law_marks" f__law_marks) : GoodB W 4 S__law_firsts (bodyAt 26) D__law_firsts := by
  have hS := hS__law_firsts
  refine body_cons ?_ ?_
  · refine st_own hS (by decide +kernel) (by decide +kernel) ?_
    · refine new_list ?_
      · exact es_nil
  · refine body_cons ?_ ?_
    · refine st_for ?_ ?_ ?_
      · refine it_zip hW.ok hW.b_zip (by decide +kernel) ?_
        · refine es_cons ?_ ?_
          · exact good_var 0 (by decide +kernel) (by decide +kernel) (by decide +kernel)
          · refine es_cons ?_ ?_
            · exact good_var 1 (by decide +kernel) (by decide +kernel) (by decide +kernel)
            · exact es_nil
      · exact tg_tup (.cons (tgt_name (x := "count") (i := 2) (pos := ⟨170, 8, 170, 13⟩) hS (by decide +kernel)) (.cons (tgt_name (x := "prime") (i := 3) (pos := ⟨170, 15, 170, 20⟩) hS (by decide +kernel)) .nil))
      · refine body_cons ?_ ?_
        · refine st_compM ["n", "count"] ["n"] 4 hS (by decide +kernel) ?_ ?_ ?_ (by intro env h; cases env; cases h; kernel_rfl)
          · exact compOk_of (nown := 1) (caps := [2]) (vars := ["n"]) (by decide +kernel) (by kernel_rfl)
          · refine it_range hW.ok hW.b_range (by decide +kernel) ?_
            · refine es_cons ?_ ?_
              · exact good_int
              · refine es_cons ?_ ?_
                · exact good_int
                · exact es_nil
          · refine comp_oneC (i := 0) (mkS_ok _ _ (by decide +kernel)) (tc_of (by decide +kernel)) ?_ ?_
            · refine test_cmp (op_gt _) ?_ ?_
              · refine good_item ?_ ?_
                · exact good_var 1 (by decide +kernel) (by decide +kernel) (by decide +kernel)
                · refine good_bin (op_sub _) ?_ ?_
                  · exact good_var 0 (by decide +kernel) (by decide +kernel) (by decide +kernel)
                  · exact good_int
              · exact good_int
            · exact good_var 0 (by decide +kernel) (by decide +kernel) (by decide +kernel)
        · refine body_cons ?_ ?_
          · refine st_if ?_ ?_ ?_
            · refine test_or ?_ ?_
              · refine test_cmp (op_ne _) ?_ ?_
                · exact good_var 4 (by decide +kernel) (by decide +kernel) (by decide +kernel)
                · refine good_call hW.ok ok__law_marks (by decide +kernel) (by decide +kernel) ?_
                  · refine es_cons ?_ ?_
                    · refine good_item ?_ ?_
                      · exact good_var 4 (by decide +kernel) (by decide +kernel) (by decide +kernel)
                      · exact good_int
                    · refine es_cons ?_ ?_
                      · exact good_var 3 (by decide +kernel) (by decide +kernel) (by decide +kernel)
                      · exact es_nil
              · refine test_or ?_ ?_
                · refine test_cmp (op_ne _) ?_ ?_
                  · refine good_bin (op_mod _) ?_ ?_
                    · refine good_bin (op_sub _) ?_ ?_
                      · exact good_var 3 (by decide +kernel) (by decide +kernel) (by decide +kernel)
                      · exact good_int
                    · refine good_item ?_ ?_
                      · exact good_var 4 (by decide +kernel) (by decide +kernel) (by decide +kernel)
                      · exact good_int
                  · exact good_int
                · exact test_or_nil
            · refine body_cons ?_ ?_
              · refine st_ret ?_
                · exact good_none
              · exact body_nil
            · exact body_nil
          · refine body_cons ?_ ?_
            · refine st_for ?_ ?_ ?_
              · refine it_val ?_
                · refine good_cut ?_ ?_ ?_
                  · exact good_var 4 (by decide +kernel) (by decide +kernel) (by decide +kernel)
                  · show GoodE _ _ _ _ _
                    exact good_int
                  · rfl
              · exact tg_name hS (by decide +kernel)
              · refine body_cons ?_ ?_
                · refine st_if ?_ ?_ ?_
                  · refine test_and ?_ ?_
                    · refine test_cmp (op_ne _) ?_ ?_
                      · refine good_item ?_ ?_
                        · exact good_var 2 (by decide +kernel) (by decide +kernel) (by decide +kernel)
                        · refine good_bin (op_sub _) ?_ ?_
                          · exact good_var 5 (by decide +kernel) (by decide +kernel) (by decide +kernel)
                          · exact good_int
                      · exact good_int
                    · refine test_and ?_ ?_
                      · refine test_cmp (op_ne _) ?_ ?_
                        · refine good_tup ?_
                          · refine es_cons ?_ ?_
                            · exact good_var 3 (by decide +kernel) (by decide +kernel) (by decide +kernel)
                            · refine es_cons ?_ ?_
                              · exact good_var 5 (by decide +kernel) (by decide +kernel) (by decide +kernel)
                              · exact es_nil
                        · refine good_tup ?_
                          · refine es_cons ?_ ?_
                            · exact good_int
                            · refine es_cons ?_ ?_
                              · exact good_int
                              · exact es_nil
                      · exact test_and_nil
                  · refine body_cons ?_ ?_
                    · refine st_ret ?_
                      · exact good_none
                    · exact body_nil
                  · exact body_nil
                · exact body_nil
            · refine body_cons ?_ ?_
              · refine st_app (by decide +kernel) ?_ (by decide +kernel) (by decide +kernel) (by decide +kernel) (hi := by kernel_rfl)
                · refine good_item ?_ ?_
                  · exact good_var 4 (by decide +kernel) (by decide +kernel) (by decide +kernel)
                  · exact good_int
              · exact body_nil
    · refine body_cons ?_ ?_
      · exact st_retOwn (by decide +kernel) (by decide +kernel) (by decide +kernel)
      · exact body_nil
theorem ok__law_firsts {W : Wd} (hW : WOk W) : FnOk W 5 "_law_firsts" f__law_firsts := fn_at hW 18 26 _ ["counts", "primes"] 2 4 hS__law_firsts (b__law_firsts hW (ok__law_marks hW)) (by kernel_rfl) (by kernel_rfl) (by kernel_rfl) (by decide +kernel) rfl (by intro pm code doc rs h; match rs, h with | [_, _], _ => kernel_rfl)


end
end Lite
namespace Lite
section
open PySem PySem.Calls PyProof.Rows PySem.W

noncomputable def S_law : Sx := ⟨scopeAt 28, ["script", "great", "small", "start", "values", "lists", "primes", "rows", "counts", "words", "firsts"], ""⟩
noncomputable def D_law : Den := (dSeq (dTo [1, 2, 3] (dCall f__law_drawn (esCons (dVar 0) esNil))) (dSeq (dSet 4 (dCall f__law_values (esCons (dVar 1) (esCons (dVar 2) esNil)))) (dSeq (dSet 5 (dN (dLC (dIter (dVar 4)) (dComp (tgName 0) (dItem (dCall f__law_primes (esCons (dVar 0) esNil)))) 1 []))) (dSeq (dSet 6 (dSortSet (dLC (dIter (dVar 5)) (dComp (tgName 0) (dInner (dIter (dVar 0)) (tgName 1) (dItem (dVar 1)))) 2 []))) (dSeq (dSet 7 (dN (dLC (dIter (dVar 5)) (dComp (tgName 0) (dItem (dMeth "str" joinV (dConst (.str [])) (esCons (dN (dLC (dIter (dVar 0)) (dComp (tgName 0) (dItem (dCall chrV (esCons (d2 addV (dConst (.int 97)) (dMeth "list" indexV (dVar 1) (esCons (dVar 0) esNil))) esNil)))) 1 [1])) esNil)))) 1 [6]))) (dSeq (dSet 8 (dN (dLC (dRange (esCons (dCall lenV (esCons (dVar 6) esNil)) esNil)) (dComp (tgName 0) (dItem (dN (dLC (dIter (dVar 1)) (dComp (tgName 0) (dItem (dCall f_countOf (esCons (dVar 0) (esCons (dCall chrV (esCons (d2 addV (dConst (.int 97)) (dVar 1)) esNil)) esNil))))) 1 [0])))) 1 [7]))) (dSeq (dSet 9 (dCall f_words2 (esCons (dVar 7) (esCons (dVar 3) esNil)))) (dSeq (dIf (tOr (tNot (dT (dCall f__law_counted (esCons (dVar 8) (esCons (dVar 6) (esCons (dVar 4) esNil)))))) (tOr (tNot (dT (dCall f__law_spelled (esCons (dVar 9) (esCons (dVar 6) (esCons (dVar 1) (esCons (dVar 2) esNil))))))) tFalse)) (dSeq (dRet (dConst (.bool false))) dNil) dNil) (dSeq (dSet 10 (dCall f__law_firsts (esCons (dVar 8) (esCons (dVar 6) esNil)))) (dSeq (dIf (tOr (dT (d2 isNoneI (dVar 10) (dConst .none))) (tOr (tNot (dT (dCall f__law_new (esCons (dVar 10) (esCons (dVar 1) (esCons (dVar 2) esNil)))))) tFalse)) (dSeq (dRet (dConst (.bool false))) dNil) dNil) (dSeq (dRet (dCall f__law_divides (esCons (dVar 9) esNil))) dNil)))))))))))
noncomputable def f_law : List V → Option V := runFn D_law 1 10
theorem hS_law : SxOk S_law := ⟨by decide +kernel, by decide +kernel⟩
theorem b_law {W : Wd} (hW : WOk W) (ok__law_counted : FnOk W 1 "_law_counted" f__law_counted) (ok__law_divides : FnOk W 3 "_law_divides" f__law_divides) (ok__law_drawn : FnOk W 1 "_law_drawn" f__law_drawn) (ok__law_firsts : FnOk W 5 "_law_firsts" f__law_firsts) (ok__law_new : FnOk W 2 "_law_new" f__law_new) (ok__law_primes : FnOk W 1 "_law_primes" f__law_primes) (ok__law_spelled : FnOk W 1 "_law_spelled" f__law_spelled) (ok__law_values : FnOk W 2 "_law_values" f__law_values) (ok__law_words : FnOk W 3 "_law_words" f_words2) (ok_countOf : FnOk W 1 "countOf" f_countOf) : GoodB W 5 S_law (bodyAt 28) D_law := by
  have hS := hS_law
  refine body_cons ?_ ?_
  · refine st_to (.cons (tgt_name (x := "great") (i := 1) (pos := ⟨188, 4, 188, 9⟩) hS (by decide +kernel)) (.cons (tgt_name (x := "small") (i := 2) (pos := ⟨188, 11, 188, 16⟩) hS (by decide +kernel)) (.cons (tgt_name (x := "start") (i := 3) (pos := ⟨188, 18, 188, 23⟩) hS (by decide +kernel)) .nil))) ?_
    · refine good_call hW.ok ok__law_drawn (by decide +kernel) (by decide +kernel) ?_
      · refine es_cons ?_ ?_
        · exact good_var 0 (by decide +kernel) (by decide +kernel) (by decide +kernel)
        · exact es_nil
  · refine body_cons ?_ ?_
    · refine st_assign 4 hS (by decide +kernel) ?_
      · refine good_call hW.ok ok__law_values (by decide +kernel) (by decide +kernel) ?_
        · refine es_cons ?_ ?_
          · exact good_var 1 (by decide +kernel) (by decide +kernel) (by decide +kernel)
          · refine es_cons ?_ ?_
            · exact good_var 2 (by decide +kernel) (by decide +kernel) (by decide +kernel)
            · exact es_nil
    · refine body_cons ?_ ?_
      · refine st_compM ["value"] ["value"] 5 hS (by decide +kernel) ?_ ?_ ?_ (by intro env h; cases env; cases h; kernel_rfl)
        · exact compOk_of (nown := 1) (caps := []) (vars := ["value"]) (by decide +kernel) (by kernel_rfl)
        · refine it_val ?_
          · exact good_var 4 (by decide +kernel) (by decide +kernel) (by decide +kernel)
        · refine comp_oneN (i := 0) (mkS_ok _ _ (by decide +kernel)) (tc_of (by decide +kernel)) ?_
          · refine good_call hW.ok ok__law_primes (by decide +kernel) (by decide +kernel) ?_
            · refine es_cons ?_ ?_
              · exact good_var 0 (by decide +kernel) (by decide +kernel) (by decide +kernel)
              · exact es_nil
      · refine body_cons ?_ ?_
        · refine st_assign 6 hS (by decide +kernel) ?_
          · refine good_sortSet hW (by decide +kernel) (by decide +kernel) ?_
            · refine good_compM ["found", "prime"] ["found", "prime"] ?_ ?_ ?_
              · exact compOk_of (nown := 2) (caps := []) (vars := ["found", "prime"]) (by decide +kernel) (by kernel_rfl)
              · refine it_val ?_
                · exact good_var 5 (by decide +kernel) (by decide +kernel) (by decide +kernel)
              · refine comp_two (j1 := 0) (j2 := 1) (mkS_ok _ _ (by decide +kernel)) (tc_of (by decide +kernel)) (tc_of (by decide +kernel)) ?_ ?_
                · refine it_val ?_
                  · exact good_var 0 (by decide +kernel) (by decide +kernel) (by decide +kernel)
                · exact good_var 1 (by decide +kernel) (by decide +kernel) (by decide +kernel)
        · refine body_cons ?_ ?_
          · refine st_assignS 7 hS (by decide +kernel) ?_ (by intro env h; cases env; cases h; kernel_rfl)
            · refine GoodN.e ?_
              · refine good_compM ["found", "primes"] ["found"] ?_ ?_ ?_
                · exact compOk_of (nown := 1) (caps := [6]) (vars := ["found"]) (by decide +kernel) (by kernel_rfl)
                · refine it_val ?_
                  · exact good_var 5 (by decide +kernel) (by decide +kernel) (by decide +kernel)
                · refine comp_oneN (i := 0) (mkS_ok _ _ (by decide +kernel)) (tc_of (by decide +kernel)) ?_
                  · refine good_meth m_join (op_join _) ?_ ?_ (by decide +kernel)
                    · exact good_str [] (by decide +kernel)
                    · refine es_cons ?_ ?_
                      · refine GoodN.e ?_
                        · refine good_compM ["prime", "primes"] ["prime"] ?_ ?_ ?_
                          · exact compOk_of (nown := 1) (caps := [1]) (vars := ["prime"]) (by decide +kernel) (by kernel_rfl)
                          · refine it_val ?_
                            · exact good_var 0 (by decide +kernel) (by decide +kernel) (by decide +kernel)
                          · refine comp_oneN (i := 0) (mkS_ok _ _ (by decide +kernel)) (tc_of (by decide +kernel)) ?_
                            · refine good_bi hW.ok hW.b_chr (op_chr _) (by decide +kernel) ?_
                              · refine es_cons ?_ ?_
                                · refine good_bin (op_add _) ?_ ?_
                                  · exact good_int
                                  · refine good_meth m_index (op_index _) ?_ ?_ (by decide +kernel)
                                    · exact good_var 1 (by decide +kernel) (by decide +kernel) (by decide +kernel)
                                    · refine es_cons ?_ ?_
                                      · exact good_var 0 (by decide +kernel) (by decide +kernel) (by decide +kernel)
                                      · exact es_nil
                                · exact es_nil
                      · exact es_nil
          · refine body_cons ?_ ?_
            · refine st_compM ["k", "rows"] ["k"] 8 hS (by decide +kernel) ?_ ?_ ?_ (by intro env h; cases env; cases h; kernel_rfl)
              · exact compOk_of (nown := 1) (caps := [7]) (vars := ["k"]) (by decide +kernel) (by kernel_rfl)
              · refine it_range hW.ok hW.b_range (by decide +kernel) ?_
                · refine es_cons ?_ ?_
                  · refine good_bi hW.ok hW.b_len (op_len _) (by decide +kernel) ?_
                    · refine es_cons ?_ ?_
                      · exact good_var 6 (by decide +kernel) (by decide +kernel) (by decide +kernel)
                      · exact es_nil
                  · exact es_nil
              · refine comp_oneN (i := 0) (mkS_ok _ _ (by decide +kernel)) (tc_of (by decide +kernel)) ?_
                · refine GoodN.e ?_
                  · refine good_compM ["row", "k"] ["row"] ?_ ?_ ?_
                    · exact compOk_of (nown := 1) (caps := [0]) (vars := ["row"]) (by decide +kernel) (by kernel_rfl)
                    · refine it_val ?_
                      · exact good_var 1 (by decide +kernel) (by decide +kernel) (by decide +kernel)
                    · refine comp_oneN (i := 0) (mkS_ok _ _ (by decide +kernel)) (tc_of (by decide +kernel)) ?_
                      · refine good_call hW.ok ok_countOf (by decide +kernel) (by decide +kernel) ?_
                        · refine es_cons ?_ ?_
                          · exact good_var 0 (by decide +kernel) (by decide +kernel) (by decide +kernel)
                          · refine es_cons ?_ ?_
                            · refine good_bi hW.ok hW.b_chr (op_chr _) (by decide +kernel) ?_
                              · refine es_cons ?_ ?_
                                · refine good_bin (op_add _) ?_ ?_
                                  · exact good_int
                                  · exact good_var 1 (by decide +kernel) (by decide +kernel) (by decide +kernel)
                                · exact es_nil
                            · exact es_nil
            · refine body_cons ?_ ?_
              · refine st_assign 9 hS (by decide +kernel) ?_
                · refine good_call hW.ok ok__law_words (by decide +kernel) (by decide +kernel) ?_
                  · refine es_cons ?_ ?_
                    · exact good_var 7 (by decide +kernel) (by decide +kernel) (by decide +kernel)
                    · refine es_cons ?_ ?_
                      · exact good_var 3 (by decide +kernel) (by decide +kernel) (by decide +kernel)
                      · exact es_nil
              · refine body_cons ?_ ?_
                · refine st_if ?_ ?_ ?_
                  · refine test_or ?_ ?_
                    · refine test_not ?_
                      · refine test_plain ?_
                        · refine good_call hW.ok ok__law_counted (by decide +kernel) (by decide +kernel) ?_
                          · refine es_cons ?_ ?_
                            · exact good_var 8 (by decide +kernel) (by decide +kernel) (by decide +kernel)
                            · refine es_cons ?_ ?_
                              · exact good_var 6 (by decide +kernel) (by decide +kernel) (by decide +kernel)
                              · refine es_cons ?_ ?_
                                · exact good_var 4 (by decide +kernel) (by decide +kernel) (by decide +kernel)
                                · exact es_nil
                    · refine test_or ?_ ?_
                      · refine test_not ?_
                        · refine test_plain ?_
                          · refine good_call hW.ok ok__law_spelled (by decide +kernel) (by decide +kernel) ?_
                            · refine es_cons ?_ ?_
                              · exact good_var 9 (by decide +kernel) (by decide +kernel) (by decide +kernel)
                              · refine es_cons ?_ ?_
                                · exact good_var 6 (by decide +kernel) (by decide +kernel) (by decide +kernel)
                                · refine es_cons ?_ ?_
                                  · exact good_var 1 (by decide +kernel) (by decide +kernel) (by decide +kernel)
                                  · refine es_cons ?_ ?_
                                    · exact good_var 2 (by decide +kernel) (by decide +kernel) (by decide +kernel)
                                    · exact es_nil
                      · exact test_or_nil
                  · refine body_cons ?_ ?_
                    · refine st_ret ?_
                      · exact good_bool
                    · exact body_nil
                  · exact body_nil
                · refine body_cons ?_ ?_
                  · refine st_assign 10 hS (by decide +kernel) ?_
                    · refine good_call hW.ok ok__law_firsts (by decide +kernel) (by decide +kernel) ?_
                      · refine es_cons ?_ ?_
                        · exact good_var 8 (by decide +kernel) (by decide +kernel) (by decide +kernel)
                        · refine es_cons ?_ ?_
                          · exact good_var 6 (by decide +kernel) (by decide +kernel) (by decide +kernel)
                          · exact es_nil
                  · refine body_cons ?_ ?_
                    · refine st_if ?_ ?_ ?_
                      · refine test_or ?_ ?_
                        · refine test_cmp (op_isNone _) ?_ ?_
                          · exact good_var 10 (by decide +kernel) (by decide +kernel) (by decide +kernel)
                          · exact good_none
                        · refine test_or ?_ ?_
                          · refine test_not ?_
                            · refine test_plain ?_
                              · refine good_call hW.ok ok__law_new (by decide +kernel) (by decide +kernel) ?_
                                · refine es_cons ?_ ?_
                                  · exact good_var 10 (by decide +kernel) (by decide +kernel) (by decide +kernel)
                                  · refine es_cons ?_ ?_
                                    · exact good_var 1 (by decide +kernel) (by decide +kernel) (by decide +kernel)
                                    · refine es_cons ?_ ?_
                                      · exact good_var 2 (by decide +kernel) (by decide +kernel) (by decide +kernel)
                                      · exact es_nil
                          · exact test_or_nil
                      · refine body_cons ?_ ?_
                        · refine st_ret ?_
                          · exact good_bool
                        · exact body_nil
                      · exact body_nil
                    · refine body_cons ?_ ?_
                      · refine st_ret ?_
                        · refine good_call hW.ok ok__law_divides (by decide +kernel) (by decide +kernel) ?_
                          · refine es_cons ?_ ?_
                            · exact good_var 9 (by decide +kernel) (by decide +kernel) (by decide +kernel)
                            · exact es_nil
                      · exact body_nil
theorem ok_law {W : Wd} (hW : WOk W) : FnOk W 6 "law" f_law := fn_at hW 20 28 _ ["script"] 1 10 hS_law (b_law hW (ok__law_counted hW) (ok__law_divides hW) (ok__law_drawn hW) (ok__law_firsts hW) (ok__law_new hW) (ok__law_primes hW) (ok__law_spelled hW) (ok__law_values hW) (ok_words2 hW) (ok_countOf hW)) (by kernel_rfl) (by kernel_rfl) (by kernel_rfl) (by decide +kernel) rfl (by intro pm code doc rs h; match rs, h with | [_], _ => kernel_rfl)


end
end Lite
namespace Lite
section
open PySem PySem.Calls PyProof.Rows PySem.W
noncomputable def D_rest : Den := (dSeq (dSet 4 (dCall f__law_values (esCons (dVar 1) (esCons (dVar 2) esNil)))) (dSeq (dSet 5 (dN (dLC (dIter (dVar 4)) (dComp (tgName 0) (dItem (dCall f__law_primes (esCons (dVar 0) esNil)))) 1 []))) (dSeq (dSet 6 (dSortSet (dLC (dIter (dVar 5)) (dComp (tgName 0) (dInner (dIter (dVar 0)) (tgName 1) (dItem (dVar 1)))) 2 []))) (dSeq (dSet 7 (dN (dLC (dIter (dVar 5)) (dComp (tgName 0) (dItem (dMeth "str" joinV (dConst (.str [])) (esCons (dN (dLC (dIter (dVar 0)) (dComp (tgName 0) (dItem (dCall chrV (esCons (d2 addV (dConst (.int 97)) (dMeth "list" indexV (dVar 1) (esCons (dVar 0) esNil))) esNil)))) 1 [1])) esNil)))) 1 [6]))) (dSeq (dSet 8 (dN (dLC (dRange (esCons (dCall lenV (esCons (dVar 6) esNil)) esNil)) (dComp (tgName 0) (dItem (dN (dLC (dIter (dVar 1)) (dComp (tgName 0) (dItem (dCall f_countOf (esCons (dVar 0) (esCons (dCall chrV (esCons (d2 addV (dConst (.int 97)) (dVar 1)) esNil)) esNil))))) 1 [0])))) 1 [7]))) (dSeq (dSet 9 (dCall f_words2 (esCons (dVar 7) (esCons (dVar 3) esNil)))) (dSeq (dIf (tOr (tNot (dT (dCall f__law_counted (esCons (dVar 8) (esCons (dVar 6) (esCons (dVar 4) esNil)))))) (tOr (tNot (dT (dCall f__law_spelled (esCons (dVar 9) (esCons (dVar 6) (esCons (dVar 1) (esCons (dVar 2) esNil))))))) tFalse)) (dSeq (dRet (dConst (.bool false))) dNil) dNil) (dSeq (dSet 10 (dCall f__law_firsts (esCons (dVar 8) (esCons (dVar 6) esNil)))) (dSeq (dIf (tOr (dT (d2 isNoneI (dVar 10) (dConst .none))) (tOr (tNot (dT (dCall f__law_new (esCons (dVar 10) (esCons (dVar 1) (esCons (dVar 2) esNil)))))) tFalse)) (dSeq (dRet (dConst (.bool false))) dNil) dNil) (dSeq (dRet (dCall f__law_divides (esCons (dVar 9) esNil))) dNil))))))))))
theorem law_split : D_law = dSeq (dTo [1, 2, 3] (dCall f__law_drawn (esCons (dVar 0) esNil))) D_rest := rfl
noncomputable def verdict (σ : St) : Option V := (D_rest σ).bind fun p => match p.1 with | .ret v => some v | .next => some .none | _ => none
noncomputable def stOf (l : Option V) (G S a : Int) : St := ⟨[l, some (.int G), some (.int S), some (.int a), none, none, none, none, none, none, none], none⟩

end
end Lite
namespace Lite
section
open PySem PySem.Calls PyProof.Rows PySem.W
open PySem.Challenge
noncomputable def unbooked (h : Heap) : Bool := match h.get? cStatics with | some o => (match o.data with | .dict es _ => (nsFind es sharingNotToldKey).isNone | _ => false) | none => false
noncomputable def bookHook : Hook := ⟨Bool, fun s => unbooked s.heap, fun _ => true, fun _ h => unbooked h = true, fun _ _ e => e, fun _ h h' e k => by
  unfold unbooked at e ⊢
  split at e
  · next o ho => rw [k _ _ ho]; exact e
  · cases e⟩
noncomputable def vw : Program := { pw_wk0020_01 with main := { pw_wk0020_01.main with body := pw_wk0020_01.main.body.filter fun s => match s with | .Assign _ (.Constant (.str _) ..) .. => false | _ => true } }
theorem lft : LeftO pw_wk0020_01 vw [] (fun s => xlAt vw [] s && recOk (RowW.records rw_wk0020_01.row.toRowW) s) bookHook.obs bookHook.val 1600 := by
  intro w
  kernel_rfl
theorem said0 : OpenRow.wellSaid rw_wk0020_01.row = true := by kernel_rfl
theorem said1 : OpenLaw.wellSaid rw_wk0020_01 = true := by
  unfold OpenLaw.wellSaid
  rw [said0]
  kernel_rfl
theorem head (call : WalkO vw [] (XL vw []) bookHook.says rw_wk0020_01.row.toRowW (recAt 28) [] fun f vs => PySem.call f vs) : rw_wk0020_01.Holds := by
  refine holds_law said1 fun said => ?_
  refine holds_open (r := rw_wk0020_01.row) (q := vw) (loose := []) (Xt := fun s => xlAt vw [] s && recOk (RowW.records rw_wk0020_01.row.toRowW) s) (XP := XL vw []) (Yf := bookHook.obs) (Ya := bookHook.val) (YP := bookHook.says) (N := 1600) lft (Hook.of bookHook) (Hook.keeps bookHook) (fun s e => xl_of s (Bool.and_eq_true_iff.mp e).1) XL.keeps (by kernel_rfl) (by kernel_rfl) (by kernel_rfl) (fun s e => recFacts_of (Bool.and_eq_true_iff.mp e).2) (by kernel_rfl) said0 (by decide +kernel) ⟨rfl, rfl, rfl, rfl, rfl, by decide +kernel⟩ ?_ call
  w_witness2

end
end Lite
namespace Lite
section
open PySem PySem.Calls PyProof.Rows PySem.W
theorem view_recs : recsOf vw = recsOf prog1 := by kernel_rfl
theorem gint_of {x : Str} {i : Int} {mg : Str → Option Value} {W : Wd} (hW : W.mg = mg) (h : ∃ v, mg x = some v ∧ ∀ h' : Heap, Reads h' v (.int i) []) (h0 : Heap) : GInt W x i := by
  obtain ⟨v, hv, hr⟩ := h
  have := hr h0
  cases this with
  | int _ t => exact ⟨t, by rw [hW]; exact hv⟩
noncomputable def plainName (x : Str) : Bool := decide (x ∉ startupNames) && decide (x ∉ looseW vw []) && decide (x ∉ (recsOf vw).map (·.name)) && decide (x ∉ (litsOf vw).map (·.1)) && decide (x ∉ (clssOf vw (looseW vw [])).map (·.name)) && decide (x ≠ "__name__")
theorem plain_names : (["len", "chr", "ord", "min", "sorted", "range", "zip", "enumerate", "set", "list"] : List Str).all plainName = true := by kernel_rfl
theorem wok {w : World} {mean : ExcName → Option Value} {mg mb : Str → Option Value} {h : Heap} (T : Top vw (looseW vw []) mean mg mb h) (nb : NoneBooked h) : WOk ⟨prog1, w, h, mg, mb⟩ := by
  have bi : ∀ (n : Nat) (x : Str) (v : Value), (["len", "chr", "ord", "min", "sorted", "range", "zip", "enumerate", "set", "list"] : List Str)[n]? = some x → bootBuiltins x = some v → Bi ⟨prog1, w, h, mg, mb⟩ x v := by
    intro n x v hn hb
    have hx := List.all_eq_true.mp plain_names x (List.mem_of_getElem? hn)
    unfold plainName at hx
    simp only [Bool.and_eq_true, decide_eq_true_eq] at hx
    obtain ⟨⟨⟨⟨⟨h1, h2⟩, h3⟩, h4⟩, h5⟩, h6⟩ := hx
    exact ⟨T.free x h1 h2 h3 h4 h5, (T.builtins x h6).trans hb⟩
  exact {
    has := ⟨⟨T.g, T.b, T.nolimit⟩, fun d hd' => T.fn d (by rw [view_recs]; exact hd')⟩
    nb := nb
    c_CHAR_MAX := gint_of rfl (T.const _ _ (by kernel_rfl)) h
    c__MAX_STRING_SIZE := gint_of rfl (T.const _ _ (by kernel_rfl)) h
    c__MOVE_COST := gint_of rfl (T.const _ _ (by kernel_rfl)) h
    c__CASE_COST := gint_of rfl (T.const _ _ (by kernel_rfl)) h
    b_len := bi 0 _ _ rfl (by kernel_rfl)
    b_chr := bi 1 _ _ rfl (by kernel_rfl)
    b_ord := bi 2 _ _ rfl (by kernel_rfl)
    b_min := bi 3 _ _ rfl (by kernel_rfl)
    b_sorted := bi 4 _ _ rfl (by kernel_rfl)
    b_range := bi 5 _ _ rfl (by kernel_rfl)
    b_zip := bi 6 _ _ rfl (by kernel_rfl)
    b_enumerate := bi 7 _ _ rfl (by kernel_rfl)
    b_set := bi 8 _ _ rfl (by kernel_rfl)
    b_list := bi 9 _ _ rfl (by kernel_rfl) }

end
end Lite
namespace Lite
section
open PySem PySem.Calls PyProof.Rows PySem.W
noncomputable def D_dtail : Den := (dSeq (dSet 5 (dVar 3)) (dSeq (dSet 6 (dVar 4)) (dSeq (dWhile (dT (d2 neI (dVar 6) (dConst (.int 0)))) (dSeq (dSwap [6, 5] (dTup (esCons (dVar 6) (esCons (d2 modV (dVar 5) (dVar 6)) esNil)))) dNil) 30) (dSeq (dRet (dTup (esCons (d2 divV (dVar 3) (dVar 5)) (esCons (d2 divV (dVar 4) (dVar 5)) (esCons (dOwnItem (dConst (.int 2))) esNil))))) dNil))))
noncomputable def D_dhead : Den → Den := fun T => (dSeq (dOwn (dList (esCons (dConst (.int 5)) (esCons (dConst (.int 0)) (esCons (dConst (.int 0)) esNil))))) (dSeq (dFor (dEnum (esCons (dCut (dVar 0) (dConst .none) (dConst (.int 3))) esNil)) (tgTup [1, 2]) (dSeq (dOwnSet (dVar 1) (d2 addV (dOwnItem (dVar 1)) (d2 modV (dVar 2) (dConst (.int 1000000))))) dNil)) (dSeq (dSet 3 (d2 addV (dConst (.int 2)) (d2 modV (dOwnItem (dConst (.int 0))) (dConst (.int 19))))) (dSeq (dSet 4 (d2 addV (dConst (.int 1)) (d2 modV (dOwnItem (dConst (.int 1))) (d2 subV (dVar 3) (dConst (.int 1)))))) T))))
theorem drawn_split : D__law_drawn = D_dhead D_dtail := rfl
noncomputable def dAns (σ : St) : Option V := (D_dtail σ).bind fun p => match p.1 with | .ret v => some v | _ => none

noncomputable def baseOf : List Int → Int × Int × Int
  | [] => (5, 0, 0)
  | [x] => (5 + x.fmod 1000000, 0, 0)
  | [x, y] => (5 + x.fmod 1000000, 0 + y.fmod 1000000, 0)
  | x :: y :: z :: _ => (5 + x.fmod 1000000, 0 + y.fmod 1000000, 0 + z.fmod 1000000)
noncomputable def D_dloop : Den := (dFor (dEnum (esCons (dCut (dVar 0) (dConst .none) (dConst (.int 3))) esNil)) (tgTup [1, 2]) (dSeq (dOwnSet (dVar 1) (d2 addV (dOwnItem (dVar 1)) (d2 modV (dVar 2) (dConst (.int 1000000))))) dNil))
theorem cut_three (l : List V) (h : l.length < 1000000) (r : List (Option V)) (own : Option (List V)) : dCut (dVar 0) (dConst .none) (dConst (.int 3)) ⟨some (.list l) :: r, own⟩ = some (.list (l.take 3)) := by
  have e : dCut (dVar 0) (dConst .none) (dConst (.int 3)) ⟨some (.list l) :: r, own⟩ = (match short l with | true => (cutL l none (some 3)).map .list | false => none) := rfl
  rw [e, show short l = true from decide_eq_true h]
  rfl

noncomputable def B_d : Den := (dSeq (dOwnSet (dVar 1) (d2 addV (dOwnItem (dVar 1)) (d2 modV (dVar 2) (dConst (.int 1000000))))) dNil)
theorem dloop_eq (l : List V) (h : l.length < 1000000) (r : List (Option V)) (own : Option (List V)) : D_dloop ⟨some (.list l) :: r, own⟩ = dLoop (tgTup [1, 2]) B_d (enumL 0 (l.take 3)) ⟨some (.list l) :: r, own⟩ := by
  have e : dEnum (esCons (dCut (dVar 0) (dConst .none) (dConst (.int 3))) esNil) ⟨some (.list l) :: r, own⟩ = some (enumL 0 (l.take 3)) := by
    unfold dEnum esCons esNil
    rw [cut_three l h r own]; rfl
  unfold D_dloop dFor
  rw [e]; rfl
theorem dloop0 (s : Option V) : dLoop (tgTup [1, 2]) B_d (enumL 0 []) ⟨[s, none, none, none, none, none, none], some [.int 5, .int 0, .int 0]⟩ = some (.next, ⟨[s, none, none, none, none, none, none], some [.int 5, .int 0, .int 0]⟩) := by kernel_rfl
theorem dloop1 (s : Option V) (x : Int) : dLoop (tgTup [1, 2]) B_d (enumL 0 [.int x]) ⟨[s, none, none, none, none, none, none], some [.int 5, .int 0, .int 0]⟩ = some (.next, ⟨[s, some (.int 0), some (.int x), none, none, none, none], some [.int (5 + x.fmod 1000000), .int 0, .int 0]⟩) := by kernel_rfl
theorem dloop2 (s : Option V) (x y : Int) : dLoop (tgTup [1, 2]) B_d (enumL 0 [.int x, .int y]) ⟨[s, none, none, none, none, none, none], some [.int 5, .int 0, .int 0]⟩ = some (.next, ⟨[s, some (.int 1), some (.int y), none, none, none, none], some [.int (5 + x.fmod 1000000), .int (0 + y.fmod 1000000), .int 0]⟩) := by kernel_rfl
theorem dloop3 (s : Option V) (x y z : Int) : dLoop (tgTup [1, 2]) B_d (enumL 0 [.int x, .int y, .int z]) ⟨[s, none, none, none, none, none, none], some [.int 5, .int 0, .int 0]⟩ = some (.next, ⟨[s, some (.int 2), some (.int z), none, none, none, none], some [.int (5 + x.fmod 1000000), .int (0 + y.fmod 1000000), .int (0 + z.fmod 1000000)]⟩) := by kernel_rfl

theorem dseq_next {D₁ D₂ : Den} {σ σ' : St} (h : D₁ σ = some (.next, σ')) : dSeq D₁ D₂ σ = D₂ σ' := by unfold dSeq; rw [h]; rfl
theorem mod_def (a b : Int) : modV (.int a) (.int b) = (if b.natAbs == 0 then none else some (.int (a.fmod b))) := rfl
theorem head_eq (T : Den) (l : List V) (h : l.length < 1000000) (p x : Option V) (b0 b1 b2 : Int)
    (hl : dLoop (tgTup [1, 2]) B_d (enumL 0 (l.take 3)) ⟨[some (.list l), none, none, none, none, none, none], some [.int 5, .int 0, .int 0]⟩ = some (.next, ⟨[some (.list l), p, x, none, none, none, none], some [.int b0, .int b1, .int b2]⟩))
    (hg : (2 + b0.fmod 19) - 1 ≠ 0) : D_dhead T ⟨[some (.list l), none, none, none, none, none, none], none⟩ = T ⟨[some (.list l), p, x, some (.int (2 + b0.fmod 19)), some (.int (1 + b1.fmod ((2 + b0.fmod 19) - 1))), none, none], some [.int b0, .int b1, .int b2]⟩ := by
  unfold D_dhead
  rw [dseq_next (σ' := ⟨[some (.list l), none, none, none, none, none, none], some [.int 5, .int 0, .int 0]⟩) rfl]
  refine (dseq_next (D₁ := D_dloop) ((dloop_eq l h _ _).trans hl)).trans ?_
  refine (dseq_next (σ' := ⟨[some (.list l), p, x, some (.int (2 + b0.fmod 19)), none, none, none], some [.int b0, .int b1, .int b2]⟩) rfl).trans ?_
  refine dseq_next ?_
  generalize 2 + b0.fmod 19 = g at hg
  have e : d2 modV (dOwnItem (dConst (.int 1))) (d2 subV (dVar 3) (dConst (.int 1))) ⟨[some (.list l), p, x, some (.int g), none, none, none], some [.int b0, .int b1, .int b2]⟩ = some (.int (b1.fmod (g - 1))) := by
    have e1 : d2 modV (dOwnItem (dConst (.int 1))) (d2 subV (dVar 3) (dConst (.int 1))) ⟨[some (.list l), p, x, some (.int g), none, none, none], some [.int b0, .int b1, .int b2]⟩ = modV (.int b1) (.int (g - 1)) := rfl
    rw [e1, mod_def, if_neg (by simp; omega)]
  unfold dSet
  have e2 : d2 addV (dConst (.int 1)) (d2 modV (dOwnItem (dConst (.int 1))) (d2 subV (dVar 3) (dConst (.int 1)))) ⟨[some (.list l), p, x, some (.int g), none, none, none], some [.int b0, .int b1, .int b2]⟩ = some (.int (1 + b1.fmod (g - 1))) := by
    unfold d2 at e ⊢
    rw [e]; rfl
  rw [e2]; rfl

end
end Lite
namespace Lite
section
open PySem PySem.Calls PyProof.Rows PySem.W

theorem dt_2_1 (l p x : Option V) (b0 b1 b2 : Int) : dAns ⟨[l, p, x, some (.int 2), some (.int 1), none, none], some [.int b0, .int b1, .int b2]⟩ = some (.tup [.int 2, .int 1, .int b2]) := by kernel_rfl
theorem dt_3_1 (l p x : Option V) (b0 b1 b2 : Int) : dAns ⟨[l, p, x, some (.int 3), some (.int 1), none, none], some [.int b0, .int b1, .int b2]⟩ = some (.tup [.int 3, .int 1, .int b2]) := by kernel_rfl
theorem dt_3_2 (l p x : Option V) (b0 b1 b2 : Int) : dAns ⟨[l, p, x, some (.int 3), some (.int 2), none, none], some [.int b0, .int b1, .int b2]⟩ = some (.tup [.int 3, .int 2, .int b2]) := by kernel_rfl
theorem dt_4_1 (l p x : Option V) (b0 b1 b2 : Int) : dAns ⟨[l, p, x, some (.int 4), some (.int 1), none, none], some [.int b0, .int b1, .int b2]⟩ = some (.tup [.int 4, .int 1, .int b2]) := by kernel_rfl
theorem dt_4_2 (l p x : Option V) (b0 b1 b2 : Int) : dAns ⟨[l, p, x, some (.int 4), some (.int 2), none, none], some [.int b0, .int b1, .int b2]⟩ = some (.tup [.int 2, .int 1, .int b2]) := by kernel_rfl
theorem dt_4_3 (l p x : Option V) (b0 b1 b2 : Int) : dAns ⟨[l, p, x, some (.int 4), some (.int 3), none, none], some [.int b0, .int b1, .int b2]⟩ = some (.tup [.int 4, .int 3, .int b2]) := by kernel_rfl
theorem dt_5_1 (l p x : Option V) (b0 b1 b2 : Int) : dAns ⟨[l, p, x, some (.int 5), some (.int 1), none, none], some [.int b0, .int b1, .int b2]⟩ = some (.tup [.int 5, .int 1, .int b2]) := by kernel_rfl
theorem dt_5_2 (l p x : Option V) (b0 b1 b2 : Int) : dAns ⟨[l, p, x, some (.int 5), some (.int 2), none, none], some [.int b0, .int b1, .int b2]⟩ = some (.tup [.int 5, .int 2, .int b2]) := by kernel_rfl
theorem dt_5_3 (l p x : Option V) (b0 b1 b2 : Int) : dAns ⟨[l, p, x, some (.int 5), some (.int 3), none, none], some [.int b0, .int b1, .int b2]⟩ = some (.tup [.int 5, .int 3, .int b2]) := by kernel_rfl
theorem dt_5_4 (l p x : Option V) (b0 b1 b2 : Int) : dAns ⟨[l, p, x, some (.int 5), some (.int 4), none, none], some [.int b0, .int b1, .int b2]⟩ = some (.tup [.int 5, .int 4, .int b2]) := by kernel_rfl
theorem dt_6_1 (l p x : Option V) (b0 b1 b2 : Int) : dAns ⟨[l, p, x, some (.int 6), some (.int 1), none, none], some [.int b0, .int b1, .int b2]⟩ = some (.tup [.int 6, .int 1, .int b2]) := by kernel_rfl
theorem dt_6_2 (l p x : Option V) (b0 b1 b2 : Int) : dAns ⟨[l, p, x, some (.int 6), some (.int 2), none, none], some [.int b0, .int b1, .int b2]⟩ = some (.tup [.int 3, .int 1, .int b2]) := by kernel_rfl
theorem dt_6_3 (l p x : Option V) (b0 b1 b2 : Int) : dAns ⟨[l, p, x, some (.int 6), some (.int 3), none, none], some [.int b0, .int b1, .int b2]⟩ = some (.tup [.int 2, .int 1, .int b2]) := by kernel_rfl
theorem dt_6_4 (l p x : Option V) (b0 b1 b2 : Int) : dAns ⟨[l, p, x, some (.int 6), some (.int 4), none, none], some [.int b0, .int b1, .int b2]⟩ = some (.tup [.int 3, .int 2, .int b2]) := by kernel_rfl
theorem dt_6_5 (l p x : Option V) (b0 b1 b2 : Int) : dAns ⟨[l, p, x, some (.int 6), some (.int 5), none, none], some [.int b0, .int b1, .int b2]⟩ = some (.tup [.int 6, .int 5, .int b2]) := by kernel_rfl
theorem dt_7_1 (l p x : Option V) (b0 b1 b2 : Int) : dAns ⟨[l, p, x, some (.int 7), some (.int 1), none, none], some [.int b0, .int b1, .int b2]⟩ = some (.tup [.int 7, .int 1, .int b2]) := by kernel_rfl
theorem dt_7_2 (l p x : Option V) (b0 b1 b2 : Int) : dAns ⟨[l, p, x, some (.int 7), some (.int 2), none, none], some [.int b0, .int b1, .int b2]⟩ = some (.tup [.int 7, .int 2, .int b2]) := by kernel_rfl
theorem dt_7_3 (l p x : Option V) (b0 b1 b2 : Int) : dAns ⟨[l, p, x, some (.int 7), some (.int 3), none, none], some [.int b0, .int b1, .int b2]⟩ = some (.tup [.int 7, .int 3, .int b2]) := by kernel_rfl
theorem dt_7_4 (l p x : Option V) (b0 b1 b2 : Int) : dAns ⟨[l, p, x, some (.int 7), some (.int 4), none, none], some [.int b0, .int b1, .int b2]⟩ = some (.tup [.int 7, .int 4, .int b2]) := by kernel_rfl
theorem dt_7_5 (l p x : Option V) (b0 b1 b2 : Int) : dAns ⟨[l, p, x, some (.int 7), some (.int 5), none, none], some [.int b0, .int b1, .int b2]⟩ = some (.tup [.int 7, .int 5, .int b2]) := by kernel_rfl
theorem dt_7_6 (l p x : Option V) (b0 b1 b2 : Int) : dAns ⟨[l, p, x, some (.int 7), some (.int 6), none, none], some [.int b0, .int b1, .int b2]⟩ = some (.tup [.int 7, .int 6, .int b2]) := by kernel_rfl
theorem dt_8_1 (l p x : Option V) (b0 b1 b2 : Int) : dAns ⟨[l, p, x, some (.int 8), some (.int 1), none, none], some [.int b0, .int b1, .int b2]⟩ = some (.tup [.int 8, .int 1, .int b2]) := by kernel_rfl
theorem dt_8_2 (l p x : Option V) (b0 b1 b2 : Int) : dAns ⟨[l, p, x, some (.int 8), some (.int 2), none, none], some [.int b0, .int b1, .int b2]⟩ = some (.tup [.int 4, .int 1, .int b2]) := by kernel_rfl
theorem dt_8_3 (l p x : Option V) (b0 b1 b2 : Int) : dAns ⟨[l, p, x, some (.int 8), some (.int 3), none, none], some [.int b0, .int b1, .int b2]⟩ = some (.tup [.int 8, .int 3, .int b2]) := by kernel_rfl
theorem dt_8_4 (l p x : Option V) (b0 b1 b2 : Int) : dAns ⟨[l, p, x, some (.int 8), some (.int 4), none, none], some [.int b0, .int b1, .int b2]⟩ = some (.tup [.int 2, .int 1, .int b2]) := by kernel_rfl
theorem dt_8_5 (l p x : Option V) (b0 b1 b2 : Int) : dAns ⟨[l, p, x, some (.int 8), some (.int 5), none, none], some [.int b0, .int b1, .int b2]⟩ = some (.tup [.int 8, .int 5, .int b2]) := by kernel_rfl
theorem dt_8_6 (l p x : Option V) (b0 b1 b2 : Int) : dAns ⟨[l, p, x, some (.int 8), some (.int 6), none, none], some [.int b0, .int b1, .int b2]⟩ = some (.tup [.int 4, .int 3, .int b2]) := by kernel_rfl
theorem dt_8_7 (l p x : Option V) (b0 b1 b2 : Int) : dAns ⟨[l, p, x, some (.int 8), some (.int 7), none, none], some [.int b0, .int b1, .int b2]⟩ = some (.tup [.int 8, .int 7, .int b2]) := by kernel_rfl
theorem dt_9_1 (l p x : Option V) (b0 b1 b2 : Int) : dAns ⟨[l, p, x, some (.int 9), some (.int 1), none, none], some [.int b0, .int b1, .int b2]⟩ = some (.tup [.int 9, .int 1, .int b2]) := by kernel_rfl
theorem dt_9_2 (l p x : Option V) (b0 b1 b2 : Int) : dAns ⟨[l, p, x, some (.int 9), some (.int 2), none, none], some [.int b0, .int b1, .int b2]⟩ = some (.tup [.int 9, .int 2, .int b2]) := by kernel_rfl
theorem dt_9_3 (l p x : Option V) (b0 b1 b2 : Int) : dAns ⟨[l, p, x, some (.int 9), some (.int 3), none, none], some [.int b0, .int b1, .int b2]⟩ = some (.tup [.int 3, .int 1, .int b2]) := by kernel_rfl
theorem dt_9_4 (l p x : Option V) (b0 b1 b2 : Int) : dAns ⟨[l, p, x, some (.int 9), some (.int 4), none, none], some [.int b0, .int b1, .int b2]⟩ = some (.tup [.int 9, .int 4, .int b2]) := by kernel_rfl
theorem dt_9_5 (l p x : Option V) (b0 b1 b2 : Int) : dAns ⟨[l, p, x, some (.int 9), some (.int 5), none, none], some [.int b0, .int b1, .int b2]⟩ = some (.tup [.int 9, .int 5, .int b2]) := by kernel_rfl
theorem dt_9_6 (l p x : Option V) (b0 b1 b2 : Int) : dAns ⟨[l, p, x, some (.int 9), some (.int 6), none, none], some [.int b0, .int b1, .int b2]⟩ = some (.tup [.int 3, .int 2, .int b2]) := by kernel_rfl
theorem dt_9_7 (l p x : Option V) (b0 b1 b2 : Int) : dAns ⟨[l, p, x, some (.int 9), some (.int 7), none, none], some [.int b0, .int b1, .int b2]⟩ = some (.tup [.int 9, .int 7, .int b2]) := by kernel_rfl
theorem dt_9_8 (l p x : Option V) (b0 b1 b2 : Int) : dAns ⟨[l, p, x, some (.int 9), some (.int 8), none, none], some [.int b0, .int b1, .int b2]⟩ = some (.tup [.int 9, .int 8, .int b2]) := by kernel_rfl
theorem dt_10_1 (l p x : Option V) (b0 b1 b2 : Int) : dAns ⟨[l, p, x, some (.int 10), some (.int 1), none, none], some [.int b0, .int b1, .int b2]⟩ = some (.tup [.int 10, .int 1, .int b2]) := by kernel_rfl
theorem dt_10_2 (l p x : Option V) (b0 b1 b2 : Int) : dAns ⟨[l, p, x, some (.int 10), some (.int 2), none, none], some [.int b0, .int b1, .int b2]⟩ = some (.tup [.int 5, .int 1, .int b2]) := by kernel_rfl
theorem dt_10_3 (l p x : Option V) (b0 b1 b2 : Int) : dAns ⟨[l, p, x, some (.int 10), some (.int 3), none, none], some [.int b0, .int b1, .int b2]⟩ = some (.tup [.int 10, .int 3, .int b2]) := by kernel_rfl
theorem dt_10_4 (l p x : Option V) (b0 b1 b2 : Int) : dAns ⟨[l, p, x, some (.int 10), some (.int 4), none, none], some [.int b0, .int b1, .int b2]⟩ = some (.tup [.int 5, .int 2, .int b2]) := by kernel_rfl
theorem dt_10_5 (l p x : Option V) (b0 b1 b2 : Int) : dAns ⟨[l, p, x, some (.int 10), some (.int 5), none, none], some [.int b0, .int b1, .int b2]⟩ = some (.tup [.int 2, .int 1, .int b2]) := by kernel_rfl
theorem dt_10_6 (l p x : Option V) (b0 b1 b2 : Int) : dAns ⟨[l, p, x, some (.int 10), some (.int 6), none, none], some [.int b0, .int b1, .int b2]⟩ = some (.tup [.int 5, .int 3, .int b2]) := by kernel_rfl
theorem dt_10_7 (l p x : Option V) (b0 b1 b2 : Int) : dAns ⟨[l, p, x, some (.int 10), some (.int 7), none, none], some [.int b0, .int b1, .int b2]⟩ = some (.tup [.int 10, .int 7, .int b2]) := by kernel_rfl
theorem dt_10_8 (l p x : Option V) (b0 b1 b2 : Int) : dAns ⟨[l, p, x, some (.int 10), some (.int 8), none, none], some [.int b0, .int b1, .int b2]⟩ = some (.tup [.int 5, .int 4, .int b2]) := by kernel_rfl
theorem dt_10_9 (l p x : Option V) (b0 b1 b2 : Int) : dAns ⟨[l, p, x, some (.int 10), some (.int 9), none, none], some [.int b0, .int b1, .int b2]⟩ = some (.tup [.int 10, .int 9, .int b2]) := by kernel_rfl
theorem dt_11_1 (l p x : Option V) (b0 b1 b2 : Int) : dAns ⟨[l, p, x, some (.int 11), some (.int 1), none, none], some [.int b0, .int b1, .int b2]⟩ = some (.tup [.int 11, .int 1, .int b2]) := by kernel_rfl
theorem dt_11_2 (l p x : Option V) (b0 b1 b2 : Int) : dAns ⟨[l, p, x, some (.int 11), some (.int 2), none, none], some [.int b0, .int b1, .int b2]⟩ = some (.tup [.int 11, .int 2, .int b2]) := by kernel_rfl
theorem dt_11_3 (l p x : Option V) (b0 b1 b2 : Int) : dAns ⟨[l, p, x, some (.int 11), some (.int 3), none, none], some [.int b0, .int b1, .int b2]⟩ = some (.tup [.int 11, .int 3, .int b2]) := by kernel_rfl
theorem dt_11_4 (l p x : Option V) (b0 b1 b2 : Int) : dAns ⟨[l, p, x, some (.int 11), some (.int 4), none, none], some [.int b0, .int b1, .int b2]⟩ = some (.tup [.int 11, .int 4, .int b2]) := by kernel_rfl
theorem dt_11_5 (l p x : Option V) (b0 b1 b2 : Int) : dAns ⟨[l, p, x, some (.int 11), some (.int 5), none, none], some [.int b0, .int b1, .int b2]⟩ = some (.tup [.int 11, .int 5, .int b2]) := by kernel_rfl
theorem dt_11_6 (l p x : Option V) (b0 b1 b2 : Int) : dAns ⟨[l, p, x, some (.int 11), some (.int 6), none, none], some [.int b0, .int b1, .int b2]⟩ = some (.tup [.int 11, .int 6, .int b2]) := by kernel_rfl
theorem dt_11_7 (l p x : Option V) (b0 b1 b2 : Int) : dAns ⟨[l, p, x, some (.int 11), some (.int 7), none, none], some [.int b0, .int b1, .int b2]⟩ = some (.tup [.int 11, .int 7, .int b2]) := by kernel_rfl
theorem dt_11_8 (l p x : Option V) (b0 b1 b2 : Int) : dAns ⟨[l, p, x, some (.int 11), some (.int 8), none, none], some [.int b0, .int b1, .int b2]⟩ = some (.tup [.int 11, .int 8, .int b2]) := by kernel_rfl
theorem dt_11_9 (l p x : Option V) (b0 b1 b2 : Int) : dAns ⟨[l, p, x, some (.int 11), some (.int 9), none, none], some [.int b0, .int b1, .int b2]⟩ = some (.tup [.int 11, .int 9, .int b2]) := by kernel_rfl
theorem dt_11_10 (l p x : Option V) (b0 b1 b2 : Int) : dAns ⟨[l, p, x, some (.int 11), some (.int 10), none, none], some [.int b0, .int b1, .int b2]⟩ = some (.tup [.int 11, .int 10, .int b2]) := by kernel_rfl
theorem dt_12_1 (l p x : Option V) (b0 b1 b2 : Int) : dAns ⟨[l, p, x, some (.int 12), some (.int 1), none, none], some [.int b0, .int b1, .int b2]⟩ = some (.tup [.int 12, .int 1, .int b2]) := by kernel_rfl
theorem dt_12_2 (l p x : Option V) (b0 b1 b2 : Int) : dAns ⟨[l, p, x, some (.int 12), some (.int 2), none, none], some [.int b0, .int b1, .int b2]⟩ = some (.tup [.int 6, .int 1, .int b2]) := by kernel_rfl
theorem dt_12_3 (l p x : Option V) (b0 b1 b2 : Int) : dAns ⟨[l, p, x, some (.int 12), some (.int 3), none, none], some [.int b0, .int b1, .int b2]⟩ = some (.tup [.int 4, .int 1, .int b2]) := by kernel_rfl
theorem dt_12_4 (l p x : Option V) (b0 b1 b2 : Int) : dAns ⟨[l, p, x, some (.int 12), some (.int 4), none, none], some [.int b0, .int b1, .int b2]⟩ = some (.tup [.int 3, .int 1, .int b2]) := by kernel_rfl
theorem dt_12_5 (l p x : Option V) (b0 b1 b2 : Int) : dAns ⟨[l, p, x, some (.int 12), some (.int 5), none, none], some [.int b0, .int b1, .int b2]⟩ = some (.tup [.int 12, .int 5, .int b2]) := by kernel_rfl
theorem dt_12_6 (l p x : Option V) (b0 b1 b2 : Int) : dAns ⟨[l, p, x, some (.int 12), some (.int 6), none, none], some [.int b0, .int b1, .int b2]⟩ = some (.tup [.int 2, .int 1, .int b2]) := by kernel_rfl
theorem dt_12_7 (l p x : Option V) (b0 b1 b2 : Int) : dAns ⟨[l, p, x, some (.int 12), some (.int 7), none, none], some [.int b0, .int b1, .int b2]⟩ = some (.tup [.int 12, .int 7, .int b2]) := by kernel_rfl
theorem dt_12_8 (l p x : Option V) (b0 b1 b2 : Int) : dAns ⟨[l, p, x, some (.int 12), some (.int 8), none, none], some [.int b0, .int b1, .int b2]⟩ = some (.tup [.int 3, .int 2, .int b2]) := by kernel_rfl
theorem dt_12_9 (l p x : Option V) (b0 b1 b2 : Int) : dAns ⟨[l, p, x, some (.int 12), some (.int 9), none, none], some [.int b0, .int b1, .int b2]⟩ = some (.tup [.int 4, .int 3, .int b2]) := by kernel_rfl
theorem dt_12_10 (l p x : Option V) (b0 b1 b2 : Int) : dAns ⟨[l, p, x, some (.int 12), some (.int 10), none, none], some [.int b0, .int b1, .int b2]⟩ = some (.tup [.int 6, .int 5, .int b2]) := by kernel_rfl
theorem dt_12_11 (l p x : Option V) (b0 b1 b2 : Int) : dAns ⟨[l, p, x, some (.int 12), some (.int 11), none, none], some [.int b0, .int b1, .int b2]⟩ = some (.tup [.int 12, .int 11, .int b2]) := by kernel_rfl
theorem dt_13_1 (l p x : Option V) (b0 b1 b2 : Int) : dAns ⟨[l, p, x, some (.int 13), some (.int 1), none, none], some [.int b0, .int b1, .int b2]⟩ = some (.tup [.int 13, .int 1, .int b2]) := by kernel_rfl
theorem dt_13_2 (l p x : Option V) (b0 b1 b2 : Int) : dAns ⟨[l, p, x, some (.int 13), some (.int 2), none, none], some [.int b0, .int b1, .int b2]⟩ = some (.tup [.int 13, .int 2, .int b2]) := by kernel_rfl
theorem dt_13_3 (l p x : Option V) (b0 b1 b2 : Int) : dAns ⟨[l, p, x, some (.int 13), some (.int 3), none, none], some [.int b0, .int b1, .int b2]⟩ = some (.tup [.int 13, .int 3, .int b2]) := by kernel_rfl
theorem dt_13_4 (l p x : Option V) (b0 b1 b2 : Int) : dAns ⟨[l, p, x, some (.int 13), some (.int 4), none, none], some [.int b0, .int b1, .int b2]⟩ = some (.tup [.int 13, .int 4, .int b2]) := by kernel_rfl
theorem dt_13_5 (l p x : Option V) (b0 b1 b2 : Int) : dAns ⟨[l, p, x, some (.int 13), some (.int 5), none, none], some [.int b0, .int b1, .int b2]⟩ = some (.tup [.int 13, .int 5, .int b2]) := by kernel_rfl
theorem dt_13_6 (l p x : Option V) (b0 b1 b2 : Int) : dAns ⟨[l, p, x, some (.int 13), some (.int 6), none, none], some [.int b0, .int b1, .int b2]⟩ = some (.tup [.int 13, .int 6, .int b2]) := by kernel_rfl
theorem dt_13_7 (l p x : Option V) (b0 b1 b2 : Int) : dAns ⟨[l, p, x, some (.int 13), some (.int 7), none, none], some [.int b0, .int b1, .int b2]⟩ = some (.tup [.int 13, .int 7, .int b2]) := by kernel_rfl
theorem dt_13_8 (l p x : Option V) (b0 b1 b2 : Int) : dAns ⟨[l, p, x, some (.int 13), some (.int 8), none, none], some [.int b0, .int b1, .int b2]⟩ = some (.tup [.int 13, .int 8, .int b2]) := by kernel_rfl
theorem dt_13_9 (l p x : Option V) (b0 b1 b2 : Int) : dAns ⟨[l, p, x, some (.int 13), some (.int 9), none, none], some [.int b0, .int b1, .int b2]⟩ = some (.tup [.int 13, .int 9, .int b2]) := by kernel_rfl
theorem dt_13_10 (l p x : Option V) (b0 b1 b2 : Int) : dAns ⟨[l, p, x, some (.int 13), some (.int 10), none, none], some [.int b0, .int b1, .int b2]⟩ = some (.tup [.int 13, .int 10, .int b2]) := by kernel_rfl
theorem dt_13_11 (l p x : Option V) (b0 b1 b2 : Int) : dAns ⟨[l, p, x, some (.int 13), some (.int 11), none, none], some [.int b0, .int b1, .int b2]⟩ = some (.tup [.int 13, .int 11, .int b2]) := by kernel_rfl
theorem dt_13_12 (l p x : Option V) (b0 b1 b2 : Int) : dAns ⟨[l, p, x, some (.int 13), some (.int 12), none, none], some [.int b0, .int b1, .int b2]⟩ = some (.tup [.int 13, .int 12, .int b2]) := by kernel_rfl
theorem dt_14_1 (l p x : Option V) (b0 b1 b2 : Int) : dAns ⟨[l, p, x, some (.int 14), some (.int 1), none, none], some [.int b0, .int b1, .int b2]⟩ = some (.tup [.int 14, .int 1, .int b2]) := by kernel_rfl
theorem dt_14_2 (l p x : Option V) (b0 b1 b2 : Int) : dAns ⟨[l, p, x, some (.int 14), some (.int 2), none, none], some [.int b0, .int b1, .int b2]⟩ = some (.tup [.int 7, .int 1, .int b2]) := by kernel_rfl
theorem dt_14_3 (l p x : Option V) (b0 b1 b2 : Int) : dAns ⟨[l, p, x, some (.int 14), some (.int 3), none, none], some [.int b0, .int b1, .int b2]⟩ = some (.tup [.int 14, .int 3, .int b2]) := by kernel_rfl
theorem dt_14_4 (l p x : Option V) (b0 b1 b2 : Int) : dAns ⟨[l, p, x, some (.int 14), some (.int 4), none, none], some [.int b0, .int b1, .int b2]⟩ = some (.tup [.int 7, .int 2, .int b2]) := by kernel_rfl
theorem dt_14_5 (l p x : Option V) (b0 b1 b2 : Int) : dAns ⟨[l, p, x, some (.int 14), some (.int 5), none, none], some [.int b0, .int b1, .int b2]⟩ = some (.tup [.int 14, .int 5, .int b2]) := by kernel_rfl
theorem dt_14_6 (l p x : Option V) (b0 b1 b2 : Int) : dAns ⟨[l, p, x, some (.int 14), some (.int 6), none, none], some [.int b0, .int b1, .int b2]⟩ = some (.tup [.int 7, .int 3, .int b2]) := by kernel_rfl
theorem dt_14_7 (l p x : Option V) (b0 b1 b2 : Int) : dAns ⟨[l, p, x, some (.int 14), some (.int 7), none, none], some [.int b0, .int b1, .int b2]⟩ = some (.tup [.int 2, .int 1, .int b2]) := by kernel_rfl
theorem dt_14_8 (l p x : Option V) (b0 b1 b2 : Int) : dAns ⟨[l, p, x, some (.int 14), some (.int 8), none, none], some [.int b0, .int b1, .int b2]⟩ = some (.tup [.int 7, .int 4, .int b2]) := by kernel_rfl
theorem dt_14_9 (l p x : Option V) (b0 b1 b2 : Int) : dAns ⟨[l, p, x, some (.int 14), some (.int 9), none, none], some [.int b0, .int b1, .int b2]⟩ = some (.tup [.int 14, .int 9, .int b2]) := by kernel_rfl
theorem dt_14_10 (l p x : Option V) (b0 b1 b2 : Int) : dAns ⟨[l, p, x, some (.int 14), some (.int 10), none, none], some [.int b0, .int b1, .int b2]⟩ = some (.tup [.int 7, .int 5, .int b2]) := by kernel_rfl
theorem dt_14_11 (l p x : Option V) (b0 b1 b2 : Int) : dAns ⟨[l, p, x, some (.int 14), some (.int 11), none, none], some [.int b0, .int b1, .int b2]⟩ = some (.tup [.int 14, .int 11, .int b2]) := by kernel_rfl
theorem dt_14_12 (l p x : Option V) (b0 b1 b2 : Int) : dAns ⟨[l, p, x, some (.int 14), some (.int 12), none, none], some [.int b0, .int b1, .int b2]⟩ = some (.tup [.int 7, .int 6, .int b2]) := by kernel_rfl
theorem dt_14_13 (l p x : Option V) (b0 b1 b2 : Int) : dAns ⟨[l, p, x, some (.int 14), some (.int 13), none, none], some [.int b0, .int b1, .int b2]⟩ = some (.tup [.int 14, .int 13, .int b2]) := by kernel_rfl
theorem dt_15_1 (l p x : Option V) (b0 b1 b2 : Int) : dAns ⟨[l, p, x, some (.int 15), some (.int 1), none, none], some [.int b0, .int b1, .int b2]⟩ = some (.tup [.int 15, .int 1, .int b2]) := by kernel_rfl
theorem dt_15_2 (l p x : Option V) (b0 b1 b2 : Int) : dAns ⟨[l, p, x, some (.int 15), some (.int 2), none, none], some [.int b0, .int b1, .int b2]⟩ = some (.tup [.int 15, .int 2, .int b2]) := by kernel_rfl
theorem dt_15_3 (l p x : Option V) (b0 b1 b2 : Int) : dAns ⟨[l, p, x, some (.int 15), some (.int 3), none, none], some [.int b0, .int b1, .int b2]⟩ = some (.tup [.int 5, .int 1, .int b2]) := by kernel_rfl
theorem dt_15_4 (l p x : Option V) (b0 b1 b2 : Int) : dAns ⟨[l, p, x, some (.int 15), some (.int 4), none, none], some [.int b0, .int b1, .int b2]⟩ = some (.tup [.int 15, .int 4, .int b2]) := by kernel_rfl
theorem dt_15_5 (l p x : Option V) (b0 b1 b2 : Int) : dAns ⟨[l, p, x, some (.int 15), some (.int 5), none, none], some [.int b0, .int b1, .int b2]⟩ = some (.tup [.int 3, .int 1, .int b2]) := by kernel_rfl
theorem dt_15_6 (l p x : Option V) (b0 b1 b2 : Int) : dAns ⟨[l, p, x, some (.int 15), some (.int 6), none, none], some [.int b0, .int b1, .int b2]⟩ = some (.tup [.int 5, .int 2, .int b2]) := by kernel_rfl
theorem dt_15_7 (l p x : Option V) (b0 b1 b2 : Int) : dAns ⟨[l, p, x, some (.int 15), some (.int 7), none, none], some [.int b0, .int b1, .int b2]⟩ = some (.tup [.int 15, .int 7, .int b2]) := by kernel_rfl
theorem dt_15_8 (l p x : Option V) (b0 b1 b2 : Int) : dAns ⟨[l, p, x, some (.int 15), some (.int 8), none, none], some [.int b0, .int b1, .int b2]⟩ = some (.tup [.int 15, .int 8, .int b2]) := by kernel_rfl
theorem dt_15_9 (l p x : Option V) (b0 b1 b2 : Int) : dAns ⟨[l, p, x, some (.int 15), some (.int 9), none, none], some [.int b0, .int b1, .int b2]⟩ = some (.tup [.int 5, .int 3, .int b2]) := by kernel_rfl
theorem dt_15_10 (l p x : Option V) (b0 b1 b2 : Int) : dAns ⟨[l, p, x, some (.int 15), some (.int 10), none, none], some [.int b0, .int b1, .int b2]⟩ = some (.tup [.int 3, .int 2, .int b2]) := by kernel_rfl
theorem dt_15_11 (l p x : Option V) (b0 b1 b2 : Int) : dAns ⟨[l, p, x, some (.int 15), some (.int 11), none, none], some [.int b0, .int b1, .int b2]⟩ = some (.tup [.int 15, .int 11, .int b2]) := by kernel_rfl
theorem dt_15_12 (l p x : Option V) (b0 b1 b2 : Int) : dAns ⟨[l, p, x, some (.int 15), some (.int 12), none, none], some [.int b0, .int b1, .int b2]⟩ = some (.tup [.int 5, .int 4, .int b2]) := by kernel_rfl
theorem dt_15_13 (l p x : Option V) (b0 b1 b2 : Int) : dAns ⟨[l, p, x, some (.int 15), some (.int 13), none, none], some [.int b0, .int b1, .int b2]⟩ = some (.tup [.int 15, .int 13, .int b2]) := by kernel_rfl
theorem dt_15_14 (l p x : Option V) (b0 b1 b2 : Int) : dAns ⟨[l, p, x, some (.int 15), some (.int 14), none, none], some [.int b0, .int b1, .int b2]⟩ = some (.tup [.int 15, .int 14, .int b2]) := by kernel_rfl
theorem dt_16_1 (l p x : Option V) (b0 b1 b2 : Int) : dAns ⟨[l, p, x, some (.int 16), some (.int 1), none, none], some [.int b0, .int b1, .int b2]⟩ = some (.tup [.int 16, .int 1, .int b2]) := by kernel_rfl
theorem dt_16_2 (l p x : Option V) (b0 b1 b2 : Int) : dAns ⟨[l, p, x, some (.int 16), some (.int 2), none, none], some [.int b0, .int b1, .int b2]⟩ = some (.tup [.int 8, .int 1, .int b2]) := by kernel_rfl
theorem dt_16_3 (l p x : Option V) (b0 b1 b2 : Int) : dAns ⟨[l, p, x, some (.int 16), some (.int 3), none, none], some [.int b0, .int b1, .int b2]⟩ = some (.tup [.int 16, .int 3, .int b2]) := by kernel_rfl
theorem dt_16_4 (l p x : Option V) (b0 b1 b2 : Int) : dAns ⟨[l, p, x, some (.int 16), some (.int 4), none, none], some [.int b0, .int b1, .int b2]⟩ = some (.tup [.int 4, .int 1, .int b2]) := by kernel_rfl
theorem dt_16_5 (l p x : Option V) (b0 b1 b2 : Int) : dAns ⟨[l, p, x, some (.int 16), some (.int 5), none, none], some [.int b0, .int b1, .int b2]⟩ = some (.tup [.int 16, .int 5, .int b2]) := by kernel_rfl
theorem dt_16_6 (l p x : Option V) (b0 b1 b2 : Int) : dAns ⟨[l, p, x, some (.int 16), some (.int 6), none, none], some [.int b0, .int b1, .int b2]⟩ = some (.tup [.int 8, .int 3, .int b2]) := by kernel_rfl
theorem dt_16_7 (l p x : Option V) (b0 b1 b2 : Int) : dAns ⟨[l, p, x, some (.int 16), some (.int 7), none, none], some [.int b0, .int b1, .int b2]⟩ = some (.tup [.int 16, .int 7, .int b2]) := by kernel_rfl
theorem dt_16_8 (l p x : Option V) (b0 b1 b2 : Int) : dAns ⟨[l, p, x, some (.int 16), some (.int 8), none, none], some [.int b0, .int b1, .int b2]⟩ = some (.tup [.int 2, .int 1, .int b2]) := by kernel_rfl
theorem dt_16_9 (l p x : Option V) (b0 b1 b2 : Int) : dAns ⟨[l, p, x, some (.int 16), some (.int 9), none, none], some [.int b0, .int b1, .int b2]⟩ = some (.tup [.int 16, .int 9, .int b2]) := by kernel_rfl
theorem dt_16_10 (l p x : Option V) (b0 b1 b2 : Int) : dAns ⟨[l, p, x, some (.int 16), some (.int 10), none, none], some [.int b0, .int b1, .int b2]⟩ = some (.tup [.int 8, .int 5, .int b2]) := by kernel_rfl
theorem dt_16_11 (l p x : Option V) (b0 b1 b2 : Int) : dAns ⟨[l, p, x, some (.int 16), some (.int 11), none, none], some [.int b0, .int b1, .int b2]⟩ = some (.tup [.int 16, .int 11, .int b2]) := by kernel_rfl
theorem dt_16_12 (l p x : Option V) (b0 b1 b2 : Int) : dAns ⟨[l, p, x, some (.int 16), some (.int 12), none, none], some [.int b0, .int b1, .int b2]⟩ = some (.tup [.int 4, .int 3, .int b2]) := by kernel_rfl
theorem dt_16_13 (l p x : Option V) (b0 b1 b2 : Int) : dAns ⟨[l, p, x, some (.int 16), some (.int 13), none, none], some [.int b0, .int b1, .int b2]⟩ = some (.tup [.int 16, .int 13, .int b2]) := by kernel_rfl
theorem dt_16_14 (l p x : Option V) (b0 b1 b2 : Int) : dAns ⟨[l, p, x, some (.int 16), some (.int 14), none, none], some [.int b0, .int b1, .int b2]⟩ = some (.tup [.int 8, .int 7, .int b2]) := by kernel_rfl
theorem dt_16_15 (l p x : Option V) (b0 b1 b2 : Int) : dAns ⟨[l, p, x, some (.int 16), some (.int 15), none, none], some [.int b0, .int b1, .int b2]⟩ = some (.tup [.int 16, .int 15, .int b2]) := by kernel_rfl
theorem dt_17_1 (l p x : Option V) (b0 b1 b2 : Int) : dAns ⟨[l, p, x, some (.int 17), some (.int 1), none, none], some [.int b0, .int b1, .int b2]⟩ = some (.tup [.int 17, .int 1, .int b2]) := by kernel_rfl
theorem dt_17_2 (l p x : Option V) (b0 b1 b2 : Int) : dAns ⟨[l, p, x, some (.int 17), some (.int 2), none, none], some [.int b0, .int b1, .int b2]⟩ = some (.tup [.int 17, .int 2, .int b2]) := by kernel_rfl
theorem dt_17_3 (l p x : Option V) (b0 b1 b2 : Int) : dAns ⟨[l, p, x, some (.int 17), some (.int 3), none, none], some [.int b0, .int b1, .int b2]⟩ = some (.tup [.int 17, .int 3, .int b2]) := by kernel_rfl
theorem dt_17_4 (l p x : Option V) (b0 b1 b2 : Int) : dAns ⟨[l, p, x, some (.int 17), some (.int 4), none, none], some [.int b0, .int b1, .int b2]⟩ = some (.tup [.int 17, .int 4, .int b2]) := by kernel_rfl
theorem dt_17_5 (l p x : Option V) (b0 b1 b2 : Int) : dAns ⟨[l, p, x, some (.int 17), some (.int 5), none, none], some [.int b0, .int b1, .int b2]⟩ = some (.tup [.int 17, .int 5, .int b2]) := by kernel_rfl
theorem dt_17_6 (l p x : Option V) (b0 b1 b2 : Int) : dAns ⟨[l, p, x, some (.int 17), some (.int 6), none, none], some [.int b0, .int b1, .int b2]⟩ = some (.tup [.int 17, .int 6, .int b2]) := by kernel_rfl
theorem dt_17_7 (l p x : Option V) (b0 b1 b2 : Int) : dAns ⟨[l, p, x, some (.int 17), some (.int 7), none, none], some [.int b0, .int b1, .int b2]⟩ = some (.tup [.int 17, .int 7, .int b2]) := by kernel_rfl
theorem dt_17_8 (l p x : Option V) (b0 b1 b2 : Int) : dAns ⟨[l, p, x, some (.int 17), some (.int 8), none, none], some [.int b0, .int b1, .int b2]⟩ = some (.tup [.int 17, .int 8, .int b2]) := by kernel_rfl
theorem dt_17_9 (l p x : Option V) (b0 b1 b2 : Int) : dAns ⟨[l, p, x, some (.int 17), some (.int 9), none, none], some [.int b0, .int b1, .int b2]⟩ = some (.tup [.int 17, .int 9, .int b2]) := by kernel_rfl
theorem dt_17_10 (l p x : Option V) (b0 b1 b2 : Int) : dAns ⟨[l, p, x, some (.int 17), some (.int 10), none, none], some [.int b0, .int b1, .int b2]⟩ = some (.tup [.int 17, .int 10, .int b2]) := by kernel_rfl
theorem dt_17_11 (l p x : Option V) (b0 b1 b2 : Int) : dAns ⟨[l, p, x, some (.int 17), some (.int 11), none, none], some [.int b0, .int b1, .int b2]⟩ = some (.tup [.int 17, .int 11, .int b2]) := by kernel_rfl
theorem dt_17_12 (l p x : Option V) (b0 b1 b2 : Int) : dAns ⟨[l, p, x, some (.int 17), some (.int 12), none, none], some [.int b0, .int b1, .int b2]⟩ = some (.tup [.int 17, .int 12, .int b2]) := by kernel_rfl
theorem dt_17_13 (l p x : Option V) (b0 b1 b2 : Int) : dAns ⟨[l, p, x, some (.int 17), some (.int 13), none, none], some [.int b0, .int b1, .int b2]⟩ = some (.tup [.int 17, .int 13, .int b2]) := by kernel_rfl
theorem dt_17_14 (l p x : Option V) (b0 b1 b2 : Int) : dAns ⟨[l, p, x, some (.int 17), some (.int 14), none, none], some [.int b0, .int b1, .int b2]⟩ = some (.tup [.int 17, .int 14, .int b2]) := by kernel_rfl
theorem dt_17_15 (l p x : Option V) (b0 b1 b2 : Int) : dAns ⟨[l, p, x, some (.int 17), some (.int 15), none, none], some [.int b0, .int b1, .int b2]⟩ = some (.tup [.int 17, .int 15, .int b2]) := by kernel_rfl
theorem dt_17_16 (l p x : Option V) (b0 b1 b2 : Int) : dAns ⟨[l, p, x, some (.int 17), some (.int 16), none, none], some [.int b0, .int b1, .int b2]⟩ = some (.tup [.int 17, .int 16, .int b2]) := by kernel_rfl
theorem dt_18_1 (l p x : Option V) (b0 b1 b2 : Int) : dAns ⟨[l, p, x, some (.int 18), some (.int 1), none, none], some [.int b0, .int b1, .int b2]⟩ = some (.tup [.int 18, .int 1, .int b2]) := by kernel_rfl
theorem dt_18_2 (l p x : Option V) (b0 b1 b2 : Int) : dAns ⟨[l, p, x, some (.int 18), some (.int 2), none, none], some [.int b0, .int b1, .int b2]⟩ = some (.tup [.int 9, .int 1, .int b2]) := by kernel_rfl
theorem dt_18_3 (l p x : Option V) (b0 b1 b2 : Int) : dAns ⟨[l, p, x, some (.int 18), some (.int 3), none, none], some [.int b0, .int b1, .int b2]⟩ = some (.tup [.int 6, .int 1, .int b2]) := by kernel_rfl
theorem dt_18_4 (l p x : Option V) (b0 b1 b2 : Int) : dAns ⟨[l, p, x, some (.int 18), some (.int 4), none, none], some [.int b0, .int b1, .int b2]⟩ = some (.tup [.int 9, .int 2, .int b2]) := by kernel_rfl
theorem dt_18_5 (l p x : Option V) (b0 b1 b2 : Int) : dAns ⟨[l, p, x, some (.int 18), some (.int 5), none, none], some [.int b0, .int b1, .int b2]⟩ = some (.tup [.int 18, .int 5, .int b2]) := by kernel_rfl
theorem dt_18_6 (l p x : Option V) (b0 b1 b2 : Int) : dAns ⟨[l, p, x, some (.int 18), some (.int 6), none, none], some [.int b0, .int b1, .int b2]⟩ = some (.tup [.int 3, .int 1, .int b2]) := by kernel_rfl
theorem dt_18_7 (l p x : Option V) (b0 b1 b2 : Int) : dAns ⟨[l, p, x, some (.int 18), some (.int 7), none, none], some [.int b0, .int b1, .int b2]⟩ = some (.tup [.int 18, .int 7, .int b2]) := by kernel_rfl
theorem dt_18_8 (l p x : Option V) (b0 b1 b2 : Int) : dAns ⟨[l, p, x, some (.int 18), some (.int 8), none, none], some [.int b0, .int b1, .int b2]⟩ = some (.tup [.int 9, .int 4, .int b2]) := by kernel_rfl
theorem dt_18_9 (l p x : Option V) (b0 b1 b2 : Int) : dAns ⟨[l, p, x, some (.int 18), some (.int 9), none, none], some [.int b0, .int b1, .int b2]⟩ = some (.tup [.int 2, .int 1, .int b2]) := by kernel_rfl
theorem dt_18_10 (l p x : Option V) (b0 b1 b2 : Int) : dAns ⟨[l, p, x, some (.int 18), some (.int 10), none, none], some [.int b0, .int b1, .int b2]⟩ = some (.tup [.int 9, .int 5, .int b2]) := by kernel_rfl
theorem dt_18_11 (l p x : Option V) (b0 b1 b2 : Int) : dAns ⟨[l, p, x, some (.int 18), some (.int 11), none, none], some [.int b0, .int b1, .int b2]⟩ = some (.tup [.int 18, .int 11, .int b2]) := by kernel_rfl
theorem dt_18_12 (l p x : Option V) (b0 b1 b2 : Int) : dAns ⟨[l, p, x, some (.int 18), some (.int 12), none, none], some [.int b0, .int b1, .int b2]⟩ = some (.tup [.int 3, .int 2, .int b2]) := by kernel_rfl
theorem dt_18_13 (l p x : Option V) (b0 b1 b2 : Int) : dAns ⟨[l, p, x, some (.int 18), some (.int 13), none, none], some [.int b0, .int b1, .int b2]⟩ = some (.tup [.int 18, .int 13, .int b2]) := by kernel_rfl
theorem dt_18_14 (l p x : Option V) (b0 b1 b2 : Int) : dAns ⟨[l, p, x, some (.int 18), some (.int 14), none, none], some [.int b0, .int b1, .int b2]⟩ = some (.tup [.int 9, .int 7, .int b2]) := by kernel_rfl
theorem dt_18_15 (l p x : Option V) (b0 b1 b2 : Int) : dAns ⟨[l, p, x, some (.int 18), some (.int 15), none, none], some [.int b0, .int b1, .int b2]⟩ = some (.tup [.int 6, .int 5, .int b2]) := by kernel_rfl
theorem dt_18_16 (l p x : Option V) (b0 b1 b2 : Int) : dAns ⟨[l, p, x, some (.int 18), some (.int 16), none, none], some [.int b0, .int b1, .int b2]⟩ = some (.tup [.int 9, .int 8, .int b2]) := by kernel_rfl
theorem dt_18_17 (l p x : Option V) (b0 b1 b2 : Int) : dAns ⟨[l, p, x, some (.int 18), some (.int 17), none, none], some [.int b0, .int b1, .int b2]⟩ = some (.tup [.int 18, .int 17, .int b2]) := by kernel_rfl
theorem dt_19_1 (l p x : Option V) (b0 b1 b2 : Int) : dAns ⟨[l, p, x, some (.int 19), some (.int 1), none, none], some [.int b0, .int b1, .int b2]⟩ = some (.tup [.int 19, .int 1, .int b2]) := by kernel_rfl
theorem dt_19_2 (l p x : Option V) (b0 b1 b2 : Int) : dAns ⟨[l, p, x, some (.int 19), some (.int 2), none, none], some [.int b0, .int b1, .int b2]⟩ = some (.tup [.int 19, .int 2, .int b2]) := by kernel_rfl
theorem dt_19_3 (l p x : Option V) (b0 b1 b2 : Int) : dAns ⟨[l, p, x, some (.int 19), some (.int 3), none, none], some [.int b0, .int b1, .int b2]⟩ = some (.tup [.int 19, .int 3, .int b2]) := by kernel_rfl
theorem dt_19_4 (l p x : Option V) (b0 b1 b2 : Int) : dAns ⟨[l, p, x, some (.int 19), some (.int 4), none, none], some [.int b0, .int b1, .int b2]⟩ = some (.tup [.int 19, .int 4, .int b2]) := by kernel_rfl
theorem dt_19_5 (l p x : Option V) (b0 b1 b2 : Int) : dAns ⟨[l, p, x, some (.int 19), some (.int 5), none, none], some [.int b0, .int b1, .int b2]⟩ = some (.tup [.int 19, .int 5, .int b2]) := by kernel_rfl
theorem dt_19_6 (l p x : Option V) (b0 b1 b2 : Int) : dAns ⟨[l, p, x, some (.int 19), some (.int 6), none, none], some [.int b0, .int b1, .int b2]⟩ = some (.tup [.int 19, .int 6, .int b2]) := by kernel_rfl
theorem dt_19_7 (l p x : Option V) (b0 b1 b2 : Int) : dAns ⟨[l, p, x, some (.int 19), some (.int 7), none, none], some [.int b0, .int b1, .int b2]⟩ = some (.tup [.int 19, .int 7, .int b2]) := by kernel_rfl
theorem dt_19_8 (l p x : Option V) (b0 b1 b2 : Int) : dAns ⟨[l, p, x, some (.int 19), some (.int 8), none, none], some [.int b0, .int b1, .int b2]⟩ = some (.tup [.int 19, .int 8, .int b2]) := by kernel_rfl
theorem dt_19_9 (l p x : Option V) (b0 b1 b2 : Int) : dAns ⟨[l, p, x, some (.int 19), some (.int 9), none, none], some [.int b0, .int b1, .int b2]⟩ = some (.tup [.int 19, .int 9, .int b2]) := by kernel_rfl
theorem dt_19_10 (l p x : Option V) (b0 b1 b2 : Int) : dAns ⟨[l, p, x, some (.int 19), some (.int 10), none, none], some [.int b0, .int b1, .int b2]⟩ = some (.tup [.int 19, .int 10, .int b2]) := by kernel_rfl
theorem dt_19_11 (l p x : Option V) (b0 b1 b2 : Int) : dAns ⟨[l, p, x, some (.int 19), some (.int 11), none, none], some [.int b0, .int b1, .int b2]⟩ = some (.tup [.int 19, .int 11, .int b2]) := by kernel_rfl
theorem dt_19_12 (l p x : Option V) (b0 b1 b2 : Int) : dAns ⟨[l, p, x, some (.int 19), some (.int 12), none, none], some [.int b0, .int b1, .int b2]⟩ = some (.tup [.int 19, .int 12, .int b2]) := by kernel_rfl
theorem dt_19_13 (l p x : Option V) (b0 b1 b2 : Int) : dAns ⟨[l, p, x, some (.int 19), some (.int 13), none, none], some [.int b0, .int b1, .int b2]⟩ = some (.tup [.int 19, .int 13, .int b2]) := by kernel_rfl
theorem dt_19_14 (l p x : Option V) (b0 b1 b2 : Int) : dAns ⟨[l, p, x, some (.int 19), some (.int 14), none, none], some [.int b0, .int b1, .int b2]⟩ = some (.tup [.int 19, .int 14, .int b2]) := by kernel_rfl
theorem dt_19_15 (l p x : Option V) (b0 b1 b2 : Int) : dAns ⟨[l, p, x, some (.int 19), some (.int 15), none, none], some [.int b0, .int b1, .int b2]⟩ = some (.tup [.int 19, .int 15, .int b2]) := by kernel_rfl
theorem dt_19_16 (l p x : Option V) (b0 b1 b2 : Int) : dAns ⟨[l, p, x, some (.int 19), some (.int 16), none, none], some [.int b0, .int b1, .int b2]⟩ = some (.tup [.int 19, .int 16, .int b2]) := by kernel_rfl
theorem dt_19_17 (l p x : Option V) (b0 b1 b2 : Int) : dAns ⟨[l, p, x, some (.int 19), some (.int 17), none, none], some [.int b0, .int b1, .int b2]⟩ = some (.tup [.int 19, .int 17, .int b2]) := by kernel_rfl
theorem dt_19_18 (l p x : Option V) (b0 b1 b2 : Int) : dAns ⟨[l, p, x, some (.int 19), some (.int 18), none, none], some [.int b0, .int b1, .int b2]⟩ = some (.tup [.int 19, .int 18, .int b2]) := by kernel_rfl
theorem dt_20_1 (l p x : Option V) (b0 b1 b2 : Int) : dAns ⟨[l, p, x, some (.int 20), some (.int 1), none, none], some [.int b0, .int b1, .int b2]⟩ = some (.tup [.int 20, .int 1, .int b2]) := by kernel_rfl
theorem dt_20_2 (l p x : Option V) (b0 b1 b2 : Int) : dAns ⟨[l, p, x, some (.int 20), some (.int 2), none, none], some [.int b0, .int b1, .int b2]⟩ = some (.tup [.int 10, .int 1, .int b2]) := by kernel_rfl
theorem dt_20_3 (l p x : Option V) (b0 b1 b2 : Int) : dAns ⟨[l, p, x, some (.int 20), some (.int 3), none, none], some [.int b0, .int b1, .int b2]⟩ = some (.tup [.int 20, .int 3, .int b2]) := by kernel_rfl
theorem dt_20_4 (l p x : Option V) (b0 b1 b2 : Int) : dAns ⟨[l, p, x, some (.int 20), some (.int 4), none, none], some [.int b0, .int b1, .int b2]⟩ = some (.tup [.int 5, .int 1, .int b2]) := by kernel_rfl
theorem dt_20_5 (l p x : Option V) (b0 b1 b2 : Int) : dAns ⟨[l, p, x, some (.int 20), some (.int 5), none, none], some [.int b0, .int b1, .int b2]⟩ = some (.tup [.int 4, .int 1, .int b2]) := by kernel_rfl
theorem dt_20_6 (l p x : Option V) (b0 b1 b2 : Int) : dAns ⟨[l, p, x, some (.int 20), some (.int 6), none, none], some [.int b0, .int b1, .int b2]⟩ = some (.tup [.int 10, .int 3, .int b2]) := by kernel_rfl
theorem dt_20_7 (l p x : Option V) (b0 b1 b2 : Int) : dAns ⟨[l, p, x, some (.int 20), some (.int 7), none, none], some [.int b0, .int b1, .int b2]⟩ = some (.tup [.int 20, .int 7, .int b2]) := by kernel_rfl
theorem dt_20_8 (l p x : Option V) (b0 b1 b2 : Int) : dAns ⟨[l, p, x, some (.int 20), some (.int 8), none, none], some [.int b0, .int b1, .int b2]⟩ = some (.tup [.int 5, .int 2, .int b2]) := by kernel_rfl
theorem dt_20_9 (l p x : Option V) (b0 b1 b2 : Int) : dAns ⟨[l, p, x, some (.int 20), some (.int 9), none, none], some [.int b0, .int b1, .int b2]⟩ = some (.tup [.int 20, .int 9, .int b2]) := by kernel_rfl
theorem dt_20_10 (l p x : Option V) (b0 b1 b2 : Int) : dAns ⟨[l, p, x, some (.int 20), some (.int 10), none, none], some [.int b0, .int b1, .int b2]⟩ = some (.tup [.int 2, .int 1, .int b2]) := by kernel_rfl
theorem dt_20_11 (l p x : Option V) (b0 b1 b2 : Int) : dAns ⟨[l, p, x, some (.int 20), some (.int 11), none, none], some [.int b0, .int b1, .int b2]⟩ = some (.tup [.int 20, .int 11, .int b2]) := by kernel_rfl
theorem dt_20_12 (l p x : Option V) (b0 b1 b2 : Int) : dAns ⟨[l, p, x, some (.int 20), some (.int 12), none, none], some [.int b0, .int b1, .int b2]⟩ = some (.tup [.int 5, .int 3, .int b2]) := by kernel_rfl
theorem dt_20_13 (l p x : Option V) (b0 b1 b2 : Int) : dAns ⟨[l, p, x, some (.int 20), some (.int 13), none, none], some [.int b0, .int b1, .int b2]⟩ = some (.tup [.int 20, .int 13, .int b2]) := by kernel_rfl
theorem dt_20_14 (l p x : Option V) (b0 b1 b2 : Int) : dAns ⟨[l, p, x, some (.int 20), some (.int 14), none, none], some [.int b0, .int b1, .int b2]⟩ = some (.tup [.int 10, .int 7, .int b2]) := by kernel_rfl
theorem dt_20_15 (l p x : Option V) (b0 b1 b2 : Int) : dAns ⟨[l, p, x, some (.int 20), some (.int 15), none, none], some [.int b0, .int b1, .int b2]⟩ = some (.tup [.int 4, .int 3, .int b2]) := by kernel_rfl
theorem dt_20_16 (l p x : Option V) (b0 b1 b2 : Int) : dAns ⟨[l, p, x, some (.int 20), some (.int 16), none, none], some [.int b0, .int b1, .int b2]⟩ = some (.tup [.int 5, .int 4, .int b2]) := by kernel_rfl
theorem dt_20_17 (l p x : Option V) (b0 b1 b2 : Int) : dAns ⟨[l, p, x, some (.int 20), some (.int 17), none, none], some [.int b0, .int b1, .int b2]⟩ = some (.tup [.int 20, .int 17, .int b2]) := by kernel_rfl
theorem dt_20_18 (l p x : Option V) (b0 b1 b2 : Int) : dAns ⟨[l, p, x, some (.int 20), some (.int 18), none, none], some [.int b0, .int b1, .int b2]⟩ = some (.tup [.int 10, .int 9, .int b2]) := by kernel_rfl
theorem dt_20_19 (l p x : Option V) (b0 b1 b2 : Int) : dAns ⟨[l, p, x, some (.int 20), some (.int 19), none, none], some [.int b0, .int b1, .int b2]⟩ = some (.tup [.int 20, .int 19, .int b2]) := by kernel_rfl

end
end Lite
namespace Lite
section
open PySem PySem.Calls PyProof.Rows PySem.W

theorem vd_2_1 (l : Option V) (a : Int) : verdict (stOf l 2 1 a) = some (.bool true) := by kernel_rfl
theorem vd_3_1 (l : Option V) (a : Int) : verdict (stOf l 3 1 a) = some (.bool true) := by kernel_rfl
theorem vd_3_2 (l : Option V) (a : Int) : verdict (stOf l 3 2 a) = some (.bool true) := by kernel_rfl
theorem vd_4_1 (l : Option V) (a : Int) : verdict (stOf l 4 1 a) = some (.bool true) := by kernel_rfl
theorem vd_4_3 (l : Option V) (a : Int) : verdict (stOf l 4 3 a) = some (.bool true) := by kernel_rfl
theorem vd_5_1 (l : Option V) (a : Int) : verdict (stOf l 5 1 a) = some (.bool true) := by kernel_rfl
theorem vd_5_2 (l : Option V) (a : Int) : verdict (stOf l 5 2 a) = some (.bool true) := by kernel_rfl
theorem vd_5_3 (l : Option V) (a : Int) : verdict (stOf l 5 3 a) = some (.bool true) := by kernel_rfl
theorem vd_5_4 (l : Option V) (a : Int) : verdict (stOf l 5 4 a) = some (.bool true) := by kernel_rfl
theorem vd_6_1 (l : Option V) (a : Int) : verdict (stOf l 6 1 a) = some (.bool true) := by kernel_rfl
theorem vd_6_5 (l : Option V) (a : Int) : verdict (stOf l 6 5 a) = some (.bool true) := by kernel_rfl
theorem vd_7_1 (l : Option V) (a : Int) : verdict (stOf l 7 1 a) = some (.bool true) := by kernel_rfl
theorem vd_7_2 (l : Option V) (a : Int) : verdict (stOf l 7 2 a) = some (.bool true) := by kernel_rfl
theorem vd_7_3 (l : Option V) (a : Int) : verdict (stOf l 7 3 a) = some (.bool true) := by kernel_rfl
theorem vd_7_4 (l : Option V) (a : Int) : verdict (stOf l 7 4 a) = some (.bool true) := by kernel_rfl
theorem vd_7_5 (l : Option V) (a : Int) : verdict (stOf l 7 5 a) = some (.bool true) := by kernel_rfl
theorem vd_7_6 (l : Option V) (a : Int) : verdict (stOf l 7 6 a) = some (.bool true) := by kernel_rfl
theorem vd_8_1 (l : Option V) (a : Int) : verdict (stOf l 8 1 a) = some (.bool true) := by kernel_rfl
theorem vd_8_3 (l : Option V) (a : Int) : verdict (stOf l 8 3 a) = some (.bool true) := by kernel_rfl
theorem vd_8_5 (l : Option V) (a : Int) : verdict (stOf l 8 5 a) = some (.bool true) := by kernel_rfl
theorem vd_8_7 (l : Option V) (a : Int) : verdict (stOf l 8 7 a) = some (.bool true) := by kernel_rfl
theorem vd_9_1 (l : Option V) (a : Int) : verdict (stOf l 9 1 a) = some (.bool true) := by kernel_rfl
theorem vd_9_2 (l : Option V) (a : Int) : verdict (stOf l 9 2 a) = some (.bool true) := by kernel_rfl
theorem vd_9_4 (l : Option V) (a : Int) : verdict (stOf l 9 4 a) = some (.bool true) := by kernel_rfl
theorem vd_9_5 (l : Option V) (a : Int) : verdict (stOf l 9 5 a) = some (.bool true) := by kernel_rfl
theorem vd_9_7 (l : Option V) (a : Int) : verdict (stOf l 9 7 a) = some (.bool true) := by kernel_rfl
theorem vd_9_8 (l : Option V) (a : Int) : verdict (stOf l 9 8 a) = some (.bool true) := by kernel_rfl
theorem vd_10_1 (l : Option V) (a : Int) : verdict (stOf l 10 1 a) = some (.bool true) := by kernel_rfl
theorem vd_10_3 (l : Option V) (a : Int) : verdict (stOf l 10 3 a) = some (.bool true) := by kernel_rfl
theorem vd_10_7 (l : Option V) (a : Int) : verdict (stOf l 10 7 a) = some (.bool true) := by kernel_rfl
theorem vd_10_9 (l : Option V) (a : Int) : verdict (stOf l 10 9 a) = some (.bool true) := by kernel_rfl
theorem vd_11_1 (l : Option V) (a : Int) : verdict (stOf l 11 1 a) = some (.bool true) := by kernel_rfl

end
end Lite
namespace Lite
section
open PySem PySem.Calls PyProof.Rows PySem.W

theorem vd_11_2 (l : Option V) (a : Int) : verdict (stOf l 11 2 a) = some (.bool true) := by kernel_rfl
theorem vd_11_3 (l : Option V) (a : Int) : verdict (stOf l 11 3 a) = some (.bool true) := by kernel_rfl
theorem vd_11_4 (l : Option V) (a : Int) : verdict (stOf l 11 4 a) = some (.bool true) := by kernel_rfl
theorem vd_11_5 (l : Option V) (a : Int) : verdict (stOf l 11 5 a) = some (.bool true) := by kernel_rfl
theorem vd_11_6 (l : Option V) (a : Int) : verdict (stOf l 11 6 a) = some (.bool true) := by kernel_rfl
theorem vd_11_7 (l : Option V) (a : Int) : verdict (stOf l 11 7 a) = some (.bool true) := by kernel_rfl
theorem vd_11_8 (l : Option V) (a : Int) : verdict (stOf l 11 8 a) = some (.bool true) := by kernel_rfl
theorem vd_11_9 (l : Option V) (a : Int) : verdict (stOf l 11 9 a) = some (.bool true) := by kernel_rfl
theorem vd_11_10 (l : Option V) (a : Int) : verdict (stOf l 11 10 a) = some (.bool true) := by kernel_rfl
theorem vd_12_1 (l : Option V) (a : Int) : verdict (stOf l 12 1 a) = some (.bool true) := by kernel_rfl
theorem vd_12_5 (l : Option V) (a : Int) : verdict (stOf l 12 5 a) = some (.bool true) := by kernel_rfl
theorem vd_12_7 (l : Option V) (a : Int) : verdict (stOf l 12 7 a) = some (.bool true) := by kernel_rfl
theorem vd_12_11 (l : Option V) (a : Int) : verdict (stOf l 12 11 a) = some (.bool true) := by kernel_rfl
theorem vd_13_1 (l : Option V) (a : Int) : verdict (stOf l 13 1 a) = some (.bool true) := by kernel_rfl
theorem vd_13_2 (l : Option V) (a : Int) : verdict (stOf l 13 2 a) = some (.bool true) := by kernel_rfl
theorem vd_13_3 (l : Option V) (a : Int) : verdict (stOf l 13 3 a) = some (.bool true) := by kernel_rfl
theorem vd_13_4 (l : Option V) (a : Int) : verdict (stOf l 13 4 a) = some (.bool true) := by kernel_rfl
theorem vd_13_5 (l : Option V) (a : Int) : verdict (stOf l 13 5 a) = some (.bool true) := by kernel_rfl
theorem vd_13_6 (l : Option V) (a : Int) : verdict (stOf l 13 6 a) = some (.bool true) := by kernel_rfl
theorem vd_13_7 (l : Option V) (a : Int) : verdict (stOf l 13 7 a) = some (.bool true) := by kernel_rfl
theorem vd_13_8 (l : Option V) (a : Int) : verdict (stOf l 13 8 a) = some (.bool true) := by kernel_rfl
theorem vd_13_9 (l : Option V) (a : Int) : verdict (stOf l 13 9 a) = some (.bool true) := by kernel_rfl
theorem vd_13_10 (l : Option V) (a : Int) : verdict (stOf l 13 10 a) = some (.bool true) := by kernel_rfl
theorem vd_13_11 (l : Option V) (a : Int) : verdict (stOf l 13 11 a) = some (.bool true) := by kernel_rfl
theorem vd_13_12 (l : Option V) (a : Int) : verdict (stOf l 13 12 a) = some (.bool true) := by kernel_rfl
theorem vd_14_1 (l : Option V) (a : Int) : verdict (stOf l 14 1 a) = some (.bool true) := by kernel_rfl
theorem vd_14_3 (l : Option V) (a : Int) : verdict (stOf l 14 3 a) = some (.bool true) := by kernel_rfl
theorem vd_14_5 (l : Option V) (a : Int) : verdict (stOf l 14 5 a) = some (.bool true) := by kernel_rfl
theorem vd_14_9 (l : Option V) (a : Int) : verdict (stOf l 14 9 a) = some (.bool true) := by kernel_rfl
theorem vd_14_11 (l : Option V) (a : Int) : verdict (stOf l 14 11 a) = some (.bool true) := by kernel_rfl
theorem vd_14_13 (l : Option V) (a : Int) : verdict (stOf l 14 13 a) = some (.bool true) := by kernel_rfl
theorem vd_15_1 (l : Option V) (a : Int) : verdict (stOf l 15 1 a) = some (.bool true) := by kernel_rfl

end
end Lite
namespace Lite
section
open PySem PySem.Calls PyProof.Rows PySem.W

theorem vd_15_2 (l : Option V) (a : Int) : verdict (stOf l 15 2 a) = some (.bool true) := by kernel_rfl
theorem vd_15_4 (l : Option V) (a : Int) : verdict (stOf l 15 4 a) = some (.bool true) := by kernel_rfl
theorem vd_15_7 (l : Option V) (a : Int) : verdict (stOf l 15 7 a) = some (.bool true) := by kernel_rfl
theorem vd_15_8 (l : Option V) (a : Int) : verdict (stOf l 15 8 a) = some (.bool true) := by kernel_rfl
theorem vd_15_11 (l : Option V) (a : Int) : verdict (stOf l 15 11 a) = some (.bool true) := by kernel_rfl
theorem vd_15_13 (l : Option V) (a : Int) : verdict (stOf l 15 13 a) = some (.bool true) := by kernel_rfl
theorem vd_15_14 (l : Option V) (a : Int) : verdict (stOf l 15 14 a) = some (.bool true) := by kernel_rfl
theorem vd_16_1 (l : Option V) (a : Int) : verdict (stOf l 16 1 a) = some (.bool true) := by kernel_rfl
theorem vd_16_3 (l : Option V) (a : Int) : verdict (stOf l 16 3 a) = some (.bool true) := by kernel_rfl
theorem vd_16_5 (l : Option V) (a : Int) : verdict (stOf l 16 5 a) = some (.bool true) := by kernel_rfl
theorem vd_16_7 (l : Option V) (a : Int) : verdict (stOf l 16 7 a) = some (.bool true) := by kernel_rfl
theorem vd_16_9 (l : Option V) (a : Int) : verdict (stOf l 16 9 a) = some (.bool true) := by kernel_rfl
theorem vd_16_11 (l : Option V) (a : Int) : verdict (stOf l 16 11 a) = some (.bool true) := by kernel_rfl
theorem vd_16_13 (l : Option V) (a : Int) : verdict (stOf l 16 13 a) = some (.bool true) := by kernel_rfl
theorem vd_16_15 (l : Option V) (a : Int) : verdict (stOf l 16 15 a) = some (.bool true) := by kernel_rfl
theorem vd_17_1 (l : Option V) (a : Int) : verdict (stOf l 17 1 a) = some (.bool true) := by kernel_rfl
theorem vd_17_2 (l : Option V) (a : Int) : verdict (stOf l 17 2 a) = some (.bool true) := by kernel_rfl
theorem vd_17_3 (l : Option V) (a : Int) : verdict (stOf l 17 3 a) = some (.bool true) := by kernel_rfl
theorem vd_17_4 (l : Option V) (a : Int) : verdict (stOf l 17 4 a) = some (.bool true) := by kernel_rfl
theorem vd_17_5 (l : Option V) (a : Int) : verdict (stOf l 17 5 a) = some (.bool true) := by kernel_rfl
theorem vd_17_6 (l : Option V) (a : Int) : verdict (stOf l 17 6 a) = some (.bool true) := by kernel_rfl
theorem vd_17_7 (l : Option V) (a : Int) : verdict (stOf l 17 7 a) = some (.bool true) := by kernel_rfl
theorem vd_17_8 (l : Option V) (a : Int) : verdict (stOf l 17 8 a) = some (.bool true) := by kernel_rfl
theorem vd_17_9 (l : Option V) (a : Int) : verdict (stOf l 17 9 a) = some (.bool true) := by kernel_rfl
theorem vd_17_10 (l : Option V) (a : Int) : verdict (stOf l 17 10 a) = some (.bool true) := by kernel_rfl
theorem vd_17_11 (l : Option V) (a : Int) : verdict (stOf l 17 11 a) = some (.bool true) := by kernel_rfl
theorem vd_17_12 (l : Option V) (a : Int) : verdict (stOf l 17 12 a) = some (.bool true) := by kernel_rfl
theorem vd_17_13 (l : Option V) (a : Int) : verdict (stOf l 17 13 a) = some (.bool true) := by kernel_rfl
theorem vd_17_14 (l : Option V) (a : Int) : verdict (stOf l 17 14 a) = some (.bool true) := by kernel_rfl
theorem vd_17_15 (l : Option V) (a : Int) : verdict (stOf l 17 15 a) = some (.bool true) := by kernel_rfl
theorem vd_17_16 (l : Option V) (a : Int) : verdict (stOf l 17 16 a) = some (.bool true) := by kernel_rfl
theorem vd_18_1 (l : Option V) (a : Int) : verdict (stOf l 18 1 a) = some (.bool true) := by kernel_rfl

end
end Lite
namespace Lite
section
open PySem PySem.Calls PyProof.Rows PySem.W

theorem vd_18_5 (l : Option V) (a : Int) : verdict (stOf l 18 5 a) = some (.bool true) := by kernel_rfl
theorem vd_18_7 (l : Option V) (a : Int) : verdict (stOf l 18 7 a) = some (.bool true) := by kernel_rfl
theorem vd_18_11 (l : Option V) (a : Int) : verdict (stOf l 18 11 a) = some (.bool true) := by kernel_rfl
theorem vd_18_13 (l : Option V) (a : Int) : verdict (stOf l 18 13 a) = some (.bool true) := by kernel_rfl
theorem vd_18_17 (l : Option V) (a : Int) : verdict (stOf l 18 17 a) = some (.bool true) := by kernel_rfl
theorem vd_19_1 (l : Option V) (a : Int) : verdict (stOf l 19 1 a) = some (.bool true) := by kernel_rfl
theorem vd_19_2 (l : Option V) (a : Int) : verdict (stOf l 19 2 a) = some (.bool true) := by kernel_rfl
theorem vd_19_3 (l : Option V) (a : Int) : verdict (stOf l 19 3 a) = some (.bool true) := by kernel_rfl
theorem vd_19_4 (l : Option V) (a : Int) : verdict (stOf l 19 4 a) = some (.bool true) := by kernel_rfl
theorem vd_19_5 (l : Option V) (a : Int) : verdict (stOf l 19 5 a) = some (.bool true) := by kernel_rfl
theorem vd_19_6 (l : Option V) (a : Int) : verdict (stOf l 19 6 a) = some (.bool true) := by kernel_rfl
theorem vd_19_7 (l : Option V) (a : Int) : verdict (stOf l 19 7 a) = some (.bool true) := by kernel_rfl
theorem vd_19_8 (l : Option V) (a : Int) : verdict (stOf l 19 8 a) = some (.bool true) := by kernel_rfl
theorem vd_19_9 (l : Option V) (a : Int) : verdict (stOf l 19 9 a) = some (.bool true) := by kernel_rfl
theorem vd_19_10 (l : Option V) (a : Int) : verdict (stOf l 19 10 a) = some (.bool true) := by kernel_rfl
theorem vd_19_11 (l : Option V) (a : Int) : verdict (stOf l 19 11 a) = some (.bool true) := by kernel_rfl
theorem vd_19_12 (l : Option V) (a : Int) : verdict (stOf l 19 12 a) = some (.bool true) := by kernel_rfl
theorem vd_19_13 (l : Option V) (a : Int) : verdict (stOf l 19 13 a) = some (.bool true) := by kernel_rfl
theorem vd_19_14 (l : Option V) (a : Int) : verdict (stOf l 19 14 a) = some (.bool true) := by kernel_rfl
theorem vd_19_15 (l : Option V) (a : Int) : verdict (stOf l 19 15 a) = some (.bool true) := by kernel_rfl
theorem vd_19_16 (l : Option V) (a : Int) : verdict (stOf l 19 16 a) = some (.bool true) := by kernel_rfl
theorem vd_19_17 (l : Option V) (a : Int) : verdict (stOf l 19 17 a) = some (.bool true) := by kernel_rfl
theorem vd_19_18 (l : Option V) (a : Int) : verdict (stOf l 19 18 a) = some (.bool true) := by kernel_rfl
theorem vd_20_1 (l : Option V) (a : Int) : verdict (stOf l 20 1 a) = some (.bool true) := by kernel_rfl
theorem vd_20_3 (l : Option V) (a : Int) : verdict (stOf l 20 3 a) = some (.bool true) := by kernel_rfl
theorem vd_20_7 (l : Option V) (a : Int) : verdict (stOf l 20 7 a) = some (.bool true) := by kernel_rfl
theorem vd_20_9 (l : Option V) (a : Int) : verdict (stOf l 20 9 a) = some (.bool true) := by kernel_rfl
theorem vd_20_11 (l : Option V) (a : Int) : verdict (stOf l 20 11 a) = some (.bool true) := by kernel_rfl
theorem vd_20_13 (l : Option V) (a : Int) : verdict (stOf l 20 13 a) = some (.bool true) := by kernel_rfl
theorem vd_20_17 (l : Option V) (a : Int) : verdict (stOf l 20 17 a) = some (.bool true) := by kernel_rfl
theorem vd_20_19 (l : Option V) (a : Int) : verdict (stOf l 20 19 a) = some (.bool true) := by kernel_rfl

end
end Lite
namespace Lite
section
open PySem PySem.Calls PyProof.Rows PySem.W
noncomputable def Fine (g s : Int) : Prop := ∃ G S : Int, (∀ (l : Option V) (a : Int), verdict (stOf l G S a) = some (.bool true)) ∧ ∀ (l p x : Option V) (b0 b1 b2 : Int), dAns ⟨[l, p, x, some (.int g), some (.int s), none, none], some [.int b0, .int b1, .int b2]⟩ = some (.tup [.int G, .int S, .int b2])
theorem at_or {P : Int → Prop} {s : Int} (k n : Int) (e : n = k + 1) (h : P k) (r : n ≤ s → P s) (hk : k ≤ s) : P s := by
  by_cases q : s = k
  · subst q; exact h
  · exact r (by omega)
theorem dg_2 (s : Int) (h1 : 1 ≤ s) (h2 : s ≤ 1) : Fine 2 s := (at_or 1 2 rfl ⟨_, _, vd_2_1, dt_2_1⟩ (fun h => absurd (Int.le_trans h h2) (by decide))) h1
theorem dg_3 (s : Int) (h1 : 1 ≤ s) (h2 : s ≤ 2) : Fine 3 s := (at_or 1 2 rfl ⟨_, _, vd_3_1, dt_3_1⟩ (at_or 2 3 rfl ⟨_, _, vd_3_2, dt_3_2⟩ (fun h => absurd (Int.le_trans h h2) (by decide)))) h1
theorem dg_4 (s : Int) (h1 : 1 ≤ s) (h2 : s ≤ 3) : Fine 4 s := (at_or 1 2 rfl ⟨_, _, vd_4_1, dt_4_1⟩ (at_or 2 3 rfl ⟨_, _, vd_2_1, dt_4_2⟩ (at_or 3 4 rfl ⟨_, _, vd_4_3, dt_4_3⟩ (fun h => absurd (Int.le_trans h h2) (by decide))))) h1
theorem dg_5 (s : Int) (h1 : 1 ≤ s) (h2 : s ≤ 4) : Fine 5 s := (at_or 1 2 rfl ⟨_, _, vd_5_1, dt_5_1⟩ (at_or 2 3 rfl ⟨_, _, vd_5_2, dt_5_2⟩ (at_or 3 4 rfl ⟨_, _, vd_5_3, dt_5_3⟩ (at_or 4 5 rfl ⟨_, _, vd_5_4, dt_5_4⟩ (fun h => absurd (Int.le_trans h h2) (by decide)))))) h1
theorem dg_6 (s : Int) (h1 : 1 ≤ s) (h2 : s ≤ 5) : Fine 6 s := (at_or 1 2 rfl ⟨_, _, vd_6_1, dt_6_1⟩ (at_or 2 3 rfl ⟨_, _, vd_3_1, dt_6_2⟩ (at_or 3 4 rfl ⟨_, _, vd_2_1, dt_6_3⟩ (at_or 4 5 rfl ⟨_, _, vd_3_2, dt_6_4⟩ (at_or 5 6 rfl ⟨_, _, vd_6_5, dt_6_5⟩ (fun h => absurd (Int.le_trans h h2) (by decide))))))) h1
theorem dg_7 (s : Int) (h1 : 1 ≤ s) (h2 : s ≤ 6) : Fine 7 s := (at_or 1 2 rfl ⟨_, _, vd_7_1, dt_7_1⟩ (at_or 2 3 rfl ⟨_, _, vd_7_2, dt_7_2⟩ (at_or 3 4 rfl ⟨_, _, vd_7_3, dt_7_3⟩ (at_or 4 5 rfl ⟨_, _, vd_7_4, dt_7_4⟩ (at_or 5 6 rfl ⟨_, _, vd_7_5, dt_7_5⟩ (at_or 6 7 rfl ⟨_, _, vd_7_6, dt_7_6⟩ (fun h => absurd (Int.le_trans h h2) (by decide)))))))) h1
theorem dg_8 (s : Int) (h1 : 1 ≤ s) (h2 : s ≤ 7) : Fine 8 s := (at_or 1 2 rfl ⟨_, _, vd_8_1, dt_8_1⟩ (at_or 2 3 rfl ⟨_, _, vd_4_1, dt_8_2⟩ (at_or 3 4 rfl ⟨_, _, vd_8_3, dt_8_3⟩ (at_or 4 5 rfl ⟨_, _, vd_2_1, dt_8_4⟩ (at_or 5 6 rfl ⟨_, _, vd_8_5, dt_8_5⟩ (at_or 6 7 rfl ⟨_, _, vd_4_3, dt_8_6⟩ (at_or 7 8 rfl ⟨_, _, vd_8_7, dt_8_7⟩ (fun h => absurd (Int.le_trans h h2) (by decide))))))))) h1
theorem dg_9 (s : Int) (h1 : 1 ≤ s) (h2 : s ≤ 8) : Fine 9 s := (at_or 1 2 rfl ⟨_, _, vd_9_1, dt_9_1⟩ (at_or 2 3 rfl ⟨_, _, vd_9_2, dt_9_2⟩ (at_or 3 4 rfl ⟨_, _, vd_3_1, dt_9_3⟩ (at_or 4 5 rfl ⟨_, _, vd_9_4, dt_9_4⟩ (at_or 5 6 rfl ⟨_, _, vd_9_5, dt_9_5⟩ (at_or 6 7 rfl ⟨_, _, vd_3_2, dt_9_6⟩ (at_or 7 8 rfl ⟨_, _, vd_9_7, dt_9_7⟩ (at_or 8 9 rfl ⟨_, _, vd_9_8, dt_9_8⟩ (fun h => absurd (Int.le_trans h h2) (by decide)))))))))) h1
theorem dg_10 (s : Int) (h1 : 1 ≤ s) (h2 : s ≤ 9) : Fine 10 s := (at_or 1 2 rfl ⟨_, _, vd_10_1, dt_10_1⟩ (at_or 2 3 rfl ⟨_, _, vd_5_1, dt_10_2⟩ (at_or 3 4 rfl ⟨_, _, vd_10_3, dt_10_3⟩ (at_or 4 5 rfl ⟨_, _, vd_5_2, dt_10_4⟩ (at_or 5 6 rfl ⟨_, _, vd_2_1, dt_10_5⟩ (at_or 6 7 rfl ⟨_, _, vd_5_3, dt_10_6⟩ (at_or 7 8 rfl ⟨_, _, vd_10_7, dt_10_7⟩ (at_or 8 9 rfl ⟨_, _, vd_5_4, dt_10_8⟩ (at_or 9 10 rfl ⟨_, _, vd_10_9, dt_10_9⟩ (fun h => absurd (Int.le_trans h h2) (by decide))))))))))) h1
theorem dg_11 (s : Int) (h1 : 1 ≤ s) (h2 : s ≤ 10) : Fine 11 s := (at_or 1 2 rfl ⟨_, _, vd_11_1, dt_11_1⟩ (at_or 2 3 rfl ⟨_, _, vd_11_2, dt_11_2⟩ (at_or 3 4 rfl ⟨_, _, vd_11_3, dt_11_3⟩ (at_or 4 5 rfl ⟨_, _, vd_11_4, dt_11_4⟩ (at_or 5 6 rfl ⟨_, _, vd_11_5, dt_11_5⟩ (at_or 6 7 rfl ⟨_, _, vd_11_6, dt_11_6⟩ (at_or 7 8 rfl ⟨_, _, vd_11_7, dt_11_7⟩ (at_or 8 9 rfl ⟨_, _, vd_11_8, dt_11_8⟩ (at_or 9 10 rfl ⟨_, _, vd_11_9, dt_11_9⟩ (at_or 10 11 rfl ⟨_, _, vd_11_10, dt_11_10⟩ (fun h => absurd (Int.le_trans h h2) (by decide)))))))))))) h1
theorem dg_12 (s : Int) (h1 : 1 ≤ s) (h2 : s ≤ 11) : Fine 12 s := (at_or 1 2 rfl ⟨_, _, vd_12_1, dt_12_1⟩ (at_or 2 3 rfl ⟨_, _, vd_6_1, dt_12_2⟩ (at_or 3 4 rfl ⟨_, _, vd_4_1, dt_12_3⟩ (at_or 4 5 rfl ⟨_, _, vd_3_1, dt_12_4⟩ (at_or 5 6 rfl ⟨_, _, vd_12_5, dt_12_5⟩ (at_or 6 7 rfl ⟨_, _, vd_2_1, dt_12_6⟩ (at_or 7 8 rfl ⟨_, _, vd_12_7, dt_12_7⟩ (at_or 8 9 rfl ⟨_, _, vd_3_2, dt_12_8⟩ (at_or 9 10 rfl ⟨_, _, vd_4_3, dt_12_9⟩ (at_or 10 11 rfl ⟨_, _, vd_6_5, dt_12_10⟩ (at_or 11 12 rfl ⟨_, _, vd_12_11, dt_12_11⟩ (fun h => absurd (Int.le_trans h h2) (by decide))))))))))))) h1
theorem dg_13 (s : Int) (h1 : 1 ≤ s) (h2 : s ≤ 12) : Fine 13 s := (at_or 1 2 rfl ⟨_, _, vd_13_1, dt_13_1⟩ (at_or 2 3 rfl ⟨_, _, vd_13_2, dt_13_2⟩ (at_or 3 4 rfl ⟨_, _, vd_13_3, dt_13_3⟩ (at_or 4 5 rfl ⟨_, _, vd_13_4, dt_13_4⟩ (at_or 5 6 rfl ⟨_, _, vd_13_5, dt_13_5⟩ (at_or 6 7 rfl ⟨_, _, vd_13_6, dt_13_6⟩ (at_or 7 8 rfl ⟨_, _, vd_13_7, dt_13_7⟩ (at_or 8 9 rfl ⟨_, _, vd_13_8, dt_13_8⟩ (at_or 9 10 rfl ⟨_, _, vd_13_9, dt_13_9⟩ (at_or 10 11 rfl ⟨_, _, vd_13_10, dt_13_10⟩ (at_or 11 12 rfl ⟨_, _, vd_13_11, dt_13_11⟩ (at_or 12 13 rfl ⟨_, _, vd_13_12, dt_13_12⟩ (fun h => absurd (Int.le_trans h h2) (by decide)))))))))))))) h1
theorem dg_14 (s : Int) (h1 : 1 ≤ s) (h2 : s ≤ 13) : Fine 14 s := (at_or 1 2 rfl ⟨_, _, vd_14_1, dt_14_1⟩ (at_or 2 3 rfl ⟨_, _, vd_7_1, dt_14_2⟩ (at_or 3 4 rfl ⟨_, _, vd_14_3, dt_14_3⟩ (at_or 4 5 rfl ⟨_, _, vd_7_2, dt_14_4⟩ (at_or 5 6 rfl ⟨_, _, vd_14_5, dt_14_5⟩ (at_or 6 7 rfl ⟨_, _, vd_7_3, dt_14_6⟩ (at_or 7 8 rfl ⟨_, _, vd_2_1, dt_14_7⟩ (at_or 8 9 rfl ⟨_, _, vd_7_4, dt_14_8⟩ (at_or 9 10 rfl ⟨_, _, vd_14_9, dt_14_9⟩ (at_or 10 11 rfl ⟨_, _, vd_7_5, dt_14_10⟩ (at_or 11 12 rfl ⟨_, _, vd_14_11, dt_14_11⟩ (at_or 12 13 rfl ⟨_, _, vd_7_6, dt_14_12⟩ (at_or 13 14 rfl ⟨_, _, vd_14_13, dt_14_13⟩ (fun h => absurd (Int.le_trans h h2) (by decide))))))))))))))) h1
theorem dg_15 (s : Int) (h1 : 1 ≤ s) (h2 : s ≤ 14) : Fine 15 s := (at_or 1 2 rfl ⟨_, _, vd_15_1, dt_15_1⟩ (at_or 2 3 rfl ⟨_, _, vd_15_2, dt_15_2⟩ (at_or 3 4 rfl ⟨_, _, vd_5_1, dt_15_3⟩ (at_or 4 5 rfl ⟨_, _, vd_15_4, dt_15_4⟩ (at_or 5 6 rfl ⟨_, _, vd_3_1, dt_15_5⟩ (at_or 6 7 rfl ⟨_, _, vd_5_2, dt_15_6⟩ (at_or 7 8 rfl ⟨_, _, vd_15_7, dt_15_7⟩ (at_or 8 9 rfl ⟨_, _, vd_15_8, dt_15_8⟩ (at_or 9 10 rfl ⟨_, _, vd_5_3, dt_15_9⟩ (at_or 10 11 rfl ⟨_, _, vd_3_2, dt_15_10⟩ (at_or 11 12 rfl ⟨_, _, vd_15_11, dt_15_11⟩ (at_or 12 13 rfl ⟨_, _, vd_5_4, dt_15_12⟩ (at_or 13 14 rfl ⟨_, _, vd_15_13, dt_15_13⟩ (at_or 14 15 rfl ⟨_, _, vd_15_14, dt_15_14⟩ (fun h => absurd (Int.le_trans h h2) (by decide)))))))))))))))) h1
theorem dg_16 (s : Int) (h1 : 1 ≤ s) (h2 : s ≤ 15) : Fine 16 s := (at_or 1 2 rfl ⟨_, _, vd_16_1, dt_16_1⟩ (at_or 2 3 rfl ⟨_, _, vd_8_1, dt_16_2⟩ (at_or 3 4 rfl ⟨_, _, vd_16_3, dt_16_3⟩ (at_or 4 5 rfl ⟨_, _, vd_4_1, dt_16_4⟩ (at_or 5 6 rfl ⟨_, _, vd_16_5, dt_16_5⟩ (at_or 6 7 rfl ⟨_, _, vd_8_3, dt_16_6⟩ (at_or 7 8 rfl ⟨_, _, vd_16_7, dt_16_7⟩ (at_or 8 9 rfl ⟨_, _, vd_2_1, dt_16_8⟩ (at_or 9 10 rfl ⟨_, _, vd_16_9, dt_16_9⟩ (at_or 10 11 rfl ⟨_, _, vd_8_5, dt_16_10⟩ (at_or 11 12 rfl ⟨_, _, vd_16_11, dt_16_11⟩ (at_or 12 13 rfl ⟨_, _, vd_4_3, dt_16_12⟩ (at_or 13 14 rfl ⟨_, _, vd_16_13, dt_16_13⟩ (at_or 14 15 rfl ⟨_, _, vd_8_7, dt_16_14⟩ (at_or 15 16 rfl ⟨_, _, vd_16_15, dt_16_15⟩ (fun h => absurd (Int.le_trans h h2) (by decide))))))))))))))))) h1
theorem dg_17 (s : Int) (h1 : 1 ≤ s) (h2 : s ≤ 16) : Fine 17 s := (at_or 1 2 rfl ⟨_, _, vd_17_1, dt_17_1⟩ (at_or 2 3 rfl ⟨_, _, vd_17_2, dt_17_2⟩ (at_or 3 4 rfl ⟨_, _, vd_17_3, dt_17_3⟩ (at_or 4 5 rfl ⟨_, _, vd_17_4, dt_17_4⟩ (at_or 5 6 rfl ⟨_, _, vd_17_5, dt_17_5⟩ (at_or 6 7 rfl ⟨_, _, vd_17_6, dt_17_6⟩ (at_or 7 8 rfl ⟨_, _, vd_17_7, dt_17_7⟩ (at_or 8 9 rfl ⟨_, _, vd_17_8, dt_17_8⟩ (at_or 9 10 rfl ⟨_, _, vd_17_9, dt_17_9⟩ (at_or 10 11 rfl ⟨_, _, vd_17_10, dt_17_10⟩ (at_or 11 12 rfl ⟨_, _, vd_17_11, dt_17_11⟩ (at_or 12 13 rfl ⟨_, _, vd_17_12, dt_17_12⟩ (at_or 13 14 rfl ⟨_, _, vd_17_13, dt_17_13⟩ (at_or 14 15 rfl ⟨_, _, vd_17_14, dt_17_14⟩ (at_or 15 16 rfl ⟨_, _, vd_17_15, dt_17_15⟩ (at_or 16 17 rfl ⟨_, _, vd_17_16, dt_17_16⟩ (fun h => absurd (Int.le_trans h h2) (by decide)))))))))))))))))) h1
theorem dg_18 (s : Int) (h1 : 1 ≤ s) (h2 : s ≤ 17) : Fine 18 s := (at_or 1 2 rfl ⟨_, _, vd_18_1, dt_18_1⟩ (at_or 2 3 rfl ⟨_, _, vd_9_1, dt_18_2⟩ (at_or 3 4 rfl ⟨_, _, vd_6_1, dt_18_3⟩ (at_or 4 5 rfl ⟨_, _, vd_9_2, dt_18_4⟩ (at_or 5 6 rfl ⟨_, _, vd_18_5, dt_18_5⟩ (at_or 6 7 rfl ⟨_, _, vd_3_1, dt_18_6⟩ (at_or 7 8 rfl ⟨_, _, vd_18_7, dt_18_7⟩ (at_or 8 9 rfl ⟨_, _, vd_9_4, dt_18_8⟩ (at_or 9 10 rfl ⟨_, _, vd_2_1, dt_18_9⟩ (at_or 10 11 rfl ⟨_, _, vd_9_5, dt_18_10⟩ (at_or 11 12 rfl ⟨_, _, vd_18_11, dt_18_11⟩ (at_or 12 13 rfl ⟨_, _, vd_3_2, dt_18_12⟩ (at_or 13 14 rfl ⟨_, _, vd_18_13, dt_18_13⟩ (at_or 14 15 rfl ⟨_, _, vd_9_7, dt_18_14⟩ (at_or 15 16 rfl ⟨_, _, vd_6_5, dt_18_15⟩ (at_or 16 17 rfl ⟨_, _, vd_9_8, dt_18_16⟩ (at_or 17 18 rfl ⟨_, _, vd_18_17, dt_18_17⟩ (fun h => absurd (Int.le_trans h h2) (by decide))))))))))))))))))) h1
theorem dg_19 (s : Int) (h1 : 1 ≤ s) (h2 : s ≤ 18) : Fine 19 s := (at_or 1 2 rfl ⟨_, _, vd_19_1, dt_19_1⟩ (at_or 2 3 rfl ⟨_, _, vd_19_2, dt_19_2⟩ (at_or 3 4 rfl ⟨_, _, vd_19_3, dt_19_3⟩ (at_or 4 5 rfl ⟨_, _, vd_19_4, dt_19_4⟩ (at_or 5 6 rfl ⟨_, _, vd_19_5, dt_19_5⟩ (at_or 6 7 rfl ⟨_, _, vd_19_6, dt_19_6⟩ (at_or 7 8 rfl ⟨_, _, vd_19_7, dt_19_7⟩ (at_or 8 9 rfl ⟨_, _, vd_19_8, dt_19_8⟩ (at_or 9 10 rfl ⟨_, _, vd_19_9, dt_19_9⟩ (at_or 10 11 rfl ⟨_, _, vd_19_10, dt_19_10⟩ (at_or 11 12 rfl ⟨_, _, vd_19_11, dt_19_11⟩ (at_or 12 13 rfl ⟨_, _, vd_19_12, dt_19_12⟩ (at_or 13 14 rfl ⟨_, _, vd_19_13, dt_19_13⟩ (at_or 14 15 rfl ⟨_, _, vd_19_14, dt_19_14⟩ (at_or 15 16 rfl ⟨_, _, vd_19_15, dt_19_15⟩ (at_or 16 17 rfl ⟨_, _, vd_19_16, dt_19_16⟩ (at_or 17 18 rfl ⟨_, _, vd_19_17, dt_19_17⟩ (at_or 18 19 rfl ⟨_, _, vd_19_18, dt_19_18⟩ (fun h => absurd (Int.le_trans h h2) (by decide)))))))))))))))))))) h1
theorem dg_20 (s : Int) (h1 : 1 ≤ s) (h2 : s ≤ 19) : Fine 20 s := (at_or 1 2 rfl ⟨_, _, vd_20_1, dt_20_1⟩ (at_or 2 3 rfl ⟨_, _, vd_10_1, dt_20_2⟩ (at_or 3 4 rfl ⟨_, _, vd_20_3, dt_20_3⟩ (at_or 4 5 rfl ⟨_, _, vd_5_1, dt_20_4⟩ (at_or 5 6 rfl ⟨_, _, vd_4_1, dt_20_5⟩ (at_or 6 7 rfl ⟨_, _, vd_10_3, dt_20_6⟩ (at_or 7 8 rfl ⟨_, _, vd_20_7, dt_20_7⟩ (at_or 8 9 rfl ⟨_, _, vd_5_2, dt_20_8⟩ (at_or 9 10 rfl ⟨_, _, vd_20_9, dt_20_9⟩ (at_or 10 11 rfl ⟨_, _, vd_2_1, dt_20_10⟩ (at_or 11 12 rfl ⟨_, _, vd_20_11, dt_20_11⟩ (at_or 12 13 rfl ⟨_, _, vd_5_3, dt_20_12⟩ (at_or 13 14 rfl ⟨_, _, vd_20_13, dt_20_13⟩ (at_or 14 15 rfl ⟨_, _, vd_10_7, dt_20_14⟩ (at_or 15 16 rfl ⟨_, _, vd_4_3, dt_20_15⟩ (at_or 16 17 rfl ⟨_, _, vd_5_4, dt_20_16⟩ (at_or 17 18 rfl ⟨_, _, vd_20_17, dt_20_17⟩ (at_or 18 19 rfl ⟨_, _, vd_10_9, dt_20_18⟩ (at_or 19 20 rfl ⟨_, _, vd_20_19, dt_20_19⟩ (fun h => absurd (Int.le_trans h h2) (by decide))))))))))))))))))))) h1
theorem dg_all (g : Int) (h1 : 2 ≤ g) (h2 : g ≤ 20) : ∀ s : Int, 1 ≤ s → s ≤ g - 1 → Fine g s := (at_or (P := fun g => ∀ s : Int, 1 ≤ s → s ≤ g - 1 → Fine g s) 2 3 rfl (fun s a b => dg_2 s a b) (at_or (P := fun g => ∀ s : Int, 1 ≤ s → s ≤ g - 1 → Fine g s) 3 4 rfl (fun s a b => dg_3 s a b) (at_or (P := fun g => ∀ s : Int, 1 ≤ s → s ≤ g - 1 → Fine g s) 4 5 rfl (fun s a b => dg_4 s a b) (at_or (P := fun g => ∀ s : Int, 1 ≤ s → s ≤ g - 1 → Fine g s) 5 6 rfl (fun s a b => dg_5 s a b) (at_or (P := fun g => ∀ s : Int, 1 ≤ s → s ≤ g - 1 → Fine g s) 6 7 rfl (fun s a b => dg_6 s a b) (at_or (P := fun g => ∀ s : Int, 1 ≤ s → s ≤ g - 1 → Fine g s) 7 8 rfl (fun s a b => dg_7 s a b) (at_or (P := fun g => ∀ s : Int, 1 ≤ s → s ≤ g - 1 → Fine g s) 8 9 rfl (fun s a b => dg_8 s a b) (at_or (P := fun g => ∀ s : Int, 1 ≤ s → s ≤ g - 1 → Fine g s) 9 10 rfl (fun s a b => dg_9 s a b) (at_or (P := fun g => ∀ s : Int, 1 ≤ s → s ≤ g - 1 → Fine g s) 10 11 rfl (fun s a b => dg_10 s a b) (at_or (P := fun g => ∀ s : Int, 1 ≤ s → s ≤ g - 1 → Fine g s) 11 12 rfl (fun s a b => dg_11 s a b) (at_or (P := fun g => ∀ s : Int, 1 ≤ s → s ≤ g - 1 → Fine g s) 12 13 rfl (fun s a b => dg_12 s a b) (at_or (P := fun g => ∀ s : Int, 1 ≤ s → s ≤ g - 1 → Fine g s) 13 14 rfl (fun s a b => dg_13 s a b) (at_or (P := fun g => ∀ s : Int, 1 ≤ s → s ≤ g - 1 → Fine g s) 14 15 rfl (fun s a b => dg_14 s a b) (at_or (P := fun g => ∀ s : Int, 1 ≤ s → s ≤ g - 1 → Fine g s) 15 16 rfl (fun s a b => dg_15 s a b) (at_or (P := fun g => ∀ s : Int, 1 ≤ s → s ≤ g - 1 → Fine g s) 16 17 rfl (fun s a b => dg_16 s a b) (at_or (P := fun g => ∀ s : Int, 1 ≤ s → s ≤ g - 1 → Fine g s) 17 18 rfl (fun s a b => dg_17 s a b) (at_or (P := fun g => ∀ s : Int, 1 ≤ s → s ≤ g - 1 → Fine g s) 18 19 rfl (fun s a b => dg_18 s a b) (at_or (P := fun g => ∀ s : Int, 1 ≤ s → s ≤ g - 1 → Fine g s) 19 20 rfl (fun s a b => dg_19 s a b) (at_or (P := fun g => ∀ s : Int, 1 ≤ s → s ≤ g - 1 → Fine g s) 20 21 rfl (fun s a b => dg_20 s a b) (fun h => absurd (Int.le_trans h h2) (by decide))))))))))))))))))))) h1

theorem loop_any (ns : List Int) (s : Option V) : ∃ (p x : Option V) (b0 b1 b2 : Int), dLoop (tgTup [1, 2]) B_d (enumL 0 ((ns.map V.int).take 3)) ⟨[s, none, none, none, none, none, none], some [.int 5, .int 0, .int 0]⟩ = some (.next, ⟨[s, p, x, none, none, none, none], some [.int b0, .int b1, .int b2]⟩) := by
  match ns with
  | [] => exact ⟨_, _, _, _, _, dloop0 s⟩
  | [x] => exact ⟨_, _, _, _, _, dloop1 s x⟩
  | [x, y] => exact ⟨_, _, _, _, _, dloop2 s x y⟩
  | x :: y :: z :: r => exact ⟨_, _, _, _, _, dloop3 s x y z⟩
theorem drawn_any (ns : List Int) (h : ns.length ≤ 63) : ∃ G S a : Int, (∀ (l : Option V) (a : Int), verdict (stOf l G S a) = some (.bool true)) ∧ f__law_drawn [.list (ns.map V.int)] = some (.tup [.int G, .int S, .int a]) := by
  obtain ⟨p, x, b0, b1, b2, hl⟩ := loop_any ns (some (.list (ns.map V.int)))
  have m0 := Int.fmod_nonneg_of_pos b0 (b := 19) (by decide)
  have m1 := Int.fmod_lt_of_pos b0 (b := 19) (by decide)
  have hp : 0 < (2 + b0.fmod 19) - 1 := by omega
  have n0 := Int.fmod_nonneg_of_pos b1 hp
  have n1 := Int.fmod_lt_of_pos b1 hp
  obtain ⟨G, S, hv, ht⟩ := dg_all (2 + b0.fmod 19) (by omega) (by omega) (1 + b1.fmod ((2 + b0.fmod 19) - 1)) (by omega) (by omega)
  refine ⟨G, S, b2, hv, ?_⟩
  have e := head_eq D_dtail (ns.map V.int) (by rw [List.length_map]; omega) p x b0 b1 b2 hl (by omega)
  have a := ht (some (.list (ns.map V.int))) p x b0 b1 b2
  unfold dAns at a
  obtain ⟨⟨f, σ⟩, h1, h2⟩ := Option.bind_eq_some_iff.mp a
  rw [h1] at e
  have e' : f__law_drawn [.list (ns.map V.int)] = (D_dhead D_dtail ⟨[some (.list (ns.map V.int)), none, none, none, none, none, none], none⟩).bind fun p => match p.1 with | .ret v => some v | .next => some .none | _ => none := rfl
  rw [e', e]
  cases f with
  | ret v => exact h2
  | _ => cases h2
theorem plain (ns : List Int) (h : ns.length ≤ 63) : f_law [.list (ns.map V.int)] = some (.bool true) := by
  obtain ⟨G, S, a, hv, hd⟩ := drawn_any ns h
  have e : f_law [.list (ns.map V.int)] = (D_law ⟨[some (.list (ns.map V.int)), none, none, none, none, none, none, none, none, none, none], none⟩).bind fun p => match p.1 with | .ret v => some v | .next => some .none | _ => none := rfl
  rw [e, law_split, dseq_next (σ' := stOf (some (.list (ns.map V.int))) G S a)]
  · exact hv _ _
  · have e1 : dCall f__law_drawn (esCons (dVar 0) esNil) ⟨[some (.list (ns.map V.int)), none, none, none, none, none, none, none, none, none, none], none⟩ = f__law_drawn [.list (ns.map V.int)] := rfl
    unfold dTo
    rw [e1, hd]
    rfl

end
end Lite
namespace Lite
section
open PySem PySem.Calls PyProof.Rows PySem.W
theorem nb_of {h : Heap} (KX : unbooked h = true) (T : ∃ mc, h.Ns cStatics mc ∧ mc "sys.int_max_str_digits" = none) : NoneBooked h := by
  obtain ⟨mc, ⟨o, es, ep, ho, hdt, hs, hf⟩, _⟩ := T
  refine ⟨mc, ⟨o, es, ep, ho, hdt, hs, hf⟩, ?_⟩
  rw [← hf]
  unfold unbooked at KX
  rw [ho] at KX
  simp only [hdt] at KX
  exact Option.isNone_iff_eq_none.mp KX
theorem final (hv : ∀ ns : List Int, ns.length ≤ 63 → f_law [.list (ns.map .int)] = some (.bool true)) : PySem.Challenge.rw_wk0020_01.Holds := head (by
  intro w s₀ s₁ mg mb G Y fa o pm cd doc dV kV ho hd' hcd hD hmg hg args vals as hpre hlay hrd hwl hlo
  have KX : unbooked s₁.heap = true := Y
  refine Ground.open G ?_
  intro T B D TE TW
  have hW := wok (w := w) T (nb_of KX T.nodigits)
  wrow_args hpre hlay hrd hwl hlo
  all_goals (
    first | refine callC_kw (enter_call ?_) | refine enter_call ?_ | refine callC_kw (enter_callW ?_) | refine enter_callW ?_ | w_how)
  rename_i ns hs hlay0 hL1 hr1 hl2 w4 w3 l vs w0 hL ra w1 r0 hI hr hc1 hc2
  have hlen : ns.length ≤ 63 := by omega
  obtain ⟨a, ha, _, hcode⟩ := ok_law hW
  have e : some (Value.ref a) = some (.ref fa) := ha.symm.trans hmg
  cases e
  have w1' : Well w.params s₁.heap (Value.ref l) (WData.list (ofPys (ns.map PyData.int))) := w1
  cases w1' with
  | @list _ vs' _ hol hwa =>
  have hvs : vs' = vs := by
    obtain ⟨o', ho', hc', n', hdt'⟩ := hL
    rw [hol] at ho'
    cases ho'
    cases hdt'
    simp_all
  subst hvs
  have hpl : s₁.heap.PlainList l vs'.toArray := ⟨_, hol⟩
  refine hcode callerA nobody s₁ [.ref l] [.list (ns.map .int)] (.bool true) ⟨rfl, by decide +kernel, by decide +kernel⟩ (fun a h => h.elim) (fun b o h => h) (.cons (.list hpl (fun h => h) (rd_ints hI)) .nil) (hv ns hlen) _ fun r s' e q => ?_
  cases q
  refine ⟨.inl ⟨_, .bool true, [], rfl, fun cls => by kernel_rfl, .bool _, by kernel_rfl, fun _ => ⟨List.nodup_nil, fun a h => by cases h⟩⟩, OldK.of_keep fun b o h => e.heap b o (fun x => x) h, e.os, fun x hx => ?_⟩
  obtain ⟨i, hi, rfl⟩ := Array.mem_iff_getElem.mp hx
  exact e.new i _ (by rw [hg]; exact Nat.zero_le _) (Array.getElem?_eq_getElem hi))

end
end Lite
theorem PySem.Challenge.cw_wk0020_01_holds : PySem.Challenge.rw_wk0020_01.Holds :=
  Lite.final fun ns h => Lite.plain ns h
