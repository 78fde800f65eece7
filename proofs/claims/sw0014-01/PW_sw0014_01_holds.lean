import PyProof.Rows.All
import Wide.All
import OpenK.AllK
import Wide.FinOn
import PySem.Challenge.RW_sw0014_01
open PySem PySem.W PyProof.Rows
set_option Elab.async false
set_option linter.all false
set_option maxRecDepth 100000
section
namespace Mine

/-- plain data; `str` is a text whose token is booked, `raw` any text -/
inductive D where
  | none
  | bool (b : Bool)
  | int (i : Int)
  | raw (x : List Nat)
  | str (x : List Nat)
  | list (ds : List D)

/-- the frozen part of the heap; the booked tokens -/
structure Wd where
  G : Addr → Option Obj
  τ : Tok → Option (List Nat)

structure Wd.le (W W' : Wd) : Prop where
  G : ∀ a o, W.G a = some o → W'.G a = some o
  τ : ∀ t x, W.τ t = some x → W'.τ t = some x
theorem Wd.le.refl (W : Wd) : W.le W := ⟨fun _ _ h => h, fun _ _ h => h⟩
theorem Wd.le.trans {W W' W'' : Wd} (x : W.le W') (y : W'.le W'') : W.le W'' := ⟨fun a o h => y.G a o (x.G a o h), fun t z h => y.τ t z (x.τ t z h)⟩

abbrev lsObj (vs : List Value) (n : Nat) : Obj := { cls := .type "list", data := .seq vs.toArray n }

mutual
inductive Rep (W : Wd) : Value → D → Prop
  | none : Rep W .none .none
  | bool (b : Bool) : Rep W (.bool b) (.bool b)
  | int (i : Int) (t : Tok) : Rep W (.int i t) (.int i)
  | raw (x : List Nat) (t : Tok) : Rep W (.str ⟨x.toArray⟩ t) (.raw x)
  | str (x : List Nat) (t : Tok) : W.τ t = some x → Rep W (.str ⟨x.toArray⟩ t) (.str x)
  | list (a : Addr) (vs : List Value) (n : Nat) (ds : List D) : W.G a = some (lsObj vs n) → RepL W vs ds → Rep W (.ref a) (.list ds)
inductive RepL (W : Wd) : List Value → List D → Prop
  | nil : RepL W [] []
  | cons {v : Value} {vs : List Value} {d : D} {ds : List D} : Rep W v d → RepL W vs ds → RepL W (v :: vs) (d :: ds)
end
mutual
theorem Rep.mono {W W' : Wd} (h : W.le W') : ∀ {v : Value} {d : D}, Rep W v d → Rep W' v d
  | _, _, .none => .none
  | _, _, .bool b => .bool b
  | _, _, .int i t => .int i t
  | _, _, .raw x t => .raw x t
  | _, _, .str x t e => .str x t (h.τ _ _ e)
  | _, _, .list a vs n ds e r => .list a vs n ds (h.G _ _ e) (RepL.mono h r)
theorem RepL.mono {W W' : Wd} (h : W.le W') : ∀ {vs : List Value} {ds : List D}, RepL W vs ds → RepL W' vs ds
  | _, _, .nil => .nil
  | _, _, .cons x r => .cons (Rep.mono h x) (RepL.mono h r)
end

namespace RepL
variable {W : Wd} {v : Value} {d : D} {vs ws : List Value} {ds es : List D}
theorem length (h : RepL W vs ds) : vs.length = ds.length := by
  induction vs generalizing ds with
  | nil => cases h; rfl
  | cons v vs ih =>
    cases h with
    | cons _ r => rw [List.length_cons, List.length_cons, ih r]
theorem append (h : RepL W vs ds) (k : RepL W ws es) : RepL W (vs ++ ws) (ds ++ es) := by
  induction vs generalizing ds with
  | nil => cases h; exact k
  | cons v vs ih =>
    cases h with
    | cons h r => exact .cons h (ih r)
theorem one (h : Rep W v d) : RepL W [v] [d] := .cons h .nil
theorem get (h : RepL W vs ds) {k : Nat} {d : D} (hk : ds[k]? = some d) : ∃ v, vs[k]? = some v ∧ Rep W v d := by
  induction vs generalizing ds k with
  | nil => cases h; cases hk
  | cons v vs ih =>
    cases h with
    | cons h r =>
      cases k with
      | zero => cases hk; exact ⟨v, rfl, h⟩
      | succ k => exact ih r hk
theorem get' (h : RepL W vs ds) {k : Nat} {v : Value} (hk : vs[k]? = some v) : ∃ d, ds[k]? = some d ∧ Rep W v d := by
  induction vs generalizing ds k with
  | nil => cases h; cases hk
  | cons v vs ih =>
    cases h with
    | cons h r =>
      cases k with
      | zero => cases hk; exact ⟨_, rfl, h⟩
      | succ k => exact ih r hk
theorem set (h : RepL W vs ds) (k : Nat) (x : Rep W v d) : RepL W (vs.set k v) (ds.set k d) := by
  induction vs generalizing ds k with
  | nil => cases h; exact .nil
  | cons u vs ih =>
    cases h with
    | cons h r =>
      cases k with
      | zero => exact .cons x r
      | succ k => exact .cons h (ih r k)
theorem take (h : RepL W vs ds) (k : Nat) : RepL W (vs.take k) (ds.take k) := by
  induction vs generalizing ds k with
  | nil => cases h; simp; exact .nil
  | cons u vs ih =>
    cases h with
    | cons h r =>
      cases k with
      | zero => exact .nil
      | succ k => exact .cons h (ih r k)
theorem drop (h : RepL W vs ds) (k : Nat) : RepL W (vs.drop k) (ds.drop k) := by
  induction vs generalizing ds k with
  | nil => cases h; simp; exact .nil
  | cons u vs ih =>
    cases h with
    | cons h r =>
      cases k with
      | zero => exact .cons h r
      | succ k => exact ih r k
theorem reverse (h : RepL W vs ds) : RepL W vs.reverse ds.reverse := by
  induction vs generalizing ds with
  | nil => cases h; exact .nil
  | cons u vs ih =>
    cases h with
    | cons h r => rw [List.reverse_cons, List.reverse_cons]; exact (ih r).append (.one h)
theorem eraseIdx (h : RepL W vs ds) (k : Nat) : RepL W (vs.eraseIdx k) (ds.eraseIdx k) := by
  induction vs generalizing ds k with
  | nil => cases h; exact .nil
  | cons u vs ih =>
    cases h with
    | cons h r =>
      cases k with
      | zero => exact r
      | succ k => exact .cons h (ih r k)
end RepL

/-- what never changes: the program, the world, the heap at the law's call -/
structure Cx where
  prog : Program
  w : World
  bs : Heap
  mg : Str → Option Value
  mb : Str → Option Value

/-- what is known of the heap at the law's call -/
structure GB (Γ : Cx) : Prop where
  g : Γ.bs.Ns mainGlobals Γ.mg
  b : Γ.bs.Ns builtinsNs Γ.mb
  nolimit : Γ.bs.NoLimit
  booked : NoneBooked Γ.bs
  nodigits : ∃ mc, Γ.bs.Ns cStatics mc ∧ mc "sys.int_max_str_digits" = none

/-- a state that bears the frozen part -/
structure St (Γ : Cx) (W : Wd) (s : Shared) : Prop where
  gb : GB Γ
  base : ∀ a o, Γ.bs.get? a = some o → W.G a = some o
  sub : ∀ a o, W.G a = some o → s.heap.get? a = some o
  tok : ∀ t x, W.τ t = some x → t ≠ 0 ∧ t < s.toks
  pos : 1 ≤ s.toks
theorem St.keepB {Γ : Cx} {W : Wd} {s : Shared} (h : St Γ W s) : ∀ a o, Γ.bs.get? a = some o → s.heap.get? a = some o := fun a o e => h.sub a o (h.base a o e)

/-- ghost: the protected part, the frozen part at the start, the state at the start -/
structure Gh where
  F : Addr → Option Obj
  W₀ : Wd
  s₀ : Shared

structure PF (gh : Gh) (W : Wd) (s : Shared) : Prop where
  keep : ∀ b o, gh.F b = some o → s.heap.get? b = some o
  le : gh.W₀.le W
  sep : ∀ a o, W.G a = some o → gh.W₀.G a = some o ∨ gh.F a = none
  toks : gh.s₀.toks ≤ s.toks
  rest : s = { gh.s₀ with heap := s.heap, toks := s.toks }

abbrev Gh.of (W : Wd) (s : Shared) : Gh := ⟨s.heap.get?, W, s⟩

theorem PF.refl (W : Wd) (s : Shared) : PF (Gh.of W s) W s := ⟨fun _ _ h => h, .refl W, fun _ _ h => .inl h, Nat.le_refl _, rfl⟩
theorem PF.trans {gh gh' : Gh} {W : Wd} {s : Shared} (x : PF gh gh'.W₀ gh'.s₀) (hF : ∀ b o, gh.F b = some o → gh'.F b = some o) (y : PF gh' W s) : PF gh W s where
  keep := fun b o e => y.keep b o (hF b o e)
  le := x.le.trans y.le
  sep := fun a o e => by
    rcases y.sep a o e with h | h
    · exact x.sep a o h
    · refine .inr ?_
      cases e' : gh.F a with
      | none => rfl
      | some o' => rw [hF a o' e'] at h; cases h
  toks := Nat.le_trans x.toks y.toks
  rest := by
    have h1 := x.rest
    have h2 := y.rest
    rw [h2, h1]

/-- a pure step -/
structure PS (Γ : Cx) (W : Wd) (s : Shared) (W' : Wd) (s' : Shared) : Prop where
  pf : PF (Gh.of W s) W' s'
  st : St Γ W' s'
theorem PS.keep {Γ : Cx} {W W' : Wd} {s s' : Shared} (x : PS Γ W s W' s') : ∀ b o, s.heap.get? b = some o → s'.heap.get? b = some o := x.pf.keep
theorem PS.le {Γ : Cx} {W W' : Wd} {s s' : Shared} (x : PS Γ W s W' s') : W.le W' := x.pf.le
theorem PS.refl {Γ : Cx} {W : Wd} {s : Shared} (h : St Γ W s) : PS Γ W s W s := ⟨.refl W s, h⟩
theorem PS.trans {Γ : Cx} {W W' W'' : Wd} {s s' s'' : Shared} (x : PS Γ W s W' s') (y : PS Γ W' s' W'' s'') : PS Γ W s W'' s'' :=
  ⟨PF.trans (gh := Gh.of W s) (gh' := Gh.of W' s') x.pf x.keep y.pf, y.st⟩
theorem PS.fresh {Γ : Cx} {W W' : Wd} {s s' : Shared} (x : PS Γ W s W' s') {a : Addr} {o : Obj} (ha : s.heap.get? a = some o) (hG : W.G a = none) : W'.G a = none := by
  cases e : W'.G a with
  | none => rfl
  | some o' =>
    rcases x.pf.sep a o' e with h | h
    · have h' : W.G a = some o' := h
      rw [hG] at h'; cases h'
    · have h' : s.heap.get? a = none := h
      rw [ha] at h'; cases h'

/-- an extension of the heap alone, the frozen part as it was -/
theorem PS.ext {Γ : Cx} {W : Wd} {s : Shared} {h' : Heap} {tk : Nat} (x : St Γ W s) (hk : ∀ b o, s.heap.get? b = some o → h'.get? b = some o) (ht : s.toks ≤ tk) : PS Γ W s W { s with heap := h', toks := tk } :=
  ⟨⟨hk, .refl W, fun _ _ h => .inl h, ht, rfl⟩, ⟨x.gb, x.base, fun a o e => hk a o (x.sub a o e), fun t y e => ⟨(x.tok t y e).1, Nat.lt_of_lt_of_le (x.tok t y e).2 ht⟩, Nat.le_trans x.pos ht⟩⟩

def Wd.book (W : Wd) (t : Tok) (x : List Nat) : Wd := ⟨W.G, fun u => if u = t then some x else W.τ u⟩
def Wd.freeze (W : Wd) (a : Addr) (o : Obj) : Wd := ⟨fun b => if b = a then some o else W.G b, W.τ⟩

theorem Wd.le_freeze {W : Wd} {a : Addr} {o : Obj} (h : W.G a = none) : W.le (W.freeze a o) :=
  ⟨fun b o' e => by
    show (if b = a then some o else W.G b) = some o'
    rw [if_neg (by rintro rfl; rw [h] at e; cases e)]; exact e, fun _ _ e => e⟩

/-- a new token is booked -/
theorem PS.book {Γ : Cx} {W : Wd} {s : Shared} (x : St Γ W s) (y : List Nat) : PS Γ W s (W.book s.toks y) { s with toks := s.toks + 1 } := by
  have hle : W.le (W.book s.toks y) := ⟨fun _ _ e => e, fun t z e => by
    show (if t = s.toks then some y else W.τ t) = some z
    rw [if_neg (Nat.ne_of_lt (x.tok t z e).2)]; exact e⟩
  refine ⟨⟨fun _ _ e => e, hle, fun _ _ h => .inl h, Nat.le_succ _, rfl⟩, ⟨x.gb, x.base, x.sub, fun t z e => ?_, Nat.le_succ_of_le x.pos⟩⟩
  have e' : (if t = s.toks then some y else W.τ t) = some z := e
  by_cases ht : t = s.toks
  · subst ht
    exact ⟨Nat.ne_of_gt x.pos, Nat.lt_succ_self _⟩
  · rw [if_neg ht] at e'
    exact ⟨(x.tok t z e').1, Nat.lt_succ_of_lt (x.tok t z e').2⟩
theorem Wd.book_self (W : Wd) (t : Tok) (y : List Nat) : (W.book t y).τ t = some y := by
  show (if t = t then some y else W.τ t) = some y
  rw [if_pos rfl]

/-- what is new is frozen -/
theorem PS.freeze {Γ : Cx} {W W' : Wd} {s s' : Shared} (x : PS Γ W s W' s') {a : Addr} {o : Obj} (hs : s.heap.get? a = none) (hG : W'.G a = none) (ho : s'.heap.get? a = some o) : PS Γ W s (W'.freeze a o) s' := by
  have hle := Wd.le_freeze (o := o) hG
  refine ⟨⟨x.pf.keep, x.pf.le.trans hle, fun b o' e => ?_, x.pf.toks, x.pf.rest⟩, ⟨x.st.gb, fun b o' e => hle.G _ _ (x.st.base b o' e), fun b o' e => ?_, x.st.tok, x.st.pos⟩⟩
  · have e' : (if b = a then some o else W'.G b) = some o' := e
    by_cases hb : b = a
    · subst hb; exact .inr hs
    · rw [if_neg hb] at e'; exact x.pf.sep b o' e'
  · have e' : (if b = a then some o else W'.G b) = some o' := e
    by_cases hb : b = a
    · subst hb; rw [if_pos rfl] at e'; cases e'; exact ho
    · rw [if_neg hb] at e'; exact x.st.sub b o' e'

/-- room around a walk -/
structure AOk (n : Nat) (A : Around) : Prop where
  hh : A.handled = none
  depth : A.depth + n ≤ 700
  units : A.units + n ≤ 2000
theorem AOk.mono {n m : Nat} {A : Around} (h : AOk n A) (hm : m ≤ n := by decide) : AOk m A := ⟨h.hh, by have := h.depth; omega, by have := h.units; omega⟩
theorem AOk.in1 {n : Nat} {A : Around} (h : AOk (n + 1) A) : AOk n A.in1 := ⟨h.hh, by have := h.depth; simp only [Around.in1_depth]; omega, by have := h.units; simp only [Around.in1_units]; omega⟩
theorem AOk.room {n : Nat} {A : Around} (h : AOk n A) : A.depth < recursionLimit := by have := h.depth; show A.depth < 1000; omega
theorem AOk.cl {n : Nat} {A : Around} (h : AOk n A) : A.units < cLine := by have := h.units; show A.units < 9900; omega

end Mine
end
section
namespace Mine

/-- what a name holds: frozen data, or a list of the frame's own -/
inductive Sl where
  | fr (d : D)
  | own (ds : List D)

/-- what an operand is read as: data, or a list that stands in the heap -/
inductive Ar where
  | d (d : D)
  | l (ds : List D)

structure Fm where
  env : Env
  sc : Scope
  ns : List Str
  pin : Option (Addr × (List D → Prop))
abbrev F3 (env : Env) (sc : Scope) (ns : List Str) : Fm := ⟨env, sc, ns, none⟩

structure FmOk (fm : Fm) : Prop where
  sc : fm.env.scope = fm.sc
  kind : fm.sc.kind = .function
  globals : fm.env.globals = mainGlobals
  builtins : fm.env.builtins = builtinsNs
  nd : fm.ns.Nodup

def VarAt (env : Env) (h : Heap) (x : Str) (v : Value) : Prop :=
  (env.kindOf x = some .local ∧ ∃ m, h.Ns env.locals m ∧ m x = some v) ∨ (env.kindOf x = some .cell ∧ ∃ c, env.cells.lookup x = some c ∧ h.IsCell c (some v))
theorem VarAt.keeps {env : Env} {h h' : Heap} {x : Str} {v : Value} (k : VarAt env h x v) (hk : ∀ b o, h.get? b = some o → h'.get? b = some o) : VarAt env h' x v := by
  rcases k with ⟨a, m, b, c⟩ | ⟨a, c, b, d⟩
  · exact .inl ⟨a, m, b.keeps hk, c⟩
  · exact .inr ⟨a, c, b, d.keeps hk⟩

def SlR (W : Wd) (h : Heap) (v : Value) : Sl → Prop
  | .fr d => Rep W v d
  | .own ds => ∃ a vs n, v = .ref a ∧ W.G a = none ∧ h.get? a = some (lsObj vs n) ∧ RepL W vs ds
def ArR (W : Wd) (h : Heap) (v : Value) : Ar → Prop
  | .d d => Rep W v d
  | .l ds => ∃ a vs n, v = .ref a ∧ h.get? a = some (lsObj vs n) ∧ RepL W vs ds
/-- a value just made -/
def Res (W' : Wd) (s s' : Shared) (v : Value) : Sl → Prop
  | .fr d => Rep W' v d
  | .own ds => ∃ a vs n, v = .ref a ∧ W'.G a = none ∧ s.heap.get? a = none ∧ s'.heap.get? a = some (lsObj vs n) ∧ RepL W' vs ds

inductive ArsR (W : Wd) (h : Heap) : List Value → List Ar → Prop
  | nil : ArsR W h [] []
  | cons {v : Value} {vs : List Value} {a : Ar} {as : List Ar} : ArR W h v a → ArsR W h vs as → ArsR W h (v :: vs) (a :: as)

structure Rd (Γ : Cx) (fm : Fm) (σ : List (Option Sl)) (W : Wd) (s : Shared) : Prop where
  st : St Γ W s
  ok : FmOk fm
  vars : ∀ (i : Nat) (x : Str) (sl : Sl), fm.ns[i]? = some x → σ[i]? = some (some sl) → ∃ v, VarAt fm.env s.heap x v ∧ SlR W s.heap v sl

section
variable {Γ : Cx} {W W' : Wd} {s s' : Shared} {v : Value}
theorem SlR.ps {sl : Sl} (h : SlR W s.heap v sl) (x : PS Γ W s W' s') : SlR W' s'.heap v sl := by
  cases sl with
  | fr d => exact Rep.mono x.le h
  | own ds => obtain ⟨a, vs, n, rfl, hG, ho, hr⟩ := h; exact ⟨a, vs, n, rfl, x.fresh ho hG, x.keep _ _ ho, hr.mono x.le⟩
theorem ArR.ps {a : Ar} (h : ArR W s.heap v a) (x : PS Γ W s W' s') : ArR W' s'.heap v a := by
  cases a with
  | d d => exact Rep.mono x.le h
  | l ds => obtain ⟨a, vs, n, rfl, ho, hr⟩ := h; exact ⟨a, vs, n, rfl, x.keep _ _ ho, hr.mono x.le⟩
theorem ArsR.ps {vs : List Value} {as : List Ar} (h : ArsR W s.heap vs as) (x : PS Γ W s W' s') : ArsR W' s'.heap vs as := by
  induction h with
  | nil => exact .nil
  | cons h _ ih => exact .cons (h.ps x) ih
theorem Res.back {s₀ : Shared} {W₀ : Wd} {sl : Sl} (h : Res W' s s' v sl) (x : PS Γ W₀ s₀ W s) : Res W' s₀ s' v sl := by
  cases sl with
  | fr d => exact h
  | own ds =>
    obtain ⟨a, vs, n, rfl, hG, hn, ho, hr⟩ := h
    refine ⟨a, vs, n, rfl, hG, ?_, ho, hr⟩
    cases e : s₀.heap.get? a with
    | none => rfl
    | some o => rw [x.keep _ _ e] at hn; cases hn
theorem Rd.ps {fm : Fm} {σ : List (Option Sl)} (h : Rd Γ fm σ W s) (x : PS Γ W s W' s') : Rd Γ fm σ W' s' :=
  ⟨x.st, h.ok, fun i y sl h1 h2 => let ⟨v, a, b⟩ := h.vars i y sl h1 h2; ⟨v, a.keeps x.keep, b.ps x⟩⟩
end

/-- a pure run -/
def Pr {α : Type} (Γ : Cx) (A : Around) (W : Wd) (s : Shared) (t : Sem α) (P : α → Wd → Shared → Prop) : Prop :=
  wpAny (model Γ.prog Γ.w) A t (fun v s' => ∃ W', PS Γ W s W' s' ∧ P v W' s') (fun _ _ => False) s

section
variable {Γ : Cx} {A : Around} {W : Wd} {s : Shared}
theorem Pr.use {α : Type} {t : Sem α} {P : α → Wd → Shared → Prop} {Q : α → Shared → Prop} {E : Value → Shared → Prop} (h : Pr Γ A W s t P) (k : ∀ v W' s', PS Γ W s W' s' → P v W' s' → Q v s') :
    wpAny (model Γ.prog Γ.w) A t Q E s := wpAny_mono h (fun v s' ⟨W', x, p⟩ => k v W' s' x p) fun _ _ f => f.elim
theorem Pr.mono {α : Type} {t : Sem α} {P P' : α → Wd → Shared → Prop} (h : Pr Γ A W s t P) (k : ∀ v W' s', PS Γ W s W' s' → P v W' s' → P' v W' s') : Pr Γ A W s t P' :=
  h.use fun v W' s' x p => ⟨W', x, k v W' s' x p⟩
theorem Pr.pure {α : Type} {a : α} {P : α → Wd → Shared → Prop} (st : St Γ W s) (h : P a W s) : Pr Γ A W s (pure a) P := wpAny_pure ⟨W, .refl st, h⟩
theorem Pr.bind {α β : Type} {t : Sem α} {f : α → Sem β} {P : α → Wd → Shared → Prop} {P' : β → Wd → Shared → Prop} (h : Pr Γ A W s t P)
    (k : ∀ v W' s', PS Γ W s W' s' → P v W' s' → Pr Γ A W' s' (f v) P') : Pr Γ A W s (t >>= f) P' :=
  wpAny_bind (h.use fun v W' s' x p => (k v W' s' x p).use fun v' W'' s'' y p' => ⟨W'', x.trans y, p'⟩)
/-- the tokens never fall -/
theorem Pr.toks {α : Type} {t : Sem α} {Q : α → Shared → Prop} (h : wpAny (model Γ.prog Γ.w) A t Q (fun _ _ => False) s) : wpAny (model Γ.prog Γ.w) A t (fun a s' => s.toks ≤ s'.toks ∧ Q a s') (fun _ _ => False) s :=
  wpAny_mono (wpAny_toks_of (Nat.le_refl _) h) (fun _ _ x => x) fun _ _ x => x.2
end

def Ev (Γ : Cx) (n : Nat) (fm : Fm) (σ : List (Option Sl)) (e : Expr) (sl : Sl) : Prop :=
  ∀ A W s, AOk n A → Rd Γ fm σ W s → Pr Γ A W s (eval e fm.env) (fun v W' s' => Res W' s s' v sl)
def EvA (Γ : Cx) (n : Nat) (fm : Fm) (σ : List (Option Sl)) (e : Expr) (a : Ar) : Prop :=
  ∀ A W s, AOk n A → Rd Γ fm σ W s → Pr Γ A W s (eval e fm.env) (fun v W' s' => ArR W' s'.heap v a)
/-- a test -/
def Tr (Γ : Cx) (n : Nat) (fm : Fm) (σ : List (Option Sl)) (e : Expr) (b : Bool) : Prop :=
  ∀ A W s, AOk n A → Rd Γ fm σ W s → Pr Γ A W s (isTrue e fm.env (eval e fm.env)) (fun r _ _ => r = b)
def EvAs (Γ : Cx) (n : Nat) (fm : Fm) (σ : List (Option Sl)) (es : List Expr) (as : List Ar) : Prop :=
  ∀ A W s pos, AOk n A → Rd Γ fm σ W s → Pr Γ A W s (spliced (backTo pos (starEach es fm.env))) (fun vs W' s' => ArsR W' s'.heap vs as)
/-- an operation over operands -/
def Op2 (Γ : Cx) (n : Nat) (t : Value → Value → Sem Value) (a b : Ar) (sl : Sl) : Prop :=
  ∀ A W s v u, AOk n A → St Γ W s → ArR W s.heap v a → ArR W s.heap u b → Pr Γ A W s (t v u) (fun r W' s' => Res W' s s' r sl)
def OpN (Γ : Cx) (n : Nat) (t : List Value → Sem Value) (as : List Ar) (sl : Sl) : Prop :=
  ∀ A W s vs, AOk n A → St Γ W s → ArsR W s.heap vs as → Pr Γ A W s (t vs) (fun r W' s' => Res W' s s' r sl)

/-- a name among the frame's -/
def Lk (ns : List Str) (σ : List (Option Sl)) (x : Str) (sl : Sl) : Prop := ∃ i : Nat, ns[i]? = some x ∧ σ[i]? = some (some sl)
theorem Lk.here {ns : List Str} {σ : List (Option Sl)} {x : Str} {sl : Sl} : Lk (x :: ns) (some sl :: σ) x sl := ⟨0, rfl, rfl⟩
theorem Lk.there {ns : List Str} {σ : List (Option Sl)} {x y : Str} {sl : Sl} {o : Option Sl} (h : Lk ns σ x sl) : Lk (y :: ns) (o :: σ) x sl := let ⟨i, a, b⟩ := h; ⟨i + 1, a, b⟩

section
variable {Γ : Cx} {n : Nat} {fm : Fm} {σ : List (Option Sl)} {pos : Pos}

theorem Rd.lk {W : Wd} {s : Shared} {x : Str} {sl : Sl} (h : Rd Γ fm σ W s) (k : Lk fm.ns σ x sl) : ∃ v, VarAt fm.env s.heap x v ∧ SlR W s.heap v sl :=
  let ⟨i, a, b⟩ := k; h.vars i x sl a b
theorem Rd.kindF {W : Wd} {s : Shared} (h : Rd Γ fm σ W s) : fm.env.scope.kind = .function := by rw [h.ok.sc]; exact h.ok.kind

theorem load_var {M : Model} {A : Around} {E : Value → Shared → Prop} {Q : Value → Shared → Prop} {s : Shared} {env : Env} {x : Str} {v : Value} (hk : env.scope.kind = .function) (h : VarAt env s.heap x v) (hq : Q v s) : wpAny M A (loadName env x) Q E s := by
  rcases h with ⟨a, m, b, c⟩ | ⟨a, c, b, d⟩
  · exact wpAny_loadName_local hk a b c hq
  · exact wpAny_loadName_cell hk a b d hq

theorem Ev.name {x : Str} {d : D} (k : Lk fm.ns σ x (.fr d)) (hd : (x == ("__debug__" : Str)) = false) : Ev Γ n fm σ (.Name x pos) (.fr d) := by
  intro A W s _ R
  obtain ⟨v, h1, h2⟩ := R.lk k
  exact wpAny_Name (load_var R.kindF h1 ⟨W, .refl R.st, h2⟩) hd
theorem EvA.own {x : Str} {ds : List D} (k : Lk fm.ns σ x (.own ds)) (hd : (x == ("__debug__" : Str)) = false) : EvA Γ n fm σ (.Name x pos) (.l ds) := by
  intro A W s _ R
  obtain ⟨v, h1, a, vs, m, h2, h3, h4, h5⟩ := R.lk k
  exact wpAny_Name (load_var R.kindF h1 ⟨W, .refl R.st, ⟨a, vs, m, h2, h4, h5⟩⟩) hd
theorem Ev.raw {e : Expr} {x : List Nat} (h : Ev Γ n fm σ e (.fr (.str x))) : Ev Γ n fm σ e (.fr (.raw x)) := fun A W s hA R =>
  (h A W s hA R).mono fun v W' s' _ p => by cases p; exact .raw _ _
theorem EvA.raw {e : Expr} {x : List Nat} (h : EvA Γ n fm σ e (.d (.str x))) : EvA Γ n fm σ e (.d (.raw x)) := fun A W s hA R =>
  (h A W s hA R).mono fun v W' s' _ p => by cases p; exact .raw _ _
theorem EvA.d {e : Expr} {d : D} (h : Ev Γ n fm σ e (.fr d)) : EvA Γ n fm σ e (.d d) := h
theorem EvA.l {e : Expr} {ds : List D} (h : EvA Γ n fm σ e (.d (.list ds))) : EvA Γ n fm σ e (.l ds) := fun A W s hA R =>
  (h A W s hA R).mono fun v W' s' x p => by cases p with | list a vs m ds hg hr => exact ⟨a, vs, m, rfl, x.st.sub _ _ hg, hr⟩
theorem EvA.o {e : Expr} {ds : List D} (h : Ev Γ n fm σ e (.own ds)) : EvA Γ n fm σ e (.l ds) := fun A W s hA R =>
  (h A W s hA R).mono fun v W' s' _ p => let ⟨a, vs, m, h1, _, _, h2, h3⟩ := p; ⟨a, vs, m, h1, h2, h3⟩
theorem EvA.ls {e : Expr} {ds : List D} (h : Ev Γ n fm σ e (.fr (.list ds))) : EvA Γ n fm σ e (.l ds) := EvA.l (EvA.d h)

theorem Pr.frz {A : Around} {W : Wd} {s : Shared} {t : Sem Value} {ds : List D} (h : Pr Γ A W s t (fun v W' s' => Res W' s s' v (.own ds))) : Pr Γ A W s t (fun v W' s' => Res W' s s' v (.fr (.list ds))) :=
  h.use fun v W' s' x p => by
    obtain ⟨a, vs, m, rfl, hG, hs, ho, hr⟩ := p
    exact ⟨W'.freeze a (lsObj vs m), x.freeze hs hG ho, .list a vs m ds (by show (if a = a then _ else _) = _; rw [if_pos rfl]) (hr.mono (Wd.le_freeze hG))⟩
theorem Ev.frz {e : Expr} {ds : List D} (h : Ev Γ n fm σ e (.own ds)) : Ev Γ n fm σ e (.fr (.list ds)) := fun A W s hA R => (h A W s hA R).frz

theorem Pr.mkInt {A : Around} {W : Wd} {s : Shared} {i : Int} {P : Value → Wd → Shared → Prop} (st : St Γ W s) (h : ∀ t s', P (.int i t) W s') : Pr Γ A W s (PySem.mkInt i) P :=
  wpAny_mkInt ⟨W, .ext st (fun _ _ e => e) (Nat.le_succ _), h _ _⟩

theorem Ev.cint {i : Int} {k : Nat} : Ev Γ n fm σ (.Constant (.int i) k pos) (.fr (.int i)) := fun A W s _ R =>
  wpAny_Constant_int ⟨W, .ext R.st (fun _ _ e => e) (Nat.le_succ _), .int _ _⟩
theorem Ev.cstr {x : Str} {y : List Nat} {k : Nat} (h : x = ⟨y.toArray⟩) : Ev Γ n fm σ (.Constant (.str x) k pos) (.fr (.str y)) := fun A W s _ R => by
  subst h
  exact wpAny_Constant_str ⟨_, .book R.st y, .str _ _ (Wd.book_self _ _ _)⟩
theorem Ev.cnone {k : Nat} : Ev Γ n fm σ (.Constant .none k pos) (.fr .none) := fun A W s _ R => wpAny_Constant_none ⟨W, .refl R.st, .none⟩
theorem Ev.cbool {b : Bool} {k : Nat} : Ev Γ n fm σ (.Constant (.bool b) k pos) (.fr (.bool b)) := fun A W s _ R => wpAny_Constant_bool ⟨W, .refl R.st, .bool b⟩

theorem Ev.bin {l r : Expr} {op : Operator} {a b : Ar} {sl : Sl} (hl : EvA Γ n fm σ l a) (hr : EvA Γ n fm σ r b) (h : Op2 Γ n (binaryOp op) a b sl) : Ev Γ n fm σ (.BinOp l op r pos) sl := by
  intro A W s hA R
  refine wpAny_BinOp ((hl A W s hA R).use fun v W₁ s₁ x₁ p₁ => (hr A W₁ s₁ hA (R.ps x₁)).use fun u W₂ s₂ x₂ p₂ => ?_)
  exact (h A W₂ s₂ v u hA x₂.st (p₁.ps x₂) p₂).use fun r W₃ s₃ x₃ p₃ => ⟨W₃, (x₁.trans x₂).trans x₃, p₃.back (x₁.trans x₂)⟩
theorem Ev.cmp {l r : Expr} {op : CmpOp} {a b : Ar} {sl : Sl} (hl : EvA Γ n fm σ l a) (hr : EvA Γ n fm σ r b) (h : Op2 Γ n (compareOp op) a b sl) (hm : behindInMarks op r = false := by rfl) : Ev Γ n fm σ (.Compare l [op] [r] pos) sl := by
  intro A W s hA R
  refine wpAny_Compare1 ((hl A W s hA R).use fun v W₁ s₁ x₁ p₁ => (hr A W₁ s₁ hA (R.ps x₁)).use fun u W₂ s₂ x₂ p₂ => ?_) hm
  exact (h A W₂ s₂ v u hA x₂.st (p₁.ps x₂) p₂).use fun r W₃ s₃ x₃ p₃ => ⟨W₃, (x₁.trans x₂).trans x₃, p₃.back (x₁.trans x₂)⟩
theorem Tr.cmp {l r : Expr} {op : CmpOp} {a b : Ar} {t : Bool} (hl : EvA Γ n fm σ l a) (hr : EvA Γ n fm σ r b) (h : Op2 Γ n (compareOp op) a b (.fr (.bool t))) (hm : behindInMarks op r = false := by rfl) : Tr Γ n fm σ (.Compare l [op] [r] pos) t := by
  intro A W s hA R
  refine wpAny_isTrue_Compare1 ((hl A W s hA R).use fun v W₁ s₁ x₁ p₁ => (hr A W₁ s₁ hA (R.ps x₁)).use fun u W₂ s₂ x₂ p₂ => ?_) hm
  refine (h A W₂ s₂ v u hA x₂.st (p₁.ps x₂) p₂).use fun r W₃ s₃ x₃ p₃ => ?_
  cases p₃
  exact wpAny_truthy_bool ⟨W₃, (x₁.trans x₂).trans x₃, rfl⟩
theorem Ev.ifexp {t a b : Expr} {c : Bool} {sl : Sl} (ht : Tr Γ n fm σ t c) (ha : c = true → Ev Γ n fm σ a sl) (hb : c = false → Ev Γ n fm σ b sl) : Ev Γ n fm σ (.IfExp t a b pos) sl := by
  intro A W s hA R
  refine wpAny_IfExp ((ht A W s hA R).use fun r W₁ s₁ x₁ p₁ => ?_)
  subst p₁
  cases r with
  | true => exact if_pos rfl ▸ (ha rfl A W₁ s₁ hA (R.ps x₁)).use fun v W₂ s₂ x₂ p₂ => ⟨W₂, x₁.trans x₂, p₂.back x₁⟩
  | false => exact (if_neg (by decide) : (if false = true then _ else _) = _) ▸ (hb rfl A W₁ s₁ hA (R.ps x₁)).use fun v W₂ s₂ x₂ p₂ => ⟨W₂, x₁.trans x₂, p₂.back x₁⟩
theorem Tr.or2 {a b : Expr} {c d : Bool} (ha : Tr Γ n fm σ a c) (hb : c = false → Tr Γ n fm σ b d) : Tr Γ n fm σ (.BoolOp .Or [a, b] pos) (c || d) := by
  intro A W s hA R
  refine wpAny_isTrue_BoolOp ?_
  refine wpAny_allTrue_Or_cons ((ha A W s hA R).use fun r W₁ s₁ x₁ p₁ => ?_)
  subst p₁
  cases r with
  | true => exact ⟨W₁, x₁, rfl⟩
  | false =>
    refine wpAny_allTrue_Or_cons ((hb rfl A W₁ s₁ hA (R.ps x₁)).use fun r W₂ s₂ x₂ p₂ => ?_)
    subst p₂
    cases r with
    | true => exact ⟨W₂, x₁.trans x₂, rfl⟩
    | false => exact wpAny_allTrue_Or_nil ⟨W₂, x₁.trans x₂, rfl⟩
end
end Mine
end
section
namespace Mine

section
variable {Γ : Cx} {n : Nat} {fm : Fm} {σ : List (Option Sl)} {pos : Pos}

theorem Tr.and2 {a b : Expr} {c d : Bool} (ha : Tr Γ n fm σ a c) (hb : c = true → Tr Γ n fm σ b d) : Tr Γ n fm σ (.BoolOp .And [a, b] pos) (c && d) := by
  intro A W s hA R
  refine wpAny_isTrue_BoolOp ?_
  refine wpAny_allTrue_And_cons ((ha A W s hA R).use fun r W₁ s₁ x₁ p₁ => ?_)
  subst p₁
  cases r with
  | false => exact ⟨W₁, x₁, rfl⟩
  | true =>
    refine wpAny_allTrue_And_cons ((hb rfl A W₁ s₁ hA (R.ps x₁)).use fun r W₂ s₂ x₂ p₂ => ?_)
    subst p₂
    cases r with
    | false => exact ⟨W₂, x₁.trans x₂, rfl⟩
    | true => exact wpAny_allTrue_And_nil ⟨W₂, x₁.trans x₂, rfl⟩
theorem Tr.not {a : Expr} {c : Bool} (ha : Tr Γ n fm σ a c) : Tr Γ n fm σ (.UnaryOp .Not a pos) (!c) := by
  intro A W s hA R
  exact wpAny_isTrue_Not ((ha A W s hA R).use fun r W₁ s₁ x₁ p₁ => ⟨W₁, x₁, by rw [p₁]⟩)
/-- a test by the truth of a bool value -/
theorem Tr.val {e : Expr} {b : Bool} (h : Ev Γ n fm σ e (.fr (.bool b))) (he : ∀ env whole, isTrue e env whole = (do let v ← whole; standAt e.pos; holding [v] (truthy v)) := by intros; rfl) : Tr Γ n fm σ e b := by
  intro A W s hA R
  refine wpAny_isTrue_value ((h A W s hA R).use fun v W₁ s₁ x₁ p₁ => ?_) (he _ _)
  cases p₁
  exact wpAny_truthy_bool ⟨W₁, x₁, rfl⟩

theorem EvAs.nil : EvAs Γ n fm σ [] [] := fun A W s pos _ R => args_nil ⟨W, .refl R.st, .nil⟩
theorem EvAs.cons {e : Expr} {es : List Expr} {a : Ar} {as : List Ar} (h : EvA Γ n fm σ e a) (r : EvAs Γ n fm σ es as)
    (he : ∀ env, starEach (e :: es) env = (false, eval e env) :: starEach es env := by intro; rfl) : EvAs Γ n fm σ (e :: es) (a :: as) := by
  intro A W s pos hA R
  refine args_cons ((h A W s hA R).use fun v W₁ s₁ x₁ p₁ => ?_) (he _)
  exact (r A W₁ s₁ pos hA (R.ps x₁)).use fun vs W₂ s₂ x₂ p₂ => ⟨W₂, x₁.trans x₂, .cons (p₁.ps x₂) p₂⟩

/-- a built-in's name -/
structure BltAt (Γ : Cx) (x : Str) (v : Value) : Prop where
  none : Γ.mg x = none
  some : Γ.mb x = some v

theorem load_glob {M : Model} {A : Around} {E : Value → Shared → Prop} {Q : Value → Shared → Prop} {W : Wd} {s : Shared} {x : Str} {v : Value} (R : Rd Γ fm σ W s) (hk : fm.sc.names.lookup x = some .globalImplicit) (hv : Γ.mg x = some v) (h : Q v s)
    (hd : (x == ("__debug__" : Str)) = false) : wpAny M A (eval (.Name x pos) fm.env) Q E s := by
  refine Calls.Name_function_global R.kindF (by show fm.env.scope.names.lookup x = _; rw [R.ok.sc]; exact hk) (Calls.loadGlobal_global ?_ hv h) hd
  rw [R.ok.globals]; exact R.st.gb.g.keeps R.st.keepB
theorem load_blt {M : Model} {A : Around} {E : Value → Shared → Prop} {Q : Value → Shared → Prop} {W : Wd} {s : Shared} {x : Str} {v : Value} (R : Rd Γ fm σ W s) (hk : fm.sc.names.lookup x = some .globalImplicit) (hv : BltAt Γ x v) (h : Q v s)
    (hd : (x == ("__debug__" : Str)) = false) : wpAny M A (eval (.Name x pos) fm.env) Q E s := by
  refine Calls.Name_function_global R.kindF (by show fm.env.scope.names.lookup x = _; rw [R.ok.sc]; exact hk) (Calls.loadGlobal_builtin ?_ hv.none ?_ hv.some h) hd
  · rw [R.ok.globals]; exact R.st.gb.g.keeps R.st.keepB
  · rw [R.ok.builtins]; exact R.st.gb.b.keeps R.st.keepB

/-- a text that stands at the top -/
theorem Ev.globStr {x : Str} {y : List Nat} {t : Tok} (hk : fm.sc.names.lookup x = some .globalImplicit) (hv : Γ.mg x = some (.str ⟨y.toArray⟩ t)) (hd : (x == ("__debug__" : Str)) = false) : Ev Γ n fm σ (.Name x pos) (.fr (.raw y)) :=
  fun A W s _ R => load_glob R hk hv ⟨W, .refl R.st, .raw _ _⟩ hd

theorem starsPlain {env : Env} {pos : Pos} : ∀ {es : List Expr}, (es.all fun e => match e with | .Starred .. => false | _ => true) = true → (backTo pos (starEach es env)).any (·.1) = false
  | [], _ => rfl
  | e :: r, h => by
    have h1 := Bool.and_eq_true_iff.mp h
    have ih := starsPlain (env := env) (pos := pos) h1.2
    cases e <;> first | (exact absurd h1.1 Bool.false_ne_true) | exact ih

theorem Ev.bcall {x : Str} {np : Pos} {id : String} {e : Expr} {es : List Expr} {as : List Ar} {sl : Sl} (hk : fm.sc.names.lookup x = some .globalImplicit) (hb : BltAt Γ x (.builtin id)) (hd : (x == ("__debug__" : Str)) = false)
    (ha : EvAs Γ n fm σ (e :: es) as) (ho : OpN Γ n (fun vs => call (.builtin id) vs) as sl)
    (he : ∀ env, starEach (e :: es) env = (false, eval e env) :: starEach es env := by intro; rfl) (hp : (es.all fun e => match e with | .Starred .. => false | _ => true) = true := by rfl) :
    Ev Γ n fm σ (.Call (.Name x np) (e :: es) [] pos) sl := by
  intro A W s hA R
  refine Call_ (load_blt R hk hb ?_ hd)
  refine callWith_builtin1 ((ha A W s _ hA R).use fun vs W₁ s₁ x₁ p₁ => ?_) (he _) (starsPlain hp)
  exact (ho A W₁ s₁ vs hA x₁.st p₁).use fun r W₂ s₂ x₂ p₂ => ⟨W₂, x₁.trans x₂, p₂.back x₁⟩

/-- a def of the text -/
structure FD where
  name : Str
  params : Arguments
  body : List Stmt
  scope : Scope
structure FnAt (Γ : Cx) (f : FD) (a : Addr) : Prop where
  mg : Γ.mg f.name = some (.ref a)
  ob : ∃ o pm cd doc, Γ.bs.get? a = some o ∧ o.data = .func (Calls.docDef f.name f.params f.body f.scope pm cd doc) ∧ Γ.bs.CodeRec cd f.name
def Fn (Γ : Cx) (n : Nat) (f : FD) (as : List Ar) (sl : Sl) : Prop := ∀ a, FnAt Γ f a → OpN Γ n (fun vs => call (.ref a) vs) as sl

theorem Ev.fcall {f : FD} {a : Addr} {x : Str} {np : Pos} {m : Nat} {e : Expr} {es : List Expr} {as : List Ar} {sl : Sl} (hf : FnAt Γ f a) (hn : f.name = x) (hk : fm.sc.names.lookup x = some .globalImplicit) (hd : (x == ("__debug__" : Str)) = false)
    (ha : EvAs Γ n fm σ (e :: es) as) (ho : Fn Γ m f as sl) (hm : m ≤ n := by decide)
    (he : ∀ env, starEach (e :: es) env = (false, eval e env) :: starEach es env := by intro; rfl) :
    Ev Γ n fm σ (.Call (.Name x np) (e :: es) [] pos) sl := by
  intro A W s hA R
  refine Call_ (load_glob R hk (hn ▸ hf.mg) ?_ hd)
  obtain ⟨o, pm, cd, doc, h1, h2, h3⟩ := hf.ob
  refine callWith_def h2 ((ha A W s _ hA R).use fun vs W₁ s₁ x₁ p₁ => ⟨x₁.st.keepB _ _ h1, ?_⟩) (he _)
  exact (ho a hf A W₁ s₁ vs (hA.mono hm) x₁.st p₁).use fun r W₂ s₂ x₂ p₂ => ⟨W₂, x₁.trans x₂, p₂.back x₁⟩

/-- a method of a text -/
theorem Ev.smeth {o e : Expr} {es : List Expr} {name : Str} {apos : Pos} {id : String} {x : List Nat} {as : List Ar} {sl : Sl} (ho : EvA Γ n fm σ o (.d (.raw x))) (ha : EvAs Γ n fm σ (e :: es) as)
    (slot : Slot "str" name id) (hop : OpN Γ n (fun vs => call (.builtin id) vs) (.d (.raw x) :: as) sl) (hty : typeOf (.builtin id) = pure (.type "method_descriptor"))
    (hb : ∀ env, attributeBase o name env (eval o env) = eval o env := by intro; rfl)
    (hc : ∀ env, (((backTo pos (starEach (e :: es) env)).all fun x => !x.fst) && ((backToKw pos (keywordEach [] env)).all fun x => x.fst.isSome) && decide (((e :: es).length + ([] : List Keyword).length + if ([] : List Keyword).isEmpty = true then 0 else 1) < 30)) = true := by intro; rfl)
    (hl : (apos.endLine == pos.line) = true := by rfl)
    (he : ∀ env, starEach (e :: es) env = (false, eval e env) :: starEach es env := by intro; rfl) (hp : (es.all fun e => match e with | .Starred .. => false | _ => true) = true := by rfl) :
    Ev Γ n fm σ (.Call (.Attribute o name apos) (e :: es) [] pos) sl := by
  intro A W s hA R
  refine wpAny_Call_method (hb _) (hc _) hl F.plainAttrs_str slot hty ((ho A W s hA R).use fun v W₁ s₁ x₁ p₁ => ?_)
  cases p₁ with
  | raw x t =>
    refine ⟨typeIs_str _ _ _, (fun a h => by nomatch h), ?_⟩
    refine callWith_method1 ((ha A W₁ s₁ _ hA (R.ps x₁)).use fun vs W₂ s₂ x₂ p₂ => ?_) (he _) (starsPlain hp)
    exact (hop A W₂ s₂ _ hA x₂.st (.cons (.raw x t) p₂)).use fun r W₃ s₃ x₃ p₃ => ⟨W₃, (x₁.trans x₂).trans x₃, p₃.back (x₁.trans x₂)⟩

theorem arsD {W : Wd} {h : Heap} {vs : List Value} : ∀ {ds : List D}, ArsR W h vs (ds.map Ar.d) → RepL W vs ds := by
  intro ds
  induction ds generalizing vs with
  | nil => intro x; cases x; exact .nil
  | cons d ds ih => intro x; cases x with | cons a b => exact .cons a (ih b)

/-- a new list -/
theorem Pr.newList {A : Around} {W : Wd} {s : Shared} {vs : List Value} {ds : List D} (st : St Γ W s) (r : RepL W vs ds) (hs : ds.length ≤ 100000) : Pr Γ A W s (PySem.newList vs) (fun v W' s' => Res W' s s' v (.own ds)) := by
  have hn : s.heap.get? s.heap.objs.size = none := Heap.get?_none_of_le (Nat.le_refl _)
  have hG : W.G s.heap.objs.size = none := by
    cases e : W.G s.heap.objs.size with
    | none => rfl
    | some o => have := st.sub _ _ e; rw [hn] at this; cases this
  refine wpAny_newList ⟨W, .ext st (fun b o e => Heap.get?_push_of_some _ e) (Nat.le_refl _), _, vs, 0, rfl, hG, hn, Heap.get?_push_size _ rfl, r⟩ ?_
  rw [r.length]; exact Nat.le_trans hs (by decide)
theorem Ev.list {es : List Expr} {ds : List D} (h : EvAs Γ n fm σ es (ds.map Ar.d)) (hs : ds.length ≤ 100000 := by decide) : Ev Γ n fm σ (.List es pos) (.own ds) := by
  intro A W s hA R
  show wpAny _ _ (do standAt pos; PySem.newList (← spliced (backTo pos (starEach es fm.env)))) _ _ s
  refine wpAny_bind (wpAny_standAt (wpAny_bind ((h A W s pos hA R).use fun vs W₁ s₁ x₁ p₁ => ?_)))
  exact (Pr.newList x₁.st (arsD p₁) hs).use fun v W₂ s₂ x₂ p₂ => ⟨W₂, x₁.trans x₂, p₂.back x₁⟩
theorem EvAs.d {e : Expr} {es : List Expr} {d : D} {ds : List D} (h : Ev Γ n fm σ e (.fr d)) (r : EvAs Γ n fm σ es (ds.map Ar.d))
    (he : ∀ env, starEach (e :: es) env = (false, eval e env) :: starEach es env := by intro; rfl) : EvAs Γ n fm σ (e :: es) ((d :: ds).map Ar.d) := EvAs.cons (EvA.d h) r he
end
end Mine
end
section
namespace Mine

/-- the value of a text -/
abbrev S (x : List Nat) : Str := ⟨x.toArray⟩
theorem S_length (x : List Nat) : (S x).length = x.length := by show x.toArray.size = _; simp
theorem S_append (x y : List Nat) : S x ++ S y = S (x ++ y) := by
  show Str.mk (x.toArray ++ y.toArray) = _
  simp
theorem S_beq (x y : List Nat) : (S x == S y) = (x == y) := by
  rw [Bool.eq_iff_iff, beq_iff_eq, beq_iff_eq]
  constructor
  · intro h; have := congrArg (fun s => s.cps.toList) h; simpa using this
  · intro h; rw [h]

section
variable {Γ : Cx} {n : Nat} {A : Around} {W : Wd} {s : Shared}

/-- a step that makes tokens only -/
theorem PS.tk (st : St Γ W s) {tk : Nat} (h : s.toks ≤ tk) : PS Γ W s W { s with toks := tk } := PS.ext (h' := s.heap) st (fun _ _ e => e) h

/-- an operation whose result stands in any state with more tokens -/
theorem Pr.any {t : Sem Value} {P : Value → Prop} (st : St Γ W s) (h : wpAny (model Γ.prog Γ.w) A t (fun v s' => P v ∧ ∃ h' tk, s' = { s with heap := h', toks := tk } ∧ ∀ b o, s.heap.get? b = some o → h'.get? b = some o) (fun _ _ => False) s) :
    Pr Γ A W s t (fun v W' _ => W' = W ∧ P v) :=
  wpAny_mono (Pr.toks h) (fun v s' ⟨ht, p, h', tk, e, hk⟩ => by subst e; exact ⟨W, .ext st hk ht, rfl, p⟩) fun _ _ f => f

theorem op_int {t : Value → Value → Sem Value} {f : Int → Int → Int} {a b : Int}
    (h : ∀ A s u v (Q : Value → Shared → Prop), Q (.int (f a b) s.toks) { s with toks := s.toks + 1 } → wpAny (model Γ.prog Γ.w) A (t (.int a u) (.int b v)) Q (fun _ _ => False) s) : Op2 Γ n t (.d (.int a)) (.d (.int b)) (.fr (.int (f a b))) := by
  intro A W s v u hA st p q
  cases p; cases q
  exact h A s _ _ _ ⟨W, .tk st (Nat.le_succ _), .int _ _⟩
theorem op_cmp {t : Value → Value → Sem Value} {c : Bool} {a b : Int}
    (h : ∀ A s u v (Q : Value → Shared → Prop), Q (.bool c) s → wpAny (model Γ.prog Γ.w) A (t (.int a u) (.int b v)) Q (fun _ _ => False) s) : Op2 Γ n t (.d (.int a)) (.d (.int b)) (.fr (.bool c)) := by
  intro A W s v u hA st p q
  cases p; cases q
  exact h A s _ _ _ ⟨W, .refl st, .bool _⟩
theorem op_add {a b : Int} : Op2 Γ n (binaryOp .Add) (.d (.int a)) (.d (.int b)) (.fr (.int (a + b))) := op_int fun A s u v Q h => PyProof.Rows.add_int h
theorem op_sub {a b : Int} : Op2 Γ n (binaryOp .Sub) (.d (.int a)) (.d (.int b)) (.fr (.int (a - b))) := op_int fun A s u v Q h => PyProof.Rows.sub_int h
theorem op_iadd {a b : Int} : Op2 Γ n (inplaceOp .Add) (.d (.int a)) (.d (.int b)) (.fr (.int (a + b))) := op_int fun A s u v Q h => wpAny_iadd_int h
theorem op_mul {a b : Int} (hm : IntMulOk a b) : Op2 Γ n (binaryOp .Mult) (.d (.int a)) (.d (.int b)) (.fr (.int (a * b))) := op_int (f := fun a b => a * b) fun A s u v Q h => PyProof.Rows.mul_int h hm
theorem op_mod {a b : Int} (hb : b ≠ 0) : Op2 Γ n (binaryOp .Mod) (.d (.int a)) (.d (.int b)) (.fr (.int (a.fmod b))) := op_int (f := fun a b => a.fmod b) fun A s u v Q h => mod_int' hb h
theorem op_fdiv {a b : Int} (hb : b ≠ 0) (hp : Builtin.divisionGoesByPylong a b = false) : Op2 Γ n (binaryOp .FloorDiv) (.d (.int a)) (.d (.int b)) (.fr (.int (a.fdiv b))) := op_int (f := fun a b => a.fdiv b) fun A s u v Q h => floordiv_int hb h (.inl hp)
theorem op_pow {a b : Int} (h0 : 0 ≤ b) (h1 : b ≤ 1000000) (ha : a.natAbs < 2 ^ 64) : Op2 Γ n (binaryOp .Pow) (.d (.int a)) (.d (.int b)) (.fr (.int (a ^ b.toNat))) := op_int (f := fun a b => a ^ b.toNat) fun A s u v Q h => pow_int_small h0 h1 ha h
theorem op_eq {a b : Int} : Op2 Γ n (compareOp .Eq) (.d (.int a)) (.d (.int b)) (.fr (.bool (a == b))) := op_cmp fun A s u v Q h => PyProof.Rows.eq_int h
theorem op_ne {a b : Int} : Op2 Γ n (compareOp .NotEq) (.d (.int a)) (.d (.int b)) (.fr (.bool (a != b))) := op_cmp fun A s u v Q h => PyProof.Rows.ne_int h
theorem op_lt {a b : Int} : Op2 Γ n (compareOp .Lt) (.d (.int a)) (.d (.int b)) (.fr (.bool (decide (a < b)))) := op_cmp fun A s u v Q h => PyProof.Rows.lt_int h
theorem op_gt {a b : Int} : Op2 Γ n (compareOp .Gt) (.d (.int a)) (.d (.int b)) (.fr (.bool (decide (b < a)))) := op_cmp fun A s u v Q h => PyProof.Rows.gt_int h
theorem op_ge {a b : Int} : Op2 Γ n (compareOp .GtE) (.d (.int a)) (.d (.int b)) (.fr (.bool (decide (b ≤ a)))) := op_cmp fun A s u v Q h => PyProof.Rows.ge_int h
theorem op_isb {a b : Bool} : Op2 Γ n (compareOp .Is) (.d (.bool a)) (.d (.bool b)) (.fr (.bool (a == b))) := by
  intro A W s v u hA st p q
  cases p; cases q
  exact PyProof.Rows.is_bool ⟨W, .refl st, .bool _⟩

theorem op_sadd {x y : List Nat} (hs : x.length + y.length ≤ 100000) : Op2 Γ n (binaryOp .Add) (.d (.raw x)) (.d (.raw y)) (.fr (.raw (x ++ y))) := by
  intro A W s v u hA st p q
  cases p; cases q
  refine (Pr.any (P := fun v => ∃ t, v = .str (S (x ++ y)) t) st (add_str (fun t' tk => ⟨⟨t', by rw [S_append]⟩, s.heap, tk, rfl, fun _ _ e => e⟩) ?_)).mono fun v W' s' _ p => ?_
  · rw [S_length, S_length]; exact Nat.le_trans hs (by decide)
  · obtain ⟨rfl, t, rfl⟩ := p; exact .raw _ _
theorem op_seq {x y : List Nat} : Op2 Γ n (compareOp .Eq) (.d (.raw x)) (.d (.raw y)) (.fr (.bool (x == y))) := by
  intro A W s v u hA st p q
  cases p; cases q
  exact eq_str ⟨W, .refl st, by rw [S_beq]; exact .bool _⟩
/-- is one text in another -/
def inS (y x : List Nat) : Bool := !(Builtin.Str.occurrences (S x) (S y) 0 (S x).length 1).isEmpty
theorem op_in {x y : List Nat} : Op2 Γ n (compareOp .In) (.d (.raw y)) (.d (.raw x)) (.fr (.bool (inS y x))) := by
  intro A W s v u hA st p q
  cases p; cases q
  exact PyProof.Rows.in_str ⟨W, .refl st, .bool _⟩
theorem op_notin {x y : List Nat} : Op2 Γ n (compareOp .NotIn) (.d (.raw y)) (.d (.raw x)) (.fr (.bool (!inS y x))) := by
  intro A W s v u hA st p q
  cases p; cases q
  exact PyProof.Rows.notIn_str ⟨W, .refl st, .bool _⟩

theorem IsList.ls {h : Heap} {a : Addr} {vs : List Value} {m : Nat} (e : h.get? a = some (lsObj vs m)) : h.IsList a vs.toArray := ⟨_, e, rfl, m, rfl⟩

/-- the texts of a list -/
def txt : D → List Nat
  | .raw x => x
  | .str x => x
  | _ => []
def isTxt : D → Bool
  | .raw _ => true
  | .str _ => true
  | _ => false
theorem Rep.txt {v : Value} {d : D} (h : Rep W v d) (hd : isTxt d = true) : ∃ t, v = .str (S (txt d)) t := by
  cases h <;> first | exact ⟨_, rfl⟩ | (exact absurd hd Bool.false_ne_true)
/-- is a value a text that is x -/
def isS (x : List Nat) : Value → Bool
  | .str y _ => y == S x
  | _ => false
theorem any_isS {x : List Nat} {vs : List Value} {ds : List D} (h : RepL W vs ds) (hd : ∀ d ∈ ds, isTxt d = true) : vs.toArray.any (isS x) = ds.any (fun d => txt d == x) := by
  rw [← Array.any_toList]
  show vs.any (isS x) = _
  induction vs generalizing ds with
  | nil => cases h; rfl
  | cons v vs ih =>
    cases h with
    | cons h r =>
      rename_i d ds
      obtain ⟨t, rfl⟩ := h.txt (hd d List.mem_cons_self)
      rw [List.any_cons, List.any_cons, ih r fun d h => hd d (List.mem_cons_of_mem _ h)]
      show ((S (Mine.txt d) == S x) || _) = _
      rw [S_beq]
theorem eq_isS {x : List Nat} {t : Tok} {vs : List Value} {ds : List D} (h : RepL W vs ds) (hd : ∀ d ∈ ds, isTxt d = true) {A : Around} {s : Shared} : ∀ y, y ∈ vs.toArray → SeqAt.EqAt A s y (.str (S x) t) (isS x y) := by
  intro y hy
  have hy' : y ∈ vs := by simpa using hy
  obtain ⟨k, hk, rfl⟩ := List.getElem_of_mem hy'
  obtain ⟨d, h1, h2⟩ := h.get' (List.getElem?_eq_getElem hk)
  obtain ⟨u, e⟩ := h2.txt (hd d (List.mem_of_getElem? h1))
  rw [e]
  exact (eqGives_str _ _ u t).at A s
theorem op_inl {x : List Nat} {ds : List D} (hd : ∀ d ∈ ds, isTxt d = true) : Op2 Γ n (compareOp .In) (.d (.raw x)) (.l ds) (.fr (.bool (ds.any (fun d => txt d == x)))) := by
  intro A W s v u hA st p q
  cases p
  obtain ⟨a, vs, m, rfl, ho, hr⟩ := q
  exact SeqAt.in_listAt (isS x) (IsList.ls ho) (eq_isS hr hd) ⟨W, .refl st, by rw [any_isS hr hd]; exact .bool _⟩
theorem op_notinl {x : List Nat} {ds : List D} (hd : ∀ d ∈ ds, isTxt d = true) : Op2 Γ n (compareOp .NotIn) (.d (.raw x)) (.l ds) (.fr (.bool (!ds.any (fun d => txt d == x)))) := by
  intro A W s v u hA st p q
  cases p
  obtain ⟨a, vs, m, rfl, ho, hr⟩ := q
  exact SeqAt.notIn_listAt (isS x) (IsList.ls ho) (eq_isS hr hd) ⟨W, .refl st, by rw [any_isS hr hd]; exact .bool _⟩

/-- two lists added -/
theorem op_ladd {ds es : List D} (hs : ds.length + es.length ≤ 100000) : Op2 Γ n (binaryOp .Add) (.l ds) (.l es) (.own (ds ++ es)) := by
  intro A W s v u hA st p q
  obtain ⟨a, vs, m, rfl, ho, hr⟩ := p
  obtain ⟨b, us, k, rfl, ho', hr'⟩ := q
  have hn : s.heap.get? s.heap.objs.size = none := Heap.get?_none_of_le (Nat.le_refl _)
  have hG : W.G s.heap.objs.size = none := by
    cases e : W.G s.heap.objs.size with
    | none => rfl
    | some o => have := st.sub _ _ e; rw [hn] at this; cases this
  refine P.add_list ho ho' ⟨W, .ext st (fun b o e => Heap.get?_push_of_some _ e) (Nat.le_refl _), _, vs ++ us, 0, rfl, hG, hn, ?_, hr.append hr'⟩ ?_
  · have e : vs.toArray ++ us.toArray = (vs ++ us).toArray := by simp
    rw [e]; exact Heap.get?_push_size _ rfl
  · simp only [List.size_toArray]; rw [hr.length, hr'.length]; exact Nat.le_trans hs (by decide)

/-- a list taken as empty -/
theorem op_eqnil {ds : List D} : Op2 Γ n (compareOp .Eq) (.l ds) (.l []) (.fr (.bool ds.isEmpty)) := by
  intro A W s v u hA st p q
  obtain ⟨a, vs, m, rfl, ho, hr⟩ := p
  obtain ⟨b, us, k, rfl, ho', hr'⟩ := q
  cases hr'
  cases ds with
  | nil => cases hr; exact SeqAt.eq_listAt (e := fun _ => true) (IsList.ls ho) (IsList.ls ho') rfl hA.cl (fun j h1 h2 => absurd h1 (by simp)) ⟨W, .refl st, .bool _⟩
  | cons d ds =>
    cases hr with
    | cons _ _ => exact SeqAt.eq_list_lengthsAt (IsList.ls ho) (IsList.ls ho') (by simp) hA.cl ⟨W, .refl st, .bool _⟩

theorem ArsR.one {W : Wd} {h : Heap} {vs : List Value} {a : Ar} (x : ArsR W h vs [a]) : ∃ v, vs = [v] ∧ ArR W h v a := by
  cases x with | cons p q => cases q; exact ⟨_, rfl, p⟩
theorem ArsR.two {W : Wd} {h : Heap} {vs : List Value} {a b : Ar} (x : ArsR W h vs [a, b]) : ∃ v u, vs = [v, u] ∧ ArR W h v a ∧ ArR W h u b := by
  cases x with | cons p q => cases q with | cons q r => cases r; exact ⟨_, _, rfl, p, q⟩

theorem op_len {ds : List D} (hs : ds.length ≤ 100000) : OpN Γ n (fun vs => call (.builtin "len") vs) [.l ds] (.fr (.int ds.length)) := by
  intro A W s vs hA st p
  obtain ⟨v, rfl, a, us, m, rfl, ho, hr⟩ := p.one
  refine PyProof.Rows.len_list (IsList.ls ho) ?_ ⟨W, .tk st (by omega), ?_⟩
  · simp only [List.size_toArray]; rw [hr.length]; omega
  · simp only [List.size_toArray]; rw [hr.length]; exact .int _ _
theorem op_slen {x : List Nat} (hs : x.length ≤ 100000) : OpN Γ n (fun vs => call (.builtin "len") vs) [.d (.raw x)] (.fr (.int x.length)) := by
  intro A W s vs hA st p
  obtain ⟨v, rfl, q⟩ := p.one
  cases q with | raw x t =>
  show wpAny _ _ (call (.builtin "len") [Value.str (S x) t]) _ _ _
  refine SBL.len ?_ ?_
  · show ((x.toArray.size : Nat) : Int) < _; simp only [List.size_toArray]; omega
  · refine ⟨W, .tk st (by omega), ?_⟩
    show Rep W (.int ((x.toArray.size : Nat) : Int) _) _
    simp only [List.size_toArray]; exact .int _ _
theorem op_min {a b : Int} : OpN Γ n (fun vs => call (.builtin "min") vs) [.d (.int a), .d (.int b)] (.fr (.int (min a b))) := by
  intro A W s vs hA st p
  obtain ⟨v, u, rfl, p1, p2⟩ := p.two
  cases p1; cases p2
  refine (Pr.any (P := fun v => ∃ t, v = .int (min a b) t) st (min_two_ints hA.hh fun h' tk hk => ⟨?_, h', tk, rfl, hk⟩)).mono fun v W' s' _ p => ?_
  · by_cases h : b < a
    · rw [if_pos h]; exact ⟨_, by rw [show min a b = b by omega]⟩
    · rw [if_neg h]; exact ⟨_, by rw [show min a b = a by omega]⟩
  · obtain ⟨rfl, t, rfl⟩ := p; exact .int _ _
theorem op_int1 {x : List Nat} {i : Int} (hn : PySem.intText? (S x) = some i) (hl : x.length ≤ 640) : OpN Γ n (fun vs => call (.type "int") vs) [.d (.raw x)] (.fr (.int i)) := by
  intro A W s vs hA st p
  obtain ⟨v, rfl, q⟩ := p.one
  cases q with | raw x t =>
  show wpAny _ _ (call (.type "int") [Value.str (S x) t]) _ _ _
  refine KIN.call_text hn (by rw [S_length]; exact hl) ?_
  exact ⟨W, .tk st (Nat.le_succ _), .int _ _⟩

theorem intsAre {vs : List Value} {is : List Int} (h : RepL W vs (is.map D.int)) : ∃ xs : Array (Int × Tok), vs.toArray = intItems xs ∧ xs.toList.map (·.1) = is := by
  induction vs generalizing is with
  | nil =>
    cases is with
    | nil => exact ⟨#[], by simp [intItems], rfl⟩
    | cons i is => cases h
  | cons v vs ih =>
    cases is with
    | nil => cases h
    | cons i is =>
      cases h with
      | cons p q =>
        cases p with
        | int i t =>
          obtain ⟨xs, e1, e2⟩ := ih q
          refine ⟨((i, t) :: xs.toList).toArray, ?_, ?_⟩
          · have e1' : vs = (intItems xs).toList := by rw [← e1]
            rw [e1']
            simp [intItems]
          · simp [e2]
theorem op_sum {is : List Int} : OpN Γ n (fun vs => call (.builtin "sum") vs) [.l (is.map D.int)] (.fr (.int is.sum)) := by
  intro A W s vs hA st p
  obtain ⟨v, rfl, a, us, m, rfl, ho, hr⟩ := p.one
  obtain ⟨xs, e1, e2⟩ := intsAre hr
  refine (Pr.any (P := fun v => ∃ t, v = .int is.sum t) st (sum_intListG hA.hh (e1 ▸ IsList.ls ho) fun h' tk t' hk => ⟨⟨t', ?_⟩, h', tk, rfl, hk⟩)).mono fun v W' s' _ p => ?_
  · rw [preSum_eq, List.take_of_length_le (by simp)]
    rw [e2]
  · obtain ⟨rfl, t, rfl⟩ := p; exact .int _ _
end
end Mine
end
section
namespace Mine

/-- a slice with step one -/
def cut {α : Type} (lo hi : Option Int) (l : List α) : List α := (l.drop (lo.elim 0 (clipAt l.length))).take (hi.elim l.length (clipAt l.length) - lo.elim 0 (clipAt l.length))
theorem cut_take {α : Type} (k : Nat) (l : List α) : cut none (some (k : Int)) l = l.take k := by
  unfold cut
  simp only [Option.elim, clipAt_nat, List.drop_zero, Nat.sub_zero]
  rcases Nat.le_total k l.length with h | h
  · rw [Nat.min_eq_left h]
  · rw [Nat.min_eq_right h, List.take_of_length_le (Nat.le_refl _), List.take_of_length_le h]
theorem cut_drop {α : Type} (k : Nat) (l : List α) : cut (some (k : Int)) none l = l.drop k := by
  unfold cut
  simp only [Option.elim, clipAt_nat]
  rcases Nat.le_total k l.length with h | h
  · rw [Nat.min_eq_left h, List.take_of_length_le (by simp)]
  · rw [Nat.min_eq_right h, List.drop_of_length_le h, List.drop_of_length_le (Nat.le_refl _)]; simp
theorem cut_init {α : Type} (l : List α) : cut none (some (-1)) l = l.dropLast := by
  unfold cut
  have := clipAt_neg l.length 1 (Nat.le_refl _)
  simp only [Option.elim, List.drop_zero, Nat.sub_zero]
  rw [show (-1 : Int) = -((1 : Nat) : Int) from rfl, this, List.dropLast_eq_take]
theorem cut_mid {α : Type} (k : Nat) (l : List α) : cut (some (k : Int)) (some (-1)) l = l.dropLast.drop k := by
  unfold cut
  have := clipAt_neg l.length 1 (Nat.le_refl _)
  simp only [Option.elim, clipAt_nat]
  rw [show (-1 : Int) = -((1 : Nat) : Int) from rfl, this, List.dropLast_eq_take, List.drop_take]
  rcases Nat.le_total k l.length with h | h
  · rw [Nat.min_eq_left h]
  · rw [Nat.min_eq_right h, List.drop_of_length_le h, List.drop_of_length_le (Nat.le_refl _)]; simp
theorem cut_length {α : Type} (lo hi : Option Int) (l : List α) : (cut lo hi l).length ≤ l.length := by
  unfold cut
  rw [List.length_take, List.length_drop]
  omega
theorem RepL.cut {W : Wd} {vs : List Value} {ds : List D} (h : RepL W vs ds) (lo hi : Option Int) : RepL W (Mine.cut lo hi vs) (Mine.cut lo hi ds) := by
  unfold Mine.cut
  rw [h.length]
  exact (h.drop _).take _

theorem pick_cut (vs : List Value) (lo hi : Option Int) : slicePick vs.toArray lo hi none = (cut lo hi vs).toArray := by
  rw [slicePick_plain]
  simp only [List.size_toArray]
  rfl
theorem idx_cut (x : List Nat) (lo hi : Option Int) : (Builtin.Str.strSliceIndices lo hi 1 x.length).filterMap (x.toArray[·]?) = cut lo hi x := by
  have e : Builtin.Str.strSliceIndices lo hi 1 x.length = sliceRange (sliceBounds lo hi none x.length).1 (sliceBounds lo hi none x.length).2.1 1 := by
    cases lo <;> cases hi <;> rfl
  rw [e, sliceBounds_plain, sliceRange_one]
  have := pick_run x.toArray (lo.elim 0 (clipAt x.length)) (hi.elim x.length (clipAt x.length) - lo.elim 0 (clipAt x.length))
  rw [this]
  rfl

section
variable {Γ : Cx} {n : Nat} {fm : Fm} {σ : List (Option Sl)} {pos : Pos}

/-- a bound of a slice -/
inductive EvP (Γ : Cx) (n : Nat) (fm : Fm) (σ : List (Option Sl)) : Option Expr → Option Int → Prop
  | none : EvP Γ n fm σ none none
  | some {e : Expr} {i : Int} : EvA Γ n fm σ e (.d (.int i)) → EvP Γ n fm σ (some e) (some i)
theorem EvP.run {x : Option Expr} {k : Option Int} (h : EvP Γ n fm σ x k) {A : Around} {W : Wd} {s : Shared} (hA : AOk n A) (R : Rd Γ fm σ W s) : Pr Γ A W s (evalPart x fm.env) (fun v _ _ => ∃ p : Option (Int × Tok), v = partValue p ∧ p.map (·.1) = k) := by
  cases h with
  | none => exact wpAny_pure ⟨W, .refl R.st, (Option.none : Option (Int × Tok)), rfl, rfl⟩
  | some h =>
    refine (h A W s hA R).mono fun v W' s' _ p => ?_
    cases p with
    | int j t => exact ⟨Option.some (_, t), rfl, rfl⟩
theorem part_of (p : Option (Int × Tok)) : IsPart (partValue p) (p.map (·.1)) := by
  cases p with
  | none => exact .none
  | some p => exact .int _ _

/-- an item of a list -/
theorem Ev.item {value slice : Expr} {ds : List D} {i : Int} {d : D} (hv : EvA Γ n fm σ value (.l ds)) (hi : EvA Γ n fm σ slice (.d (.int i))) (hd : ds[(if i < 0 then i + ds.length else i).toNat]? = some d) (h0 : -(ds.length : Int) ≤ i) (hsz : ds.length ≤ 100000)
    (hs : ∀ l k u, subscripted slice false (.ref l) (.int k u) = operate [.ref l, .int k u] (getItem (.ref l) (.int k u)) := by intros; rfl) : Ev Γ n fm σ (.Subscript value slice pos) (.fr d) := by
  intro A W s hA R
  refine Subscript_ ((hv A W s hA R).use fun o W₁ s₁ x₁ p₁ => (hi A W₁ s₁ hA (R.ps x₁)).use fun iv W₂ s₂ x₂ p₂ => ?_)
  have p₁' := p₁.ps x₂
  obtain ⟨a, vs, m, rfl, ho, hr⟩ := p₁'
  cases p₂ with
  | int i t =>
    have hl := IsList.ls ho
    have hlen := hr.length
    obtain ⟨v, e1, e2⟩ := hr.get hd
    have hlt : (if i < 0 then i + ds.length else i).toNat < vs.length := (List.getElem?_eq_some_iff.mp e1).1
    refine tail_any (T := "list") hl.typeIs list_getitem_lookup ?_ (hs _ _ _)
    by_cases hneg : i < 0
    · rw [if_pos hneg] at e1 hlt
      refine wpAny_getItem_list_neg hl hneg (by simp only [List.size_toArray]; omega) (by omega) (x := v) ?_ ⟨W₂, x₁.trans x₂, e2⟩
      simp only [List.size_toArray, hlen]; simpa using e1
    · rw [if_neg hneg] at e1 hlt
      refine wpAny_getItem_list hl (by omega) (by omega) (x := v) (by simpa using e1) ⟨W₂, x₁.trans x₂, e2⟩

/-- a sign of a text -/
theorem Ev.sign {value slice : Expr} {x : List Nat} {i : Int} {c : Nat} (hv : EvA Γ n fm σ value (.d (.raw x))) (hi : EvA Γ n fm σ slice (.d (.int i))) (hd : x[(if i < 0 then i + x.length else i).toNat]? = some c) (h0 : -(x.length : Int) ≤ i) (hsz : x.length ≤ 100000)
    (hs : ∀ l m k u, subscripted slice false (.str l m) (.int k u) = operate [.str l m, .int k u] (getItem (.str l m) (.int k u)) := by intros; rfl) (ht : ∀ v r u, letTemporaryGo value (.str v u) r = pure () := by intros; rfl) : Ev Γ n fm σ (.Subscript value slice pos) (.fr (.str [c])) := by
  intro A W s hA R
  refine Subscript_ ((hv A W s hA R).use fun o W₁ s₁ x₁ p₁ => (hi A W₁ s₁ hA (R.ps x₁)).use fun iv W₂ s₂ x₂ p₂ => ?_)
  cases p₁ with
  | raw x t =>
    cases p₂ with
    | int i u =>
      have hlt : (if i < 0 then i + x.length else i).toNat < x.length := (List.getElem?_eq_some_iff.mp hd).1
      refine item_str ?_ ?_ ?_ (fun _ => ?_) (hs _ _ _ _) (fun r => ht _ _ _)
      · unfold fitsSsize
        rw [decide_eq_false (by omega), decide_eq_false (by split at hlt <;> omega)]; rfl
      · rw [S_length]; exact h0
      · rw [S_length]; split at hlt <;> omega
      · have e : Txt.item (S x) i = S [c] := by
          have e : seqIndex? i (S x).length = some ((if i < 0 then i + x.length else i).toNat) := by
            rw [S_length]
            show (if (decide (0 ≤ (if i < 0 then i + (x.length : Int) else i)) && decide ((if i < 0 then i + (x.length : Int) else i) < x.length)) = true then _ else _) = _
            rw [if_pos (by rw [Bool.and_eq_true, decide_eq_true_eq, decide_eq_true_eq]; split at hlt <;> split <;> constructor <;> omega)]
          unfold Txt.item Txt.charAt
          rw [e]
          show Str.mk #[(x.toArray[_]?).getD 0] = Str.mk [c].toArray
          rw [List.getElem?_toArray, hd]; rfl
        rw [e]
        exact ⟨_, (x₁.trans x₂).trans (.book x₂.st [c]), .str _ _ (Wd.book_self _ _ _)⟩

theorem fresh_size {W : Wd} {s : Shared} (st : St Γ W s) {a : Addr} (h : s.heap.objs.size ≤ a) : s.heap.get? a = none ∧ W.G a = none := by
  have hn : s.heap.get? a = none := Heap.get?_none_of_le h
  refine ⟨hn, ?_⟩
  cases e : W.G a with
  | none => rfl
  | some o => have := st.sub _ _ e; rw [hn] at this; cases this

/-- a slice of a list -/
theorem Ev.lcut {value : Expr} {lower upper : Option Expr} {p : Pos} {ds : List D} {lo hi : Option Int} (hv : EvA Γ n fm σ value (.l ds)) (hl : EvP Γ n fm σ lower lo) (hu : EvP Γ n fm σ upper hi) (hsz : ds.length ≤ 100000)
    (hs : ∀ l k, subscripted (.Slice lower upper none p) false (.ref l) (.ref k) = operate [.ref k, .ref l] (getItem (.ref l) (.ref k)) := by intros; rfl) : Ev Γ n fm σ (.Subscript value (.Slice lower upper none p) pos) (.own (cut lo hi ds)) := by
  intro A W s hA R
  refine Subscript_ ((hv A W s hA R).use fun o W₁ s₁ x₁ p₁ => wpAny_Slice ((hl.run hA (R.ps x₁)).use fun vl W₂ s₂ x₂ p₂ => (hu.run hA ((R.ps x₁).ps x₂)).use fun vu W₃ s₃ x₃ p₃ => ?_))
  obtain ⟨pl, rfl, rfl⟩ := p₂
  obtain ⟨pu, rfl, rfl⟩ := p₃
  have p₁' := (p₁.ps x₂).ps x₃
  obtain ⟨a, vs, m, rfl, ho, hr⟩ := p₁'
  rw [evalPart_none]
  refine wpAny_pure ?_
  have hl' := (IsList.ls ho).push { cls := .type "slice", data := .fields #[partValue pl, partValue pu, .none] }
  refine tail_any (T := "list") hl'.typeIs list_getitem_lookup ?_ (hs _ _)
  refine wpAny_getItem_list_slice hl' (Heap.IsSliceOf.new ..) (part_of pl) (part_of pu) .none (by simp) ?_ (by simp only [List.size_toArray]; rw [hr.length]; exact Nat.le_trans hsz (by decide))
  rw [pick_cut]
  obtain ⟨f1, f2⟩ := fresh_size x₃.st (a := s₃.heap.objs.size + 1) (Nat.le_succ _)
  refine ⟨W₃, (x₁.trans (x₂.trans x₃)).trans (.ext x₃.st (fun b o e => Heap.get?_push_of_some _ (Heap.get?_push_of_some _ e)) (Nat.le_refl _)), ?_⟩
  rw [Heap.size_push]
  refine ⟨_, cut (pl.map (·.1)) (pu.map (·.1)) vs, 0, rfl, f2, ?_, ?_, hr.cut _ _⟩
  · cases e : s.heap.get? (s₃.heap.objs.size + 1) with
    | none => rfl
    | some o => have := (x₁.trans (x₂.trans x₃)).keep _ _ e; rw [f1] at this; cases this
  · have := Heap.get?_push_size (s₃.heap.push { cls := .type "slice", data := .fields #[partValue pl, partValue pu, .none] }) (o := lsObj (cut (pl.map (·.1)) (pu.map (·.1)) vs) 0) rfl
    rw [Heap.size_push] at this
    exact this
/-- a list turned round -/
theorem Ev.lrev {value st : Expr} {p : Pos} {ds : List D} (hv : EvA Γ n fm σ value (.l ds)) (hst : EvA Γ n fm σ st (.d (.int (-1)))) (hsz : ds.length ≤ 100000)
    (hs : ∀ l k, subscripted (.Slice none none (some st) p) false (.ref l) (.ref k) = operate [.ref l, .ref k] (getItem (.ref l) (.ref k)) := by intros; rfl) : Ev Γ n fm σ (.Subscript value (.Slice none none (some st) p) pos) (.own ds.reverse) := by
  intro A W s hA R
  refine Subscript_ ((hv A W s hA R).use fun o W₁ s₁ x₁ p₁ => wpAny_Slice ?_)
  rw [evalPart_none, evalPart_some]
  refine wpAny_pure (wpAny_pure ((hst A W₁ s₁ hA (R.ps x₁)).use fun vt W₃ s₃ x₃ p₃ => ?_))
  have p₁' := p₁.ps x₃
  obtain ⟨a, vs, m, rfl, ho, hr⟩ := p₁'
  cases p₃ with
  | int i t =>
  have hl' := (IsList.ls ho).push { cls := .type "slice", data := .fields #[.none, .none, .int (-1) t] }
  refine tail_any (T := "list") hl'.typeIs list_getitem_lookup ?_ (hs _ _)
  refine wpAny_getItem_list_slice hl' (Heap.IsSliceOf.new ..) .none .none (.int (-1) t) (by simp) ?_ (by simp only [List.size_toArray]; rw [hr.length]; exact Nat.le_trans hsz (by decide))
  rw [krv_pick]
  obtain ⟨f1, f2⟩ := fresh_size x₃.st (a := s₃.heap.objs.size + 1) (Nat.le_succ _)
  refine ⟨W₃, (x₁.trans x₃).trans (.ext x₃.st (fun b o e => Heap.get?_push_of_some _ (Heap.get?_push_of_some _ e)) (Nat.le_refl _)), ?_⟩
  rw [Heap.size_push]
  refine ⟨_, vs.reverse, 0, rfl, f2, ?_, ?_, hr.reverse⟩
  · cases e : s.heap.get? (s₃.heap.objs.size + 1) with
    | none => rfl
    | some o => have := (x₁.trans x₃).keep _ _ e; rw [f1] at this; cases this
  · have := Heap.get?_push_size (s₃.heap.push { cls := .type "slice", data := .fields #[.none, .none, .int (-1) t] }) (o := lsObj vs.reverse 0) rfl
    rw [Heap.size_push] at this
    exact this

theorem scut_made {x : List Nat} {t : Tok} (l u : Option (Int × Tok)) : sliceMade (S x) t l u none = if (cut (l.map (·.1)) (u.map (·.1)) x).length = x.length then .val (.str (S x) t) else .str (S (cut (l.map (·.1)) (u.map (·.1)) x)) := by
  unfold sliceMade slicePicked
  have e := idx_cut x (l.map (·.1)) (u.map (·.1))
  have hlen : (Builtin.Str.strSliceIndices (l.map (·.1)) (u.map (·.1)) 1 x.length).length = (cut (l.map (·.1)) (u.map (·.1)) x).length := by
    have e' : Builtin.Str.strSliceIndices (l.map (·.1)) (u.map (·.1)) 1 x.length = sliceRange (sliceBounds (l.map (·.1)) (u.map (·.1)) none x.length).1 (sliceBounds (l.map (·.1)) (u.map (·.1)) none x.length).2.1 1 := by
      cases l <;> cases u <;> rfl
    rw [e', sliceBounds_plain, sliceRange_one, List.length_map, List.length_range]
    unfold cut
    rw [List.length_take, List.length_drop]
    have h1 : ∀ i, clipAt x.length i ≤ x.length := fun i => by unfold clipAt; omega
    have h2 : ((u.map (·.1)).elim x.length (clipAt x.length)) ≤ x.length := by
      cases u with
      | none => exact Nat.le_refl _
      | some q => exact h1 _
    omega
  simp only [Option.map_none, Option.getD_none, S_length, beq_self_eq_true, Bool.true_and, beq_iff_eq]
  rw [hlen]
  by_cases h : (cut (l.map (·.1)) (u.map (·.1)) x).length = x.length
  · rw [if_pos h, if_pos h]
  · rw [if_neg h, if_neg h]
    congr 2
    rw [← e]
theorem cut_whole {α : Type} {lo hi : Option Int} {l : List α} (h : (cut lo hi l).length = l.length) : cut lo hi l = l := by
  unfold cut at h ⊢
  rw [List.length_take, List.length_drop] at h
  rw [List.take_of_length_le (by rw [List.length_drop]; omega)]
  by_cases hl : l = []
  · subst hl; simp
  · have : 0 < l.length := List.length_pos_iff.mpr hl
    have h0 : lo.elim 0 (clipAt l.length) = 0 := by omega
    rw [h0]; rfl

/-- a slice of a text -/
theorem scut_post {s : Shared} {x : List Nat} {t : Tok} {l u : Option (Int × Tok)} {Q : Value → Shared → Prop} (hx : x.length ≤ 100000)
    (h1 : (cut (l.map (·.1)) (u.map (·.1)) x) = x → Q (.str (S x) t) s) (h2 : Q (.str (S (cut (l.map (·.1)) (u.map (·.1)) x)) s.toks) { s with toks := s.toks + 1 }) :
    (sliceMade (S x) t l u none).post Q s := by
  rw [scut_made]
  by_cases h : (cut (l.map (·.1)) (u.map (·.1)) x).length = x.length
  · rw [if_pos h]; exact h1 (cut_whole h)
  · rw [if_neg h]
    refine ⟨?_, h2⟩
    show (S _).length ≤ sizeLine
    rw [S_length]
    exact Nat.le_trans (cut_length _ _ _) (Nat.le_trans hx (by decide))

theorem Ev.scut {value : Expr} {lower upper : Option Expr} {p : Pos} {x : List Nat} {lo hi : Option Int} (hv : EvA Γ n fm σ value (.d (.str x))) (hl : EvP Γ n fm σ lower lo) (hu : EvP Γ n fm σ upper hi) (hsz : x.length ≤ 100000)
    (hs : ∀ l m k, subscripted (.Slice lower upper none p) false (.str l m) (.ref k) = operate [.ref k, .str l m] (getItem (.str l m) (.ref k)) := by intros; rfl) : Ev Γ n fm σ (.Subscript value (.Slice lower upper none p) pos) (.fr (.str (cut lo hi x))) := by
  intro A W s hA R
  refine Subscript_ ((hv A W s hA R).use fun o W₁ s₁ x₁ p₁ => wpAny_Slice ((hl.run hA (R.ps x₁)).use fun vl W₂ s₂ x₂ p₂ => (hu.run hA ((R.ps x₁).ps x₂)).use fun vu W₃ s₃ x₃ p₃ => ?_))
  obtain ⟨pl, rfl, rfl⟩ := p₂
  obtain ⟨pu, rfl, rfl⟩ := p₃
  cases p₁ with
  | str x t ht =>
  rw [evalPart_none]
  refine wpAny_pure ?_
  have st₄ := (PS.ext (tk := s₃.toks) x₃.st (fun b o e => Heap.get?_push_of_some { cls := .type "slice", data := .fields #[partValue pl, partValue pu, .none] } e) (Nat.le_refl _))
  refine tail_any (T := "str") (typeIs_str _ _ _) F.slot_str_getitem.lookup ?_ (hs _ _ _)
  refine wpAny_getItem_str_slice (l := pl) (u := pu) (st := none) ⟨_, Heap.get?_push_size _ rfl, rfl, rfl⟩ rfl ?_
  have hτ : W₃.τ t = some x := x₃.le.τ _ _ (x₂.le.τ _ _ ht)
  have x₄ := x₁.trans (x₂.trans (x₃.trans st₄))
  exact scut_post hsz (fun e => ⟨W₃, x₄, by rw [e]; exact .str _ _ hτ⟩) ⟨_, x₄.trans (.book st₄.st _), .str _ _ (Wd.book_self _ _ _)⟩

/-- methods of texts -/
def find4 (x y : List Nat) (i j : Int) : Int := match Builtin.Str.occurrences (S x) (S y) (fromIndex (S x).length i) (min (fromIndex (S x).length j) (S x).length) 1 with | k :: _ => (k : Int) | [] => -1
open Builtin Builtin.Str in
theorem gives_find4 (x y : Str) (i j : Int) (t u v w : Tok) : Gives («str.find» ⟨[.str x t, .str y u, .int i v, .int j w], []⟩) (.int (match occurrences x y (fromIndex x.length i) (min (fromIndex x.length j) x.length) 1 with | k :: _ => (k : Int) | [] => -1)) := by
  show Gives (match occurrences x y (fromIndex x.length i) (min (fromIndex x.length j) x.length) 1 with | k :: _ => retInt k | [] => (do rule "str.find.not-found"; retInt (-1))) _
  cases occurrences x y (fromIndex x.length i) (min (fromIndex x.length j) x.length) 1 with
  | nil => exact .rule (.of_eq rfl)
  | cons k _ => exact .of_eq rfl
theorem op_find {x y : List Nat} : OpN Γ n (fun vs => call (.builtin "str.find") vs) [.d (.raw x), .d (.raw y)] (.fr (.int (Txt.find (S x) (S y)))) := by
  intro A W s vs hA st p
  obtain ⟨v, u, rfl, p1, p2⟩ := p.two
  cases p1 with | raw x t =>
  cases p2 with | raw y u =>
  show wpAny _ _ (call (.builtin "str.find") [Value.str (S x) t, Value.str (S y) u]) _ _ _
  exact SC.find ⟨W, .tk st (Nat.le_succ _), .int _ _⟩
theorem op_find4 {x y : List Nat} {i j : Int} : OpN Γ n (fun vs => call (.builtin "str.find") vs) [.d (.raw x), .d (.raw y), .d (.int i), .d (.int j)] (.fr (.int (find4 x y i j))) := by
  intro A W s vs hA st p
  cases p with | cons p1 p =>
  cases p with | cons p2 p =>
  cases p with | cons p3 p =>
  cases p with | cons p4 p =>
  cases p
  cases p1 with | raw x t =>
  cases p2 with | raw y u =>
  cases p3 with | int i v =>
  cases p4 with | int j w =>
  show wpAny _ _ (call (.builtin "str.find") [Value.str (S x) t, Value.str (S y) u, Value.int i v, Value.int j w]) _ _ _
  exact call_gives F.slot_str_find (typeIs_str _ _ _) F.entry_str_find (F.args_str_find_4 _ _ _ _) (gives_find4 _ _ i j t u v w) ⟨W, .tk st (Nat.le_succ _), .int _ _⟩
theorem op_endswith {x y : List Nat} : OpN Γ n (fun vs => call (.builtin "str.endswith") vs) [.d (.raw x), .d (.raw y)] (.fr (.bool (Txt.endswith (S x) (S y)))) := by
  intro A W s vs hA st p
  obtain ⟨v, u, rfl, p1, p2⟩ := p.two
  cases p1 with | raw x t =>
  cases p2 with | raw y u =>
  show wpAny _ _ (call (.builtin "str.endswith") [Value.str (S x) t, Value.str (S y) u]) _ _ _
  exact SC.endswith ⟨W, .refl st, .bool _⟩

/-- what a split gives -/
def splitS (x y : List Nat) : List (List Nat) := (Txt.split (S x) (S y)).map (·.cps.toList)
theorem reps_texts {W : Wd} : ∀ (l : List (Str × Tok)), RepL W (strValues l) ((l.map (·.1)).map fun x => D.raw x.cps.toList)
  | [] => .nil
  | (x, t) :: r => .cons (.raw x.cps.toList t) (reps_texts r)
theorem split_len (x y : List Nat) : (Txt.split (S x) (S y)).length ≤ x.length + 2 := by
  unfold Txt.split
  split
  · simp
  · split
    · simp
    · unfold Builtin.Str.partsBetween
      have := StrLaws.occ_length_le (S x) (S y) 0 (S x).length ((S x).length + 1)
      simp only [S_length] at this ⊢
      simp only [List.length_map, List.length_zip, List.length_cons, List.length_append, List.length_nil]
      omega
theorem op_split {x y : List Nat} (hy : y ≠ []) (hx : x.length ≤ 50000) : OpN Γ n (fun vs => call (.builtin "str.split") vs) [.d (.raw x), .d (.raw y)] (.own ((splitS x y).map D.raw)) := by
  intro A W s vs hA st p
  obtain ⟨v, u, rfl, p1, p2⟩ := p.two
  cases p1 with | raw x t =>
  cases p2 with | raw y u =>
  show wpAny _ _ (call (.builtin "str.split") [Value.str (S x) t, Value.str (S y) u]) _ _ _
  have hy' : ((S y).length == 0) = false := by
    rw [S_length]
    cases y with
    | nil => exact absurd rfl hy
    | cons a r => rfl
  obtain ⟨f1, f2⟩ := fresh_size st (a := s.heap.objs.size) (Nat.le_refl _)
  have key : ∀ (l : List (Str × Tok)) (tk : Nat), s.toks ≤ tk → l.map (·.1) = Txt.split (S x) (S y) →
      ∃ W', PS Γ W s W' { s with toks := tk, heap := s.heap.push { cls := .type "list", data := .seq (strValues l).toArray } } ∧ Res W' s { s with toks := tk, heap := s.heap.push { cls := .type "list", data := .seq (strValues l).toArray } } (.ref s.heap.objs.size) (.own ((splitS x y).map D.raw)) := by
    intro l tk htk hl
    refine ⟨W, .ext st (fun b o e => Heap.get?_push_of_some _ e) htk, _, strValues l, 0, rfl, f2, f1, Heap.get?_push_size _ rfl, ?_⟩
    have := reps_texts (W := W) l
    rw [hl] at this
    unfold splitS
    rw [List.map_map]; exact this
  open Builtin Builtin.Str in
  cases h1 : (decide ((S x).length < (S y).length) || decide (strKind (S x) < strKind (S y)))
  · cases hf : (occurrences (S x) (S y) 0 (S x).length ((S x).length + 1)).isEmpty
    · refine call_meets F.slot_str_split (typeIs_str _ _ _) F.entry_str_split (F.args_str_split_2 _ _) (meets_str_split_sep (S x) (S y) t u h1 hy' hf ?_ ?_) ?_
      · rw [S_length]; exact Nat.le_trans hx (by decide)
      · have := split_len x y
        unfold Txt.split at this
        rw [if_neg (ne_true_of_eq_false h1), if_neg (ne_true_of_eq_false hf)] at this
        exact Nat.le_trans this (Nat.le_trans (Nat.add_le_add_right hx 2) (by decide))
      · show ∃ W', _
        rw [strsFrom_eq]
        exact key _ _ (by omega) ((numbered_texts _ _).trans (by unfold Txt.split; rw [if_neg (ne_true_of_eq_false h1), if_neg (ne_true_of_eq_false hf)]))
    · exact call_meets F.slot_str_split (typeIs_str _ _ _) F.entry_str_split (F.args_str_split_2 _ _) (meets_str_split_not_found (S x) (S y) t u h1 hy' hf) (key [(S x, t)] s.toks (Nat.le_refl _) (by unfold Txt.split; rw [if_neg (ne_true_of_eq_false h1), if_pos hf]; rfl))
  · exact call_meets F.slot_str_split (typeIs_str _ _ _) F.entry_str_split (F.args_str_split_2 _ _) (meets_str_split_cannot_occur (S x) (S y) t u h1) (key [(S x, t)] s.toks (Nat.le_refl _) (by unfold Txt.split; rw [if_pos h1]; rfl))
end
end Mine
end
section
namespace Mine

theorem glued_nil (parts : List (List Nat)) : Builtin.Str.glued (S []) (parts.map S) = S parts.flatten := by
  have key : ∀ (r : List (List Nat)) (acc : List Nat), (r.map S).foldl (fun (acc : Array Nat) (p : Str) => acc ++ (S []).cps ++ p.cps) acc.toArray = (acc ++ r.flatten).toArray := by
    intro r
    induction r with
    | nil => intro acc; simp
    | cons a r ih =>
      intro acc
      rw [List.map_cons, List.foldl_cons]
      have e : acc.toArray ++ (S []).cps ++ (S a).cps = (acc ++ a).toArray := by
        show acc.toArray ++ ([] : List Nat).toArray ++ a.toArray = _
        simp
      rw [e, ih, List.flatten_cons, List.append_assoc]
  unfold Builtin.Str.glued
  cases parts with
  | nil => rfl
  | cons a r =>
    show Str.mk (((r.map S)).foldl _ a.toArray) = _
    rw [key r a, List.flatten_cons]
theorem join_room (parts : List (List Nat)) : Array.foldl (fun x1 (x2 : Str) => x1 + x2.length + (S []).length) 0 (parts.map S).toArray = parts.flatten.length := by
  rw [List.foldl_toArray]
  have key : ∀ (r : List (List Nat)) (k : Nat), (r.map S).foldl (fun x1 (x2 : Str) => x1 + x2.length + (S []).length) k = k + r.flatten.length := by
    intro r
    induction r with
    | nil => intro k; simp
    | cons a r ih =>
      intro k
      rw [List.map_cons, List.foldl_cons, ih, S_length, S_length, List.flatten_cons, List.length_append]
      simp only [List.length_nil]
      omega
  rw [key]; omega

section
variable {Γ : Cx} {n : Nat} {fm : Fm} {σ : List (Option Sl)} {pos : Pos}

theorem texts_of {W : Wd} {vs : List Value} {ds : List D} (h : RepL W vs ds) (hd : ∀ d ∈ ds, isTxt d = true) : ∃ l : List (Str × Tok), vs = strValues l ∧ l.map (·.1) = (ds.map txt).map S := by
  induction vs generalizing ds with
  | nil => cases h; exact ⟨[], rfl, rfl⟩
  | cons v vs ih =>
    cases h with
    | cons h r =>
      obtain ⟨t, rfl⟩ := h.txt (hd _ List.mem_cons_self)
      obtain ⟨l, e1, e2⟩ := ih r fun d h => hd d (List.mem_cons_of_mem _ h)
      exact ⟨(_, t) :: l, by rw [e1]; rfl, by rw [List.map_cons, e2]; rfl⟩

/-- the join of texts by nothing; where there are not just one, the text is new -/
theorem op_join {ds : List D} (hd : ∀ d ∈ ds, isTxt d = true) (h1 : ds.length ≠ 1) (hx : (ds.map txt).flatten.length ≤ 100000) : OpN Γ n (fun vs => call (.builtin "str.join") vs) [.d (.raw []), .l ds] (.fr (.str (ds.map txt).flatten)) := by
  intro A W s vs hA st p
  obtain ⟨v, u, rfl, p1, p2⟩ := p.two
  cases p1 with | raw x t =>
  obtain ⟨a, us, m, rfl, ho, hr⟩ := p2
  obtain ⟨l, e1, e2⟩ := texts_of hr hd
  subst e1
  have hl := hr.length
  have hok : Builtin.Str.tooLong (Array.foldl (fun x1 (x2 : Str) => x1 + x2.length + (S []).length) 0 (l.map (·.1)).toArray) = false := by
    rw [e2, join_room]
    unfold Builtin.Str.tooLong
    exact decide_eq_false (Nat.not_lt.mpr (Nat.le_trans hx (by decide)))
  have hj : joinMade (S []) l = .str (S (ds.map txt).flatten) := by
    have : Builtin.Str.glued (S []) (l.map (·.1)) = S (ds.map txt).flatten := by rw [e2, glued_nil]
    cases l with
    | nil => show Made.str _ = _; rw [← this]
    | cons p r => cases r with
      | nil => exact absurd (by rw [← hl]; rfl) h1
      | cons q r => show Made.str _ = _; rw [← this]
  show wpAny _ _ (call (.builtin "str.join") [Value.str (S []) t, Value.ref a]) _ _ _
  refine call_meets F.slot_str_join (typeIs_str _ _ _) F.entry_str_join (F.args_str_join_2 _ _) (meets_str_join_list (S []) t a l hok) ⟨IsList.ls ho, ?_⟩
  rw [hj]
  refine ⟨?_, _, .book st _, .str _ _ (Wd.book_self _ _ _)⟩
  show (S _).length ≤ sizeLine
  rw [S_length]; exact Nat.le_trans hx (by decide)
theorem op_joinr {ds : List D} (hd : ∀ d ∈ ds, isTxt d = true) (hx : (ds.map txt).flatten.length ≤ 100000) : OpN Γ n (fun vs => call (.builtin "str.join") vs) [.d (.raw []), .l ds] (.fr (.raw (ds.map txt).flatten)) := by
  intro A W s vs hA st p
  obtain ⟨v, u, rfl, p1, p2⟩ := p.two
  cases p1 with | raw x t =>
  obtain ⟨a, us, m, rfl, ho, hr⟩ := p2
  obtain ⟨l, e1, e2⟩ := texts_of hr hd
  subst e1
  have hok : JoinOk (S []) (l.map (·.1)) = true := by
    unfold JoinOk
    rw [e2, join_room]
    unfold Builtin.Str.tooLong
    rw [decide_eq_false (Nat.not_lt.mpr (Nat.le_trans hx (by decide)))]; rfl
  show wpAny _ _ (call (.builtin "str.join") [Value.str (S []) t, Value.ref a]) _ _ _
  refine (Pr.any (P := fun v => ∃ t, v = .str (S (ds.map txt).flatten) t) st (SC.join (IsList.ls ho) rfl hok fun t' k => ⟨⟨t', ?_⟩, s.heap, k, rfl, fun _ _ e => e⟩)).mono fun v W' s' _ p => ?_
  · show Value.str (Builtin.Str.glued _ _) _ = _
    rw [e2, glued_nil]
  · obtain ⟨rfl, t, rfl⟩ := p; exact .raw _ _

/-- «i is b or i == b», both booked texts -/
theorem is_booked {A : Around} {W : Wd} {s : Shared} {x y : List Nat} {t u : Tok} {E : Value → Shared → Prop} {Q : Value → Shared → Prop} (st : St Γ W s) (ht : W.τ t = some x) (hu : W.τ u = some y)
    (hq : ∀ b : Bool, (b = true → x = y) → Q (.bool b) s) : wpAny (model Γ.prog Γ.w) A (compareOp .Is (.str (S x) t) (.str (S y) u)) Q E s := by
  have h1 := st.tok t x ht
  have h2 := st.tok u y hu
  show wpAny _ _ (do return Value.bool (← isSame (.str (S x) t) (.str (S y) u))) _ _ _
  refine wpAny_bind ?_
  show wpAny _ A (isSame.created (S x == S y) t u) _ _ s
  unfold isSame.created
  have hb : NoneBooked s.heap := let ⟨mc, a, b⟩ := st.gb.booked; ⟨mc, a.keeps st.keepB, b⟩
  refine wpAny_ite ?_
  rw [if_neg (by simp [h1.1, h2.1])]
  refine wpAny_ite ?_
  split
  · rename_i h
    refine wpAny_pure (wpAny_pure (hq true fun _ => ?_))
    have e : t = u := by simpa using h
    subst e
    rw [ht] at hu; exact Option.some.inj hu
  refine wpAny_ite ?_
  split
  · exact wpAny_pure (wpAny_pure (hq false (fun h => by cases h)))
  rename_i hne
  have hxy : x = y := by
    have : (S x == S y) = true := by
      cases e : (S x == S y) with
      | true => rfl
      | false => rw [e] at hne; exact absurd rfl hne
    rw [S_beq] at this
    exact beq_iff_eq.mp this
  refine wpAny_bind (wpAny_sharingNotTold_none hb ?_)
  first | rw [if_neg Bool.false_ne_true] | simp only [Bool.false_eq_true, if_false]
  refine wpAny_bind (wpAny_sharingNotTold_none hb ?_)
  first | rw [if_neg Bool.false_ne_true] | simp only [Bool.false_eq_true, if_false]
  exact wpAny_bind (wpAny_rule (wpAny_bind (wpAny_askSetting (wpAny_pure (wpAny_pure (hq _ fun _ => hxy))))))

/-- «a is b or a == b» over booked texts -/
theorem Tr.isOrEq {a b c d : Expr} {x y : List Nat} {p1 p2 : Pos} (ha : Ev Γ n fm σ a (.fr (.str x))) (hb : Ev Γ n fm σ b (.fr (.str y))) (hc : Ev Γ n fm σ c (.fr (.str x))) (hd : Ev Γ n fm σ d (.fr (.str y)))
    (hm : behindInMarks .Is b = false := by rfl) (hm' : behindInMarks .Eq d = false := by rfl) : Tr Γ n fm σ (.BoolOp .Or [.Compare a [.Is] [b] p1, .Compare c [.Eq] [d] p2] pos) (x == y) := by
  intro A W s hA R
  refine wpAny_isTrue_BoolOp ?_
  refine wpAny_allTrue_Or_cons (wpAny_isTrue_Compare1 ((ha A W s hA R).use fun v W₁ s₁ x₁ p₁ => (hb A W₁ s₁ hA (R.ps x₁)).use fun u W₂ s₂ x₂ p₂ => ?_) hm)
  cases p₁ with | str x t ht =>
  cases p₂ with | str y u hu =>
  refine is_booked x₂.st (x₂.le.τ _ _ ht) hu fun r hr => wpAny_truthy_bool ?_
  cases r with
  | true =>
    have e := hr rfl
    subst e
    exact ⟨W₂, x₁.trans x₂, by simp⟩
  | false =>
    have x₀ := x₁.trans x₂
    have R₂ := R.ps x₀
    refine wpAny_allTrue_Or_cons ((Tr.cmp (EvA.raw (EvA.d hc)) (EvA.raw (EvA.d hd)) op_seq hm' A W₂ s₂ hA R₂).use fun r W₃ s₃ x₃ p₃ => ?_)
    subst p₃
    have x₄ := x₀.trans x₃
    cases h : (x == y) with
    | true => exact ⟨W₃, x₄, rfl⟩
    | false => exact wpAny_allTrue_Or_nil ⟨W₃, x₄, rfl⟩

theorem Ev.neg {e : Expr} {i : Int} (h : EvA Γ n fm σ e (.d (.int i))) : Ev Γ n fm σ (.UnaryOp .USub e pos) (.fr (.int (-i))) := by
  intro A W s hA R
  refine wpAny_UnaryOp ((h A W s hA R).use fun v W₁ s₁ x₁ p₁ => ?_)
  cases p₁
  exact PyProof.Rows.neg_int ⟨W₁, x₁.trans (.tk x₁.st (Nat.le_succ _)), .int _ _⟩
end
end Mine
end
section
namespace Mine

/-- the addresses that the frame may write -/
def Mut (fm : Fm) (σ : List (Option Sl)) (h : Heap) (a : Addr) : Prop :=
  a = fm.env.locals ∨ (∃ x, fm.env.cells.lookup x = some a) ∨ ∃ (i : Nat) (x : Str) (ds : List D), fm.ns[i]? = some x ∧ σ[i]? = some (some (.own ds)) ∧ VarAt fm.env h x (.ref a)

structure Sat (Γ : Cx) (gh : Gh) (fm : Fm) (σ : List (Option Sl)) (W : Wd) (s : Shared) : Prop where
  rd : Rd Γ fm σ W s
  pf : PF gh W s
  mutF : ∀ a, Mut fm σ s.heap a → gh.F a = none
  mutG : ∀ a, Mut fm σ s.heap a → W.G a = none
  ns : ∃ m, s.heap.Ns fm.env.locals m
  cells : ∀ x c, fm.env.cells.lookup x = some c → ∃ v, s.heap.IsCell c v
  cinj : ∀ x y c, fm.env.cells.lookup x = some c → fm.env.cells.lookup y = some c → x = y
  kinds : ∀ (i : Nat) (x : Str), fm.ns[i]? = some x → fm.env.kindOf x = some .local ∨ (fm.env.kindOf x = some .cell ∧ ∃ c, fm.env.cells.lookup x = some c)
  apart : ∀ (i j : Nat) (x y : Str) (dx dy : List D) (a : Addr), i ≠ j → fm.ns[i]? = some x → fm.ns[j]? = some y → σ[i]? = some (some (.own dx)) → σ[j]? = some (some (.own dy)) → VarAt fm.env s.heap x (.ref a) → VarAt fm.env s.heap y (.ref a) → False
  pin : ∀ (b : Addr × (List D → Prop)) (x : Str) (ds : List D), fm.pin = some b → fm.ns[0]? = some x → σ[0]? = some (some (.own ds)) → VarAt fm.env s.heap x (.ref b.1)

theorem ns_fun {h : Heap} {a : Addr} {m m' : Str → Option Value} (x : h.Ns a m) (y : h.Ns a m') : m = m' := by
  obtain ⟨o, es, ep, e1, e2, _, e3⟩ := x
  obtain ⟨o', es', ep', f1, f2, _, f3⟩ := y
  rw [e1] at f1; cases f1
  rw [e2] at f2; cases f2
  funext z; rw [← e3, ← f3]
theorem cell_fun {h : Heap} {a : Addr} {v v' : Option Value} (x : h.IsCell a v) (y : h.IsCell a v') : v = v' := by
  obtain ⟨o, e1, e2⟩ := x
  obtain ⟨o', f1, f2⟩ := y
  rw [e1] at f1; cases f1
  rw [e2] at f2; cases f2; rfl
theorem VarAt.inj {env : Env} {h : Heap} {x : Str} {v u : Value} (a : VarAt env h x v) (b : VarAt env h x u) : v = u := by
  rcases a with ⟨k, m, n, e⟩ | ⟨k, c, l, e⟩ <;> rcases b with ⟨k', m', n', e'⟩ | ⟨k', c', l', e'⟩
  · rw [ns_fun n n'] at e; rw [e] at e'; exact Option.some.inj e'
  · rw [k] at k'; cases k'
  · rw [k] at k'; cases k'
  · rw [l] at l'; cases l'; exact Option.some.inj (cell_fun e e')
theorem ns_not_ls {h : Heap} {a : Addr} {m : Str → Option Value} {vs : List Value} {n : Nat} (x : h.Ns a m) (e : h.get? a = some (lsObj vs n)) : False := by
  obtain ⟨o, es, ep, e1, e2, _, _⟩ := x
  rw [e] at e1; cases e1; cases e2
theorem cell_not_ls {h : Heap} {a : Addr} {v : Option Value} {vs : List Value} {n : Nat} (x : h.IsCell a v) (e : h.get? a = some (lsObj vs n)) : False := by
  obtain ⟨o, e1, e2⟩ := x
  rw [e] at e1; cases e1; cases e2
theorem cell_not_ns {h : Heap} {a : Addr} {v : Option Value} {m : Str → Option Value} (x : h.IsCell a v) (y : h.Ns a m) : False := by
  obtain ⟨o, e1, e2⟩ := x
  obtain ⟨o', es, ep, f1, f2, _, _⟩ := y
  rw [e1] at f1; cases f1; rw [e2] at f2; cases f2

section
variable {Γ : Cx} {gh : Gh} {fm : Fm} {σ : List (Option Sl)} {W W' : Wd} {s s' : Shared}

/-- a heap that differs at one written place of the frame -/
theorem St.but {a : Addr} {h' : Heap} {tk : Nat} (st : St Γ W s) (hG : W.G a = none) (hs : Heap.SameBut a s.heap h') (ht : s.toks ≤ tk) : St Γ W { s with heap := h', toks := tk } where
  gb := st.gb
  base := st.base
  sub := fun b o e => (hs.2 b (by rintro rfl; rw [hG] at e; cases e)).trans (st.sub b o e)
  tok := fun t x e => ⟨(st.tok t x e).1, Nat.lt_of_lt_of_le (st.tok t x e).2 ht⟩
  pos := Nat.le_trans st.pos ht
theorem PF.but {a : Addr} {h' : Heap} {tk : Nat} (pf : PF gh W s) (hF : gh.F a = none) (hs : Heap.SameBut a s.heap h') (ht : s.toks ≤ tk) : PF gh W { s with heap := h', toks := tk } where
  keep := fun b o e => (hs.2 b (by rintro rfl; rw [hF] at e; cases e)).trans (pf.keep b o e)
  le := pf.le
  sep := pf.sep
  toks := Nat.le_trans pf.toks ht
  rest := by have := pf.rest; rw [this]

theorem PF.ps (pf : PF gh W s) (x : PS Γ W s W' s') : PF gh W' s' where
  keep := fun b o e => x.keep b o (pf.keep b o e)
  le := pf.le.trans x.le
  sep := fun a o e => by
    rcases x.pf.sep a o e with h | h
    · exact pf.sep a o h
    · refine .inr ?_
      cases e' : gh.F a with
      | none => rfl
      | some o' =>
        have h' : s.heap.get? a = none := h
        rw [pf.keep a o' e'] at h'; cases h'
  toks := Nat.le_trans pf.toks x.pf.toks
  rest := by
    have h1 := pf.rest
    have h2 : s' = { s with heap := s'.heap, toks := s'.toks } := x.pf.rest
    rw [h2, h1]

/-- the names hold what they held -/
theorem VarAt.back {env : Env} {h h' : Heap} {x : Str} {v u : Value} (k : ∀ b o, h.get? b = some o → h'.get? b = some o) (a : VarAt env h x u) (b : VarAt env h' x v) : v = u := (b.inj (a.keeps k))

theorem Sat.mutAlive (h : Sat Γ gh fm σ W s) {a : Addr} (m : Mut fm σ s.heap a) : ∃ o, s.heap.get? a = some o := by
  rcases m with rfl | ⟨x, hx⟩ | ⟨i, x, ds, h1, h2, h3⟩
  · obtain ⟨m, o, _, _, e, _⟩ := h.ns; exact ⟨o, e⟩
  · obtain ⟨v, o, e, _⟩ := h.cells x a hx; exact ⟨o, e⟩
  · obtain ⟨v, hv, b, vs, n, rfl, _, ho, _⟩ := h.rd.vars i x _ h1 h2
    have e := hv.inj h3
    cases e
    exact ⟨_, ho⟩

theorem Sat.ps (h : Sat Γ gh fm σ W s) (x : PS Γ W s W' s') : Sat Γ gh fm σ W' s' := by
  have hm : ∀ a, Mut fm σ s'.heap a → Mut fm σ s.heap a := by
    intro a m
    rcases m with e | e | ⟨i, y, ds, h1, h2, h3⟩
    · exact .inl e
    · exact .inr (.inl e)
    · obtain ⟨v, hv, b, vs, n, rfl, _, ho, _⟩ := h.rd.vars i y _ h1 h2
      have e := VarAt.back x.keep hv h3
      cases e
      exact .inr (.inr ⟨i, y, ds, h1, h2, hv⟩)
  refine ⟨h.rd.ps x, h.pf.ps x, fun a m => h.mutF a (hm a m), fun a m => ?_, ?_, fun y c e => ?_, h.cinj, h.kinds, fun i j y z dx dy a hij h1 h2 h3 h4 h5 h6 => ?_, fun b x' ds p1 p2 p3 => (h.pin b x' ds p1 p2 p3).keeps x.keep⟩
  · obtain ⟨o, ho⟩ := h.mutAlive (hm a m)
    exact x.fresh ho (h.mutG a (hm a m))
  · obtain ⟨m, hn⟩ := h.ns; exact ⟨m, hn.keeps x.keep⟩
  · obtain ⟨v, hv⟩ := h.cells y c e; exact ⟨v, hv.keeps x.keep⟩
  · obtain ⟨v, hv, b, vs, n, rfl, _⟩ := h.rd.vars i y _ h1 h3
    obtain ⟨u, hu, b', vs', n', rfl, _⟩ := h.rd.vars j z _ h2 h4
    have e1 := VarAt.back x.keep hv h5
    have e2 := VarAt.back x.keep hu h6
    cases e1; cases e2
    exact h.apart i j y z dx dy _ hij h1 h2 h3 h4 hv hu
end

inductive Out where
  | next (σ : List (Option Sl))
  | ret (sl : Sl)
  | brk (σ : List (Option Sl))
  | cont (σ : List (Option Sl))

/-- a value handed back -/
def ResF (gh : Gh) (W : Wd) (s : Shared) (v : Value) : Sl → Prop
  | .fr d => Rep W v d
  | .own ds => ∃ a vs n, v = .ref a ∧ W.G a = none ∧ gh.F a = none ∧ s.heap.get? a = some (lsObj vs n) ∧ RepL W vs ds
def Pinned (fm : Fm) (W : Wd) (s : Shared) : Prop := ∀ b P, fm.pin = some (b, P) → ∃ ds vs m, P ds ∧ W.G b = none ∧ s.heap.get? b = some (lsObj vs m) ∧ RepL W vs ds
def Post (Γ : Cx) (gh : Gh) (fm : Fm) (W : Wd) (s : Shared) (fl : Flow) : Out → Prop
  | .next σ => fl = .next ∧ Sat Γ gh fm σ W s
  | .brk σ => fl = .brk ∧ Sat Γ gh fm σ W s
  | .cont σ => fl = .cont ∧ Sat Γ gh fm σ W s
  | .ret sl => ∃ v, fl = .ret v ∧ PF gh W s ∧ St Γ W s ∧ ResF gh W s v sl ∧ Pinned fm W s

def Ex (Γ : Cx) (n : Nat) (fm : Fm) (σ : List (Option Sl)) (ss : List Stmt) (Φ : Out → Prop) : Prop :=
  ∀ A gh W s, AOk n A → Sat Γ gh fm σ W s → wpAny (model Γ.prog Γ.w) A (execs ss fm.env) (fun fl s' => ∃ W' o, Φ o ∧ Post Γ gh fm W' s' fl o) (fun _ _ => False) s
def Ex1 (Γ : Cx) (n : Nat) (fm : Fm) (σ : List (Option Sl)) (st : Stmt) (Φ : Out → Prop) : Prop :=
  ∀ A gh W s, AOk n A → Sat Γ gh fm σ W s → wpAny (model Γ.prog Γ.w) A (exec st fm.env) (fun fl s' => ∃ W' o, Φ o ∧ Post Γ gh fm W' s' fl o) (fun _ _ => False) s

/-- a name set -/
inductive Up : List Str → List (Option Sl) → Str → Sl → List (Option Sl) → Prop
  | here {x : Str} {ns : List Str} {o : Option Sl} {σ : List (Option Sl)} {sl : Sl} : Up (x :: ns) (o :: σ) x sl (some sl :: σ)
  | there {x y : Str} {ns : List Str} {o : Option Sl} {σ σ' : List (Option Sl)} {sl : Sl} : Up ns σ x sl σ' → Up (y :: ns) (o :: σ) x sl (o :: σ')
theorem Up.at {ns : List Str} {σ σ' : List (Option Sl)} {x : Str} {sl : Sl} (h : Up ns σ x sl σ') : ∃ i : Nat, ns[i]? = some x ∧ σ'[i]? = some (some sl) ∧ ∀ j : Nat, j ≠ i → σ'[j]? = σ[j]? := by
  induction h with
  | here =>
    refine ⟨0, rfl, rfl, fun j hj => ?_⟩
    cases j with
    | zero => exact absurd rfl hj
    | succ j => rfl
  | there _ ih =>
    obtain ⟨i, a, b, c⟩ := ih
    refine ⟨i + 1, a, b, fun j hj => ?_⟩
    cases j with
    | zero => rfl
    | succ j => exact c j (fun e => hj (by rw [e]))

section
variable {Γ : Cx} {gh : Gh} {fm : Fm} {σ σ' : List (Option Sl)} {W : Wd} {s : Shared}

theorem nodup_at : ∀ {l : List Str} {i j : Nat} {x : Str}, l.Nodup → l[i]? = some x → l[j]? = some x → i = j
  | [], i, j, x, _, h, _ => by simp at h
  | a :: l, 0, 0, x, _, _, _ => rfl
  | a :: l, 0, j + 1, x, hn, h1, h2 => by
    have e : a = x := by simpa using h1
    subst e
    exact absurd (List.mem_of_getElem? (by simpa using h2)) (List.nodup_cons.mp hn).1
  | a :: l, i + 1, 0, x, hn, h1, h2 => by
    have e : a = x := by simpa using h2
    subst e
    exact absurd (List.mem_of_getElem? (by simpa using h1)) (List.nodup_cons.mp hn).1
  | a :: l, i + 1, j + 1, x, hn, h1, h2 => congrArg (· + 1) (nodup_at (List.nodup_cons.mp hn).2 (by simpa using h1) (by simpa using h2))
theorem ns_at {fm : Fm} (ok : FmOk fm) {i j : Nat} {x : Str} (h1 : fm.ns[i]? = some x) (h2 : fm.ns[j]? = some x) : i = j := nodup_at ok.nd h1 h2

/-- a heap that differs at the place where the name x is kept; there v stands -/
theorem Sat.stored {i : Nat} {x : Str} {sl : Sl} {v : Value} {c : Addr} {h' : Heap} {tk : Nat} (h : Sat Γ gh fm σ W s) (h1 : fm.ns[i]? = some x) (h2 : σ'[i]? = some (some sl)) (h3 : ∀ j : Nat, j ≠ i → σ'[j]? = σ[j]?)
    (hc : Mut fm σ s.heap c) (hpin : fm.pin = none ∨ i ≠ 0) (hcL : ∀ vs n, s.heap.get? c ≠ some (lsObj vs n)) (hs : Heap.SameBut c s.heap h') (ht : s.toks ≤ tk)
    (hx : VarAt fm.env h' x v) (hy : ∀ y u, y ≠ x → VarAt fm.env s.heap y u → VarAt fm.env h' y u) (hy' : ∀ y u, y ≠ x → VarAt fm.env h' y u → VarAt fm.env s.heap y u)
    (hns : ∃ m, h'.Ns fm.env.locals m) (hcs : ∀ y d, fm.env.cells.lookup y = some d → ∃ u, h'.IsCell d u)
    (hv : SlR W s.heap v sl) (hown : ∀ ds a, sl = .own ds → v = .ref a → gh.F a = none ∧ ∀ j y es, j ≠ i → fm.ns[j]? = some y → σ[j]? = some (some (.own es)) → ¬ VarAt fm.env s.heap y (.ref a)) :
    Sat Γ gh fm σ' W { s with heap := h', toks := tk } := by
  have hne : ∀ j (y : Str), j ≠ i → fm.ns[j]? = some y → y ≠ x := fun j y hj e e' => hj (ns_at h.rd.ok e (e' ▸ h1))
  have lsAt : ∀ a vs n, s.heap.get? a = some (lsObj vs n) → h'.get? a = some (lsObj vs n) := fun a vs n e => (hs.2 a (by rintro rfl; exact hcL _ _ e)).trans e
  have slAt : ∀ u q, SlR W s.heap u q → SlR W h' u q := by
    intro u q hq
    cases q with
    | fr d => exact hq
    | own ds => obtain ⟨a, vs, n, e1, e2, e3, e4⟩ := hq; exact ⟨a, vs, n, e1, e2, lsAt a vs n e3, e4⟩
  have mut' : ∀ a, Mut fm σ' h' a → Mut fm σ s.heap a ∨ ∃ ds, sl = .own ds ∧ v = .ref a := by
    intro a m
    rcases m with e | e | ⟨j, y, ds, e1, e2, e3⟩
    · exact .inl (.inl e)
    · exact .inl (.inr (.inl e))
    · by_cases hj : j = i
      · subst hj
        rw [h1] at e1; cases e1
        rw [h2] at e2; cases e2
        exact .inr ⟨ds, rfl, hx.inj e3⟩
      · rw [h3 j hj] at e2
        exact .inl (.inr (.inr ⟨j, y, ds, e1, e2, hy' y _ (hne j y hj e1) e3⟩))
  refine ⟨⟨h.rd.st.but (h.mutG c hc) hs ht, h.rd.ok, fun j y q e1 e2 => ?_⟩, h.pf.but (h.mutF c hc) hs ht, fun a m => ?_, fun a m => ?_, hns, hcs, h.cinj, h.kinds, fun j k y z dy dz a hjk e1 e2 e3 e4 e5 e6 => ?_, fun b y ds p1 p2 p3 => ?_⟩
  · by_cases hj : j = i
    · subst hj
      rw [h1] at e1; cases e1
      rw [h2] at e2; cases e2
      exact ⟨v, hx, slAt _ _ hv⟩
    · rw [h3 j hj] at e2
      obtain ⟨u, f1, f2⟩ := h.rd.vars j y q e1 e2
      exact ⟨u, hy y u (hne j y hj e1) f1, slAt _ _ f2⟩
  · rcases mut' a m with m | ⟨ds, e1, e2⟩
    · exact h.mutF a m
    · exact (hown ds a e1 e2).1
  · rcases mut' a m with m | ⟨ds, e1, e2⟩
    · exact h.mutG a m
    · subst e1
      obtain ⟨b, vs, n, f1, f2, _⟩ := hv
      rw [e2] at f1; cases f1; exact f2
  · by_cases hj : j = i
    · subst hj
      rw [h1] at e1; cases e1
      rw [h2] at e3; cases e3
      have hk : k ≠ j := fun e => hjk e.symm
      rw [h3 k hk] at e4
      have := hx.inj e5
      exact (hown dy a rfl this).2 k z dz hk e2 e4 (hy' z _ (hne k z hk e2) e6)
    · by_cases hk : k = i
      · subst hk
        rw [h1] at e2; cases e2
        rw [h2] at e4; cases e4
        rw [h3 j hj] at e3
        have := hx.inj e6
        exact (hown dz a rfl this).2 j y dy hj e1 e3 (hy' y _ (hne j y hj e1) e5)
      · rw [h3 j hj] at e3
        rw [h3 k hk] at e4
        exact h.apart j k y z dy dz a hjk e1 e2 e3 e4 (hy' y _ (hne j y hj e1) e5) (hy' z _ (hne k z hk e2) e6)
  · have hi0 : (0 : Nat) ≠ i := by
      rcases hpin with h | h
      · rw [p1] at h; cases h
      · exact fun e => h e.symm
    rw [h3 0 hi0] at p3
    exact hy y _ (hne 0 y hi0 p2) (h.pin b y ds p1 p2 p3)

/-- a name is stored -/
theorem Sat.store {A : Around} {x : Str} {sl : Sl} {v : Value} {E : Value → Shared → Prop} {Q : Unit → Shared → Prop} (h : Sat Γ gh fm σ W s) (up : Up fm.ns σ x sl σ') (hv : SlR W s.heap v sl)
    (hpin : fm.pin = none ∨ fm.ns.head? ≠ some x) (hown : ∀ ds a, sl = .own ds → v = .ref a → gh.F a = none ∧ ¬ Mut fm σ s.heap a) (hq : ∀ s', Sat Γ gh fm σ' W s' → Q () s') : wpAny (model Γ.prog Γ.w) A (storeName fm.env x v) Q E s := by
  obtain ⟨i, h1, h2, h3⟩ := up.at
  have hk : fm.env.scope.kind = .function := h.rd.kindF
  have hown' : ∀ ds a, sl = .own ds → v = .ref a → gh.F a = none ∧ ∀ j y es, j ≠ i → fm.ns[j]? = some y → σ[j]? = some (some (.own es)) → ¬ VarAt fm.env s.heap y (.ref a) := fun ds a e1 e2 =>
    ⟨(hown ds a e1 e2).1, fun j y es _ f1 f2 f3 => (hown ds a e1 e2).2 (.inr (.inr ⟨j, y, es, f1, f2, f3⟩))⟩
  have hpin' : fm.pin = none ∨ i ≠ 0 := by
    rcases hpin with h | h
    · exact .inl h
    · refine .inr ?_
      rintro rfl
      exact h (by rw [List.head?_eq_getElem?]; exact h1)
  obtain ⟨m, hn⟩ := h.ns
  rcases h.kinds i x h1 with hl | ⟨hl, c, hc⟩
  · refine wpAny_storeName_local hl hn (fun h' hn' hs => hq _ (h.stored (c := fm.env.locals) h1 h2 h3 (.inl rfl) hpin' (fun vs n e => ns_not_ls hn e) hs (Nat.le_succ _) (.inl ⟨hl, _, hn', by simp⟩) ?_ ?_ ⟨_, hn'⟩ ?_ hv hown')) (by rw [hk]; rfl)
    · rintro y u hyx (⟨k, m', n', e⟩ | ⟨k, d, l, e⟩)
      · have := ns_fun hn n'
        subst this
        exact .inl ⟨k, _, hn', by simp only [if_neg hyx]; exact e⟩
      · exact .inr ⟨k, d, l, e.sameBut hs (by rintro rfl; exact cell_not_ns e hn)⟩
    · rintro y u hyx (⟨k, m', n', e⟩ | ⟨k, d, l, e⟩)
      · have := ns_fun hn' n'
        subst this
        simp only [if_neg hyx] at e
        exact .inl ⟨k, m, hn, e⟩
      · obtain ⟨w, hw⟩ := h.cells y d l
        have := cell_fun e (hw.sameBut hs (by rintro rfl; exact cell_not_ns hw hn))
        subst this
        exact .inr ⟨k, d, l, hw⟩
    · intro y d l
      obtain ⟨w, hw⟩ := h.cells y d l
      exact ⟨w, hw.sameBut hs (by rintro rfl; exact cell_not_ns hw hn)⟩
  · obtain ⟨w, hw⟩ := h.cells x c hc
    have hLc : fm.env.locals ≠ c := by rintro e; exact cell_not_ns hw (e ▸ hn)
    refine wpAny_storeName_cell hk hl hc hw (fun h' hc' hs => hq _ (h.stored (c := c) h1 h2 h3 (.inr (.inl ⟨x, hc⟩)) hpin' (fun vs n e => cell_not_ls hw e) hs (Nat.le_refl _) (.inr ⟨hl, c, hc, hc'⟩) ?_ ?_ ⟨m, hn.sameBut hs hLc⟩ ?_ hv hown'))
    · rintro y u hyx (⟨k, m', n', e⟩ | ⟨k, d, l, e⟩)
      · exact .inl ⟨k, _, n'.sameBut hs hLc, e⟩
      · exact .inr ⟨k, d, l, e.sameBut hs (by rintro rfl; exact hyx (h.cinj _ _ _ l hc))⟩
    · rintro y u hyx (⟨k, m', n', e⟩ | ⟨k, d, l, e⟩)
      · have := ns_fun n' (hn.sameBut hs hLc)
        subst this
        exact .inl ⟨k, _, hn, e⟩
      · obtain ⟨w', hw'⟩ := h.cells y d l
        have := cell_fun e (hw'.sameBut hs (by rintro rfl; exact hyx (h.cinj _ _ _ l hc)))
        subst this
        exact .inr ⟨k, d, l, hw'⟩
    · intro y d l
      by_cases hd : d = c
      · subst hd; exact ⟨_, hc'⟩
      · obtain ⟨w', hw'⟩ := h.cells y d l
        exact ⟨w', hw'.sameBut hs hd⟩
end
end Mine
end
section
namespace Mine

section
variable {Γ : Cx} {n : Nat} {fm : Fm} {σ σ' σ'' : List (Option Sl)} {pos : Pos} {Φ : Out → Prop}

theorem Ex.nil (h : Φ (.next σ)) : Ex Γ n fm σ [] Φ := fun A gh W s _ R => wpAny_execs_nil ⟨W, _, h, rfl, R⟩
theorem Ex.cons {st : Stmt} {rest : List Stmt} {Ψ : Out → Prop} (h : Ex1 Γ n fm σ st Ψ) (k : ∀ σ', Ψ (.next σ') → Ex Γ n fm σ' rest Φ) (kr : ∀ sl, Ψ (.ret sl) → Φ (.ret sl)) (kb : ∀ σ', Ψ (.brk σ') → Φ (.brk σ')) (kc : ∀ σ', Ψ (.cont σ') → Φ (.cont σ')) :
    Ex Γ n fm σ (st :: rest) Φ := by
  intro A gh W s hA R
  refine wpAny_execs_cons (wpAny_mono (h A gh W s hA R) (fun fl s' x => ?_) fun _ _ f => f)
  obtain ⟨W', o, ho, p⟩ := x
  cases o with
  | next σ' => obtain ⟨rfl, R'⟩ := p; exact k σ' ho A gh W' s' hA R'
  | ret sl => obtain ⟨v, rfl, r⟩ := p; exact ⟨W', .ret sl, kr sl ho, v, rfl, r⟩
  | brk σ' => obtain ⟨rfl, R'⟩ := p; exact ⟨W', .brk σ', kb σ' ho, rfl, R'⟩
  | cont σ' => obtain ⟨rfl, R'⟩ := p; exact ⟨W', .cont σ', kc σ' ho, rfl, R'⟩
/-- the statement goes on in one way -/
theorem Ex.seq {st : Stmt} {rest : List Stmt} (h : Ex1 Γ n fm σ st (fun o => o = .next σ')) (k : Ex Γ n fm σ' rest Φ) : Ex Γ n fm σ (st :: rest) Φ :=
  Ex.cons h (fun τ e => by cases e; exact k) (fun _ e => by cases e) (fun _ e => by cases e) (fun _ e => by cases e)
theorem Ex.mono {ss : List Stmt} {Ψ : Out → Prop} (h : Ex Γ n fm σ ss Ψ) (k : ∀ o, Ψ o → Φ o) : Ex Γ n fm σ ss Φ := fun A gh W s hA R =>
  wpAny_mono (h A gh W s hA R) (fun fl s' ⟨W', o, ho, p⟩ => ⟨W', o, k o ho, p⟩) fun _ _ f => f
theorem Ex1.mono {st : Stmt} {Ψ : Out → Prop} (h : Ex1 Γ n fm σ st Ψ) (k : ∀ o, Ψ o → Φ o) : Ex1 Γ n fm σ st Φ := fun A gh W s hA R =>
  wpAny_mono (h A gh W s hA R) (fun fl s' ⟨W', o, ho, p⟩ => ⟨W', o, k o ho, p⟩) fun _ _ f => f
theorem Ex.last {st : Stmt} (h : Ex1 Γ n fm σ st Φ) : Ex Γ n fm σ [st] Φ := Ex.cons h (fun _ e => Ex.nil e) (fun _ e => e) (fun _ e => e) (fun _ e => e)

theorem Sat.resF {gh : Gh} {W W' : Wd} {s s' : Shared} {v : Value} {sl : Sl} (R : Sat Γ gh fm σ W s) (x : PS Γ W s W' s') (p : Res W' s s' v sl) : ResF gh W' s' v sl := by
  cases sl with
  | fr d => exact p
  | own ds =>
    obtain ⟨a, vs, m, rfl, h1, h2, h3, h4⟩ := p
    refine ⟨a, vs, m, rfl, h1, ?_, h3, h4⟩
    cases e : gh.F a with
    | none => rfl
    | some o => rw [R.pf.keep a o e] at h2; cases h2
/-- a fresh list is no place of the frame -/
theorem Sat.fresh {gh : Gh} {W W' : Wd} {s s' : Shared} {v : Value} {sl : Sl} (R : Sat Γ gh fm σ W s) (x : PS Γ W s W' s') (p : Res W' s s' v sl) : SlR W' s'.heap v sl ∧ ∀ ds a, sl = .own ds → v = .ref a → gh.F a = none ∧ ¬ Mut fm σ s'.heap a := by
  have q := R.resF x p
  cases sl with
  | fr d => exact ⟨p, fun ds a e => by cases e⟩
  | own ds =>
    obtain ⟨a, vs, m, rfl, h1, h2, h3, h4⟩ := p
    obtain ⟨_, _, _, e, _, q, _⟩ := q
    cases e
    refine ⟨⟨a, vs, m, rfl, h1, h3, h4⟩, fun _ b _ e => ?_⟩
    cases e
    refine ⟨q, fun hm => ?_⟩
    rcases hm with e | ⟨y, e⟩ | ⟨i, y, ds', e1, e2, e3⟩
    · obtain ⟨mm, o, _, _, e', _⟩ := R.ns
      rw [← e, h2] at e'; cases e'
    · obtain ⟨u, o, e', _⟩ := R.cells y a e
      rw [h2] at e'; cases e'
    · obtain ⟨u, hu, b, vs', m', rfl, _, ho, _⟩ := R.rd.vars i y _ e1 e2
      have e := VarAt.back x.keep hu e3
      cases e
      rw [h2] at ho; cases ho

theorem Sat.pinned {gh : Gh} {W : Wd} {s : Shared} (R : Sat Γ gh fm σ W s) (hpn : ∀ b P, fm.pin = some (b, P) → ∃ x ds, fm.ns[0]? = some x ∧ σ[0]? = some (some (.own ds)) ∧ P ds) : Pinned fm W s := fun b P e => by
  obtain ⟨x, ds, hx, h1, h2⟩ := hpn b P e
  · have h3 := R.pin _ x ds e hx h1
    obtain ⟨v, h4, a, vs, m, rfl, g1, g2, g3⟩ := R.rd.vars 0 x _ hx h1
    have := h4.inj h3
    cases this
    exact ⟨ds, vs, m, h2, g1, g2, g3⟩
theorem Ex1.assign {x : Str} {p : Pos} {e : Expr} {sl : Sl} (h : Ev Γ n fm σ e sl) (up : Up fm.ns σ x sl σ') (hw : ∀ env, env.scope = fm.sc → swapsWith e (some (.Name x p)) pos.line env = pure false := by intros; rfl) (hp : fm.pin = none ∨ fm.ns.head? ≠ some x := by first | exact .inl rfl | exact .inr (by decide)) : Ex1 Γ n fm σ (.Assign [.Name x p] e pos) (fun o => o = .next σ') := by
  intro A gh W s hA R
  refine wpAny_Assign_Name ((h A W s hA R.rd).use fun v W₁ s₁ x₁ p₁ => ?_) (hw _ R.rd.ok.sc)
  obtain ⟨f1, f2⟩ := R.fresh x₁ p₁
  exact (R.ps x₁).store up f1 hp f2 fun s' R' => ⟨W₁, _, rfl, rfl, R'⟩
theorem Ex1.aug {x : Str} {p : Pos} {e : Expr} {op : Operator} {a : Ar} {d : D} {sl : Sl} (k : Lk fm.ns σ x (.fr d)) (h : EvA Γ n fm σ e a) (ho : Op2 Γ n (inplaceOp op) (.d d) a sl) (up : Up fm.ns σ x sl σ') (hp : fm.pin = none ∨ fm.ns.head? ≠ some x := by first | exact .inl rfl | exact .inr (by decide)) : Ex1 Γ n fm σ (.AugAssign (.Name x p) op e pos) (fun o => o = .next σ') := by
  intro A gh W s hA R
  obtain ⟨v, h1, h2⟩ := R.rd.lk k
  refine wpAny_AugAssign_Name (load_var R.rd.kindF h1 ((h A W s hA R.rd).use fun u W₁ s₁ x₁ p₁ => ?_))
  refine (ho A W₁ s₁ v u hA x₁.st (Rep.mono x₁.le h2) p₁).use fun r W₂ s₂ x₂ p₂ => ?_
  obtain ⟨f1, f2⟩ := (R.ps x₁).fresh x₂ p₂
  exact ((R.ps x₁).ps x₂).store up f1 hp f2 fun s' R' => ⟨W₂, _, rfl, rfl, R'⟩
theorem Ex1.ret {e : Expr} {sl : Sl} (h : Ev Γ n fm σ e sl) (hΦ : Φ (.ret sl)) (hpn : ∀ b P, fm.pin = some (b, P) → ∃ x ds, fm.ns[0]? = some x ∧ σ[0]? = some (some (.own ds)) ∧ P ds := by intro _ _ h; cases h) : Ex1 Γ n fm σ (.Return (some e) pos) Φ := by
  intro A gh W s hA R
  exact wpAny_Return_some ((h A W s hA R.rd).use fun v W₁ s₁ x₁ p₁ => ⟨W₁, _, hΦ, v, rfl, R.pf.ps x₁, x₁.st, R.resF x₁ p₁, (R.ps x₁).pinned hpn⟩)
theorem Ex1.retOwn {x : Str} {p : Pos} {ds : List D} (k : Lk fm.ns σ x (.own ds)) (hΦ : Φ (.ret (.own ds))) (hd : (x == ("__debug__" : Str)) = false) (hpn : ∀ b P, fm.pin = some (b, P) → ∃ x ds, fm.ns[0]? = some x ∧ σ[0]? = some (some (.own ds)) ∧ P ds := by intro _ _ h; cases h) : Ex1 Γ n fm σ (.Return (some (.Name x p)) pos) Φ := by
  intro A gh W s hA R
  obtain ⟨i, k1, k2⟩ := k
  obtain ⟨v, h1, a, vs, m, rfl, h2, h3, h4⟩ := R.rd.vars i x _ k1 k2
  exact wpAny_Return_some (wpAny_Name (load_var R.rd.kindF h1 ⟨W, _, hΦ, _, rfl, R.pf, R.rd.st, ⟨a, vs, m, rfl, h2, R.mutF a (.inr (.inr ⟨i, x, ds, k1, k2, h1⟩)), h3, h4⟩, R.pinned hpn⟩) hd)
theorem Ex1.if_ {t : Expr} {a b : List Stmt} {c : Bool} (ht : Tr Γ n fm σ t c) (ha : c = true → Ex Γ n fm σ a Φ) (hb : c = false → Ex Γ n fm σ b Φ) : Ex1 Γ n fm σ (.If t a b pos) Φ := by
  intro A gh W s hA R
  refine wpAny_If ((ht A W s hA R.rd).use fun r W₁ s₁ x₁ p₁ => ?_)
  subst p₁
  cases r with
  | true => exact ha rfl A gh W₁ s₁ hA (R.ps x₁)
  | false => exact hb rfl A gh W₁ s₁ hA (R.ps x₁)
theorem Ex1.assert {t : Expr} {m : Option Expr} (ht : Tr Γ n fm σ t true) : Ex1 Γ n fm σ (.Assert t m pos) (fun o => o = .next σ) := by
  intro A gh W s hA R
  exact wpAny_Assert_holds ((ht A W s hA R.rd).use fun r W₁ s₁ x₁ p₁ => ⟨p₁, W₁, _, rfl, rfl, R.ps x₁⟩)

/-- the frame's own list is turned into another one at its place -/
theorem Sat.setOwn {gh : Gh} {W : Wd} {s : Shared} {x : Str} {ds es : List D} {a : Addr} {vs us : List Value} {m m' : Nat} {h' : Heap} {tk : Nat} (R : Sat Γ gh fm σ W s) (up : Up fm.ns σ x (.own es) σ') (k : Lk fm.ns σ x (.own ds)) (hx : VarAt fm.env s.heap x (.ref a))
    (ho : s.heap.get? a = some (lsObj vs m)) (hs : Heap.SameBut a s.heap h') (ht : s.toks ≤ tk) (ho' : h'.get? a = some (lsObj us m')) (hr : RepL W us es) : Sat Γ gh fm σ' W { s with heap := h', toks := tk } := by
  obtain ⟨i, h1, h2, h3⟩ := up.at
  obtain ⟨i', k1, k2⟩ := k
  have e := ns_at R.rd.ok h1 k1
  subst e
  have hma : Mut fm σ s.heap a := .inr (.inr ⟨i, x, ds, k1, k2, hx⟩)
  obtain ⟨mm, hn⟩ := R.ns
  have hLa : fm.env.locals ≠ a := by rintro rfl; exact ns_not_ls hn ho
  have hca : ∀ y c, fm.env.cells.lookup y = some c → c ≠ a := by
    rintro y c hc rfl
    obtain ⟨w, hw⟩ := R.cells y c hc
    exact cell_not_ls hw ho
  have va : ∀ y u, VarAt fm.env s.heap y u → VarAt fm.env h' y u := by
    rintro y u (⟨k, m', n', e⟩ | ⟨k, d, l, e⟩)
    · exact .inl ⟨k, _, n'.sameBut hs hLa, e⟩
    · exact .inr ⟨k, d, l, e.sameBut hs (hca _ _ l)⟩
  have va' : ∀ y u, VarAt fm.env h' y u → VarAt fm.env s.heap y u := by
    rintro y u (⟨k, m', n', e⟩ | ⟨k, d, l, e⟩)
    · have := ns_fun n' (hn.sameBut hs hLa)
      subst this
      exact .inl ⟨k, _, hn, e⟩
    · obtain ⟨w, hw⟩ := R.cells y d l
      have := cell_fun e (hw.sameBut hs (hca _ _ l))
      subst this
      exact .inr ⟨k, d, l, hw⟩
  have mut' : ∀ b, Mut fm σ' h' b → Mut fm σ s.heap b := by
    intro b hb
    rcases hb with e | e | ⟨j, y, ds', e1, e2, e3⟩
    · exact .inl e
    · exact .inr (.inl e)
    · by_cases hj : j = i
      · subst hj
        rw [h1] at e1; cases e1
        have := (va' _ _ e3).inj hx
        cases this
        exact hma
      · rw [h3 j hj] at e2
        exact .inr (.inr ⟨j, y, ds', e1, e2, va' _ _ e3⟩)
  refine ⟨⟨R.rd.st.but (R.mutG a hma) hs ht, R.rd.ok, fun j y q e1 e2 => ?_⟩, R.pf.but (R.mutF a hma) hs ht, fun b hb => R.mutF b (mut' b hb), fun b hb => R.mutG b (mut' b hb), ⟨mm, hn.sameBut hs hLa⟩, fun y c hc => ?_, R.cinj, R.kinds, fun j k y z dy dz b hjk e1 e2 e3 e4 e5 e6 => ?_, fun b y dl p1 p2 p3 => ?_⟩
  · by_cases hj : j = i
    · subst hj
      rw [h1] at e1; cases e1
      rw [h2] at e2; cases e2
      exact ⟨_, va _ _ hx, a, us, m', rfl, R.mutG a hma, ho', hr⟩
    · rw [h3 j hj] at e2
      obtain ⟨u, f1, f2⟩ := R.rd.vars j y q e1 e2
      refine ⟨u, va _ _ f1, ?_⟩
      cases q with
      | fr d => exact f2
      | own ds' =>
        obtain ⟨b, vs', m'', rfl, g1, g2, g3⟩ := f2
        refine ⟨b, vs', m'', rfl, g1, (hs.2 b ?_).trans g2, g3⟩
        rintro rfl
        exact R.apart j i y x ds' ds _ hj e1 h1 e2 k2 f1 hx
  · obtain ⟨w, hw⟩ := R.cells y c hc
    exact ⟨w, hw.sameBut hs (hca _ _ hc)⟩
  · have own : ∀ (l : Nat) (dl : List D), σ'[l]? = some (some (Sl.own dl)) → ∃ dl', σ[l]? = some (some (Sl.own dl')) := by
      intro l dl hl
      by_cases e : l = i
      · subst e; exact ⟨ds, k2⟩
      · rw [h3 l e] at hl; exact ⟨dl, hl⟩
    obtain ⟨dy', e3'⟩ := own j dy e3
    obtain ⟨dz', e4'⟩ := own k dz e4
    exact R.apart j k y z dy' dz' b hjk e1 e2 e3' e4' (va' _ _ e5) (va' _ _ e6)
  · by_cases e : (0 : Nat) = i
    · rw [← e] at k2
      exact va _ _ (R.pin b y ds p1 p2 k2)
    · rw [h3 0 e] at p3
      exact va _ _ (R.pin b y dl p1 p2 p3)

/-- the frame's own list, read -/
theorem Sat.own {gh : Gh} {W : Wd} {s : Shared} {x : Str} {ds : List D} (R : Sat Γ gh fm σ W s) (k : Lk fm.ns σ x (.own ds)) : ∃ a vs m, VarAt fm.env s.heap x (.ref a) ∧ s.heap.get? a = some (lsObj vs m) ∧ RepL W vs ds := by
  obtain ⟨v, h1, a, vs, m, rfl, _, h3, h4⟩ := R.rd.lk k
  exact ⟨a, vs, m, h1, h3, h4⟩

/-- «x.append(e)» -/
theorem Ex1.append {x : Str} {p p1 p2 : Pos} {e : Expr} {ds : List D} {d : D} (k : Lk fm.ns σ x (.own ds)) (h : Ev Γ n fm σ e (.fr d)) (up : Up fm.ns σ x (.own (ds ++ [d])) σ') (hsz : ds.length ≤ 100000) (hd : (x == ("__debug__" : Str)) = false)
    (he : ∀ env, starEach [e] env = [(false, eval e env)] := by intro; rfl) (hl : (p1.endLine == p2.line) = true := by rfl) :
    Ex1 Γ n fm σ (.Expr (.Call (.Attribute (.Name x p) ("append" : Str) p1) [e] [] p2) pos) (fun o => o = .next σ') := by
  intro A gh W s hA R
  have hi : interactive fm.env = false := by
    unfold interactive
    rw [R.rd.kindF]; rfl
  refine wpAny_Expr_any ?_ hi (by rfl)
  obtain ⟨a, vs, m, h1, h2, h3⟩ := R.own k
  refine wpAny_Call_append (by rfl) ?_ hl ?_ ?_
  · rw [he]; rfl
  · rw [he]; rfl
  refine wpAny_Name (load_var R.rd.kindF h1 ⟨a, vs.toArray, rfl, ⟨_, m, h2, rfl, rfl, rfl⟩, ?_⟩) hd
  refine (h A W s hA R.rd).use fun v W₁ s₁ x₁ p₁ => ?_
  have h2' := x₁.keep _ _ h2
  refine wpAny_list_append_plain ⟨m, h2'⟩ (fun h' hp hs => ?_) (by simp only [List.size_toArray]; rw [h3.length]; exact Nat.le_trans hsz (by decide))
  obtain ⟨m', hp⟩ := hp
  exact ⟨W₁, _, rfl, rfl, (R.ps x₁).setOwn (tk := s₁.toks) up k (h1.keeps x₁.keep) h2' hs (Nat.le_refl _) (us := vs ++ [v]) (m' := m') (by rw [hp]; simp) ((h3.mono x₁.le).append (.one p₁))⟩

/-- «x[i] = e» -/
theorem Ex1.setItem {x : Str} {p p1 : Pos} {e ei : Expr} {ds : List D} {d : D} {i : Nat} (k : Lk fm.ns σ x (.own ds)) (h : Ev Γ n fm σ e (.fr d)) (hi : EvA Γ n fm σ ei (.d (.int i))) (up : Up fm.ns σ x (.own (ds.set i d)) σ') (hlt : i < ds.length) (hsz : ds.length ≤ 100000) (hd : (x == ("__debug__" : Str)) = false)
    (hw : ∀ env, swapsWith e (some (.Subscript (.Name x p) ei p1)) pos.line env = pure false := by intro; rfl) : Ex1 Γ n fm σ (.Assign [.Subscript (.Name x p) ei p1] e pos) (fun o => o = .next σ') := by
  intro A gh W s hA R
  refine wpAny_Assign_Subscript ((h A W s hA R.rd).use fun v W₁ s₁ x₁ p₁ => ?_) (hw _)
  have R₁ := R.ps x₁
  obtain ⟨a, vs, m, h1, h2, h3⟩ := R₁.own k
  refine wpAny_Name (load_var R₁.rd.kindF h1 ?_) hd
  refine (hi A W₁ s₁ hA R₁.rd).use fun iv W₂ s₂ x₂ p₂ => ?_
  cases p₂ with
  | int _ t =>
  have h2' := x₂.keep _ _ h2
  have hlen := h3.length
  refine ki_setAt (n := m) h2' (by omega) (by omega) (by simp only [List.size_toArray]; omega) ?_
  refine ⟨W₂, _, rfl, rfl, (R₁.ps x₂).setOwn (tk := s₂.toks) up k (h1.keeps x₂.keep) h2' (Heap.SameBut.update ..) (Nat.le_refl _) (us := vs.set i v) (m' := m) ?_ ((h3.mono x₂.le).set i (Rep.mono x₂.le p₁))⟩
  rw [Heap.get?_update_self _ h2' (by rfl)]
  simp [Obj.mapSeq, lsObj]

/-- «del x[i]» -/
theorem Ex1.delItem {x : Str} {p p1 : Pos} {ei : Expr} {ds : List D} {i : Int} {j : Nat} (k : Lk fm.ns σ x (.own ds)) (hi : EvA Γ n fm σ ei (.d (.int i))) (hj : seqIndex? i ds.length = some j) (hf : Builtin.List.listFitsIndex i = true) (up : Up fm.ns σ x (.own (ds.eraseIdx j)) σ') (hsz : ds.length ≤ 100000) (hd : (x == ("__debug__" : Str)) = false) :
    Ex1 Γ n fm σ (.Delete [.Subscript (.Name x p) ei p1] pos) (fun o => o = .next σ') := by
  intro A gh W s hA R
  refine wpAny_Delete (wpAny_deleteEach_cons (wpAny_delete_Subscript ?_))
  obtain ⟨a, vs, m, h1, h2, h3⟩ := R.own k
  refine wpAny_Name (load_var R.rd.kindF h1 ?_) hd
  refine (hi A W s hA R.rd).use fun iv W₂ s₂ x₂ p₂ => ?_
  cases p₂ with
  | int _ t =>
  have h2' := x₂.keep _ _ h2
  have hlen := h3.length
  refine wpAny_delItem_plain ⟨m, h2'⟩ hf (k := j) (by simp only [List.size_toArray]; rw [hlen]; exact hj) (fun h' hp hs => ?_) (by simp only [List.size_toArray]; rw [hlen]; exact Nat.le_trans hsz (by decide))
  obtain ⟨m', hp⟩ := hp
  refine wpAny_deleteEach_nil ?_
  refine ⟨W₂, _, rfl, rfl, (R.ps x₂).setOwn (tk := s₂.toks) up k (h1.keeps x₂.keep) h2' hs (Nat.le_refl _) (us := vs.eraseIdx j) (m' := m') ?_ ((h3.mono x₂.le).eraseIdx j)⟩
  rw [hp]
  have hjlt : j < vs.length := by
    have hj' := hj
    unfold seqIndex? at hj'
    simp only at hj'
    by_cases hc : (decide (0 ≤ (if i < 0 then i + (ds.length : Int) else i)) && decide ((if i < 0 then i + (ds.length : Int) else i) < (ds.length : Int))) = true
    · rw [if_pos hc] at hj'
      rw [Bool.and_eq_true, decide_eq_true_eq, decide_eq_true_eq] at hc
      cases hj'
      omega
    · rw [if_neg hc] at hj'; cases hj'
  have : vs.toArray.eraseIdxIfInBounds j = (vs.eraseIdx j).toArray := by
    rw [Array.eraseIdxIfInBounds, dif_pos (by simpa using hjlt)]
    simp
  rw [this]

/-- an own list is frozen -/
theorem Sat.frz {gh : Gh} {W : Wd} {s : Shared} {x : Str} {ds : List D} (R : Sat Γ gh fm σ W s) (k : Lk fm.ns σ x (.own ds)) (up : Up fm.ns σ x (.fr (.list ds)) σ') : ∃ W', Sat Γ gh fm σ' W' s := by
  obtain ⟨a, vs, m, hx, ho, hr⟩ := R.own k
  obtain ⟨i, h1, h2, h3⟩ := up.at
  obtain ⟨i', k1, k2⟩ := k
  have e := ns_at R.rd.ok h1 k1
  subst e
  have hma : Mut fm σ s.heap a := .inr (.inr ⟨i, x, ds, k1, k2, hx⟩)
  have hG := R.mutG a hma
  have hle := Wd.le_freeze (o := lsObj vs m) hG
  obtain ⟨mm, hn⟩ := R.ns
  have mut' : ∀ b, Mut fm σ' s.heap b → Mut fm σ s.heap b ∧ b ≠ a := by
    intro b hb
    rcases hb with e | ⟨y, e⟩ | ⟨j, y, ds', e1, e2, e3⟩
    · refine ⟨.inl e, ?_⟩
      rintro rfl
      exact ns_not_ls hn (e ▸ ho)
    · refine ⟨.inr (.inl ⟨y, e⟩), ?_⟩
      rintro rfl
      obtain ⟨w, hw⟩ := R.cells y _ e
      exact cell_not_ls hw ho
    · by_cases hj : j = i
      · subst hj; rw [h2] at e2; cases e2
      · rw [h3 j hj] at e2
        refine ⟨.inr (.inr ⟨j, y, ds', e1, e2, e3⟩), ?_⟩
        rintro rfl
        exact R.apart j i y x ds' ds _ hj e1 h1 e2 k2 e3 hx
  have gAt : ∀ b o, (W.freeze a (lsObj vs m)).G b = some o → b = a ∧ o = lsObj vs m ∨ W.G b = some o := by
    intro b o e
    have e' : (if b = a then some (lsObj vs m) else W.G b) = some o := e
    by_cases hb : b = a
    · rw [if_pos hb] at e'; cases e'; exact .inl ⟨hb, rfl⟩
    · rw [if_neg hb] at e'; exact .inr e'
  refine ⟨W.freeze a (lsObj vs m), ⟨⟨R.rd.st.gb, fun b o e => hle.G _ _ (R.rd.st.base b o e), fun b o e => ?_, R.rd.st.tok, R.rd.st.pos⟩, R.rd.ok, fun j y q e1 e2 => ?_⟩, ⟨R.pf.keep, R.pf.le.trans hle, fun b o e => ?_, R.pf.toks, R.pf.rest⟩, fun b hb => R.mutF b (mut' b hb).1, fun b hb => ?_, R.ns, R.cells, R.cinj, R.kinds, fun j k y z dy dz b hjk e1 e2 e3 e4 e5 e6 => ?_, fun b y dl p1 p2 p3 => ?_⟩
  · rcases gAt b o e with ⟨rfl, rfl⟩ | e
    · exact ho
    · exact R.rd.st.sub b o e
  · by_cases hj : j = i
    · subst hj
      rw [h1] at e1; cases e1
      rw [h2] at e2; cases e2
      exact ⟨_, hx, .list a vs m ds (by show (if a = a then _ else _) = _; rw [if_pos rfl]) (hr.mono hle)⟩
    · have e2' := e2
      rw [h3 j hj] at e2
      obtain ⟨u, f1, f2⟩ := R.rd.vars j y q e1 e2
      refine ⟨u, f1, ?_⟩
      cases q with
      | fr d => exact Rep.mono hle f2
      | own ds' =>
        obtain ⟨b, vs', m'', rfl, g1, g2, g3⟩ := f2
        have hb : Mut fm σ' s.heap b := .inr (.inr ⟨j, y, ds', e1, e2', f1⟩)
        refine ⟨b, vs', m'', rfl, ?_, g2, g3.mono hle⟩
        show (if b = a then _ else W.G b) = none
        rw [if_neg (mut' b hb).2]; exact g1
  · rcases gAt b o e with ⟨rfl, rfl⟩ | e
    · exact .inr (R.mutF _ hma)
    · exact R.pf.sep b o e
  · show (if b = a then _ else W.G b) = none
    rw [if_neg (mut' b hb).2]; exact R.mutG b (mut' b hb).1
  · have own : ∀ (l : Nat) (dl : List D), σ'[l]? = some (some (Sl.own dl)) → σ[l]? = some (some (Sl.own dl)) := by
      intro l dl hl
      by_cases e : l = i
      · subst e; rw [h2] at hl; cases hl
      · rw [h3 l e] at hl; exact hl
    exact R.apart j k y z dy dz b hjk e1 e2 (own _ _ e3) (own _ _ e4) e5 e6
  · by_cases e : (0 : Nat) = i
    · rw [e, h2] at p3; cases p3
    · rw [h3 0 e] at p3
      exact R.pin b y dl p1 p2 p3
theorem Ex.frz {x : Str} {ds : List D} {ss : List Stmt} (k : Lk fm.ns σ x (.own ds)) (up : Up fm.ns σ x (.fr (.list ds)) σ') (h : Ex Γ n fm σ' ss Φ) : Ex Γ n fm σ ss Φ := fun A gh W s hA R =>
  let ⟨W', R'⟩ := R.frz k up; h A gh W' s hA R'

/-- a name is forgotten -/
theorem Ex.weak {ss : List Stmt} (h : Ex Γ n fm σ' ss Φ) (hw : ∀ (i : Nat) (sl : Sl), σ'[i]? = some (some sl) → σ[i]? = some (some sl)) : Ex Γ n fm σ ss Φ := fun A gh W s hA R =>
  h A gh W s hA ⟨⟨R.rd.st, R.rd.ok, fun i x sl e1 e2 => R.rd.vars i x sl e1 (hw i sl e2)⟩, R.pf,
    fun a m => R.mutF a (by rcases m with e | e | ⟨i, y, ds, e1, e2, e3⟩; exact .inl e; exact .inr (.inl e); exact .inr (.inr ⟨i, y, ds, e1, hw _ _ e2, e3⟩)),
    fun a m => R.mutG a (by rcases m with e | e | ⟨i, y, ds, e1, e2, e3⟩; exact .inl e; exact .inr (.inl e); exact .inr (.inr ⟨i, y, ds, e1, hw _ _ e2, e3⟩)), R.ns, R.cells, R.cinj, R.kinds,
    fun i j x y dx dy a hij e1 e2 e3 e4 => R.apart i j x y dx dy a hij e1 e2 (hw _ _ e3) (hw _ _ e4), fun b x ds p1 p2 p3 => R.pin b x ds p1 p2 (hw _ _ p3)⟩
end
end Mine
end
section
namespace Mine

/-- a step that writes the places wr alone -/
structure PSw (Γ : Cx) (wr : List Addr) (W : Wd) (s : Shared) (W' : Wd) (s' : Shared) : Prop where
  keep : ∀ b o, b ∉ wr → s.heap.get? b = some o → s'.heap.get? b = some o
  le : W.le W'
  sep : ∀ a o, W'.G a = some o → W.G a = some o ∨ s.heap.get? a = none
  toks : s.toks ≤ s'.toks
  rest : s' = { s with heap := s'.heap, toks := s'.toks }
  st : St Γ W' s'

structure Off (wr : List Addr) (gh : Gh) (fm : Fm) (σ : List (Option Sl)) (W : Wd) (s : Shared) : Prop where
  F : ∀ b ∈ wr, gh.F b = none
  G : ∀ b ∈ wr, W.G b = none
  nm : ∀ b ∈ wr, ¬ Mut fm σ s.heap b
def Live (wr : List Addr) (s : Shared) : Prop := ∀ b ∈ wr, ∃ o, s.heap.get? b = some o
noncomputable def Gh.guard (gh : Gh) (wr : List Addr) (W : Wd) (s : Shared) : Gh := ⟨fun b => if b ∈ wr then s.heap.get? b else gh.F b, W, s⟩

section
variable {Γ : Cx} {gh : Gh} {fm : Fm} {σ σ' : List (Option Sl)} {W W' : Wd} {s s' : Shared} {wr : List Addr}

theorem PSw.ofPS (x : PS Γ W s W' s') : PSw Γ wr W s W' s' := ⟨fun b o _ e => x.keep b o e, x.le, fun a o e => x.pf.sep a o e, x.pf.toks, x.pf.rest, x.st⟩
theorem Sat.psw (h : Sat Γ gh fm σ W s) (ap : Off wr gh fm σ W s) (al : Live wr s) (x : PSw Γ wr W s W' s') : Sat Γ gh fm σ W' s' ∧ Off wr gh fm σ W' s' := by
  have kp : ∀ a, Mut fm σ s.heap a → ∀ o, s.heap.get? a = some o → s'.heap.get? a = some o := fun a m o e => x.keep a o (fun hm => ap.nm a hm m) e
  have cl : ∀ y c w, fm.env.cells.lookup y = some c → s.heap.IsCell c w → s'.heap.IsCell c w := fun y c w e q => by
    obtain ⟨o, ho, hd⟩ := q
    exact ⟨o, kp c (.inr (.inl ⟨y, e⟩)) o ho, hd⟩
  obtain ⟨m, hn⟩ := h.ns
  have hn' : s'.heap.Ns fm.env.locals m := hn.at' fun o e => kp _ (.inl rfl) o e
  have va : ∀ y u, VarAt fm.env s.heap y u → VarAt fm.env s'.heap y u := by
    rintro y u (⟨k, m', n', e⟩ | ⟨k, d, l, e⟩)
    · exact .inl ⟨k, _, n'.at' fun o e => kp _ (.inl rfl) o e, e⟩
    · exact .inr ⟨k, d, l, cl _ _ _ l e⟩
  have va' : ∀ y u, VarAt fm.env s'.heap y u → VarAt fm.env s.heap y u := by
    rintro y u (⟨k, m', n', e⟩ | ⟨k, d, l, e⟩)
    · have := ns_fun n' hn'
      subst this
      exact .inl ⟨k, _, hn, e⟩
    · obtain ⟨w, hw⟩ := h.cells y d l
      have := cell_fun e (cl _ _ _ l hw)
      subst this
      exact .inr ⟨k, d, l, hw⟩
  have mt : ∀ a, Mut fm σ s'.heap a → Mut fm σ s.heap a := by
    intro a m
    rcases m with e | e | ⟨i, y, ds, h1, h2, h3⟩
    · exact .inl e
    · exact .inr (.inl e)
    · exact .inr (.inr ⟨i, y, ds, h1, h2, va' _ _ h3⟩)
  have gn : ∀ a o, s.heap.get? a = some o → W.G a = none → W'.G a = none := fun a o ho hg => by
    cases e : W'.G a with
    | none => rfl
    | some o' =>
      rcases x.sep a o' e with h | h
      · rw [hg] at h; cases h
      · rw [ho] at h; cases h
  refine ⟨⟨⟨x.st, h.rd.ok, fun i y sl h1 h2 => ?_⟩, ⟨fun b o e => x.keep b o (fun hb => by rw [ap.F b hb] at e; cases e) (h.pf.keep b o e), h.pf.le.trans x.le, fun a o e => ?_, Nat.le_trans h.pf.toks x.toks, by
    have h1 := h.pf.rest
    have h2 := x.rest
    rw [h2, h1]⟩, fun a m => h.mutF a (mt a m), fun a m => ?_, ⟨m, hn'⟩, fun y c e => ?_, h.cinj, h.kinds, fun i j y z dx dy a hij h1 h2 h3 h4 h5 h6 => h.apart i j y z dx dy a hij h1 h2 h3 h4 (va' _ _ h5) (va' _ _ h6), fun b y dl p1 p2 p3 => va _ _ (h.pin b y dl p1 p2 p3)⟩, ⟨ap.F, fun b hb => ?_, fun b hb m => ap.nm b hb (mt b m)⟩⟩
  · obtain ⟨v, hv, hs⟩ := h.rd.vars i y sl h1 h2
    refine ⟨v, va _ _ hv, ?_⟩
    cases sl with
    | fr d => exact Rep.mono x.le hs
    | own ds =>
      obtain ⟨a, vs, n, rfl, hG, ho, hr⟩ := hs
      exact ⟨a, vs, n, rfl, gn a _ ho hG, kp a (.inr (.inr ⟨i, y, ds, h1, h2, hv⟩)) _ ho, hr.mono x.le⟩
  · rcases x.sep a o e with q | q
    · exact h.pf.sep a o q
    · refine .inr ?_
      cases e' : gh.F a with
      | none => rfl
      | some o' => rw [h.pf.keep a o' e'] at q; cases q
  · obtain ⟨o, ho⟩ := h.mutAlive (mt a m)
    exact gn a o ho (h.mutG a (mt a m))
  · obtain ⟨v, hv⟩ := h.cells y c e; exact ⟨v, cl _ _ _ e hv⟩
  · obtain ⟨o, ho⟩ := al b hb
    exact gn b o ho (ap.G b hb)

theorem PF.guard (h : PF gh W s) : PF (gh.guard wr W s) W s := by
  refine ⟨fun b o e => ?_, .refl W, fun a o e => .inl e, Nat.le_refl _, rfl⟩
  have e' : (if b ∈ wr then s.heap.get? b else gh.F b) = some o := e
  by_cases hb : b ∈ wr
  · rw [if_pos hb] at e'; exact e'
  · rw [if_neg hb] at e'; exact h.keep b o e'
theorem Gh.guard_sub (hF : ∀ b ∈ wr, gh.F b = none) : ∀ b o, gh.F b = some o → (gh.guard wr W s).F b = some o := fun b o e => by
  show (if b ∈ wr then s.heap.get? b else gh.F b) = some o
  by_cases hb : b ∈ wr
  · rw [hF b hb] at e; cases e
  · rw [if_neg hb]; exact e
theorem Sat.guard (h : Sat Γ gh fm σ W s) (ap : Off wr gh fm σ W s) : Sat Γ (gh.guard wr W s) fm σ W s := by
  refine ⟨h.rd, h.pf.guard, fun a m => ?_, h.mutG, h.ns, h.cells, h.cinj, h.kinds, h.apart, h.pin⟩
  show (if a ∈ wr then s.heap.get? a else gh.F a) = none
  rw [if_neg (fun hm => ap.nm a hm m)]
  exact h.mutF a m
theorem guard_none (al : Live wr s) {a : Addr} (e : (gh.guard wr W s).F a = none) : a ∉ wr ∧ gh.F a = none := by
  have e' : (if a ∈ wr then s.heap.get? a else gh.F a) = none := e
  by_cases hb : a ∈ wr
  · rw [if_pos hb] at e'
    obtain ⟨o, ho⟩ := al a hb
    rw [ho] at e'; cases e'
  · rw [if_neg hb] at e'; exact ⟨hb, e'⟩
theorem PF.unguard (h : PF gh W s) (hF : ∀ b ∈ wr, gh.F b = none) (h' : PF (gh.guard wr W s) W' s') : PF gh W' s' :=
  PF.trans (gh' := gh.guard wr W s) h (Gh.guard_sub hF) h'
theorem ResF.unguard {v : Value} {sl : Sl} (al : Live wr s) (h : ResF (gh.guard wr W s) W' s' v sl) : ResF gh W' s' v sl := by
  cases sl with
  | fr d => exact h
  | own ds => obtain ⟨a, vs, n, e1, e2, e3, e4⟩ := h; exact ⟨a, vs, n, e1, e2, (guard_none al e3).2, e4⟩
theorem guard_keep (h' : PF (gh.guard wr W s) W' s') : ∀ b ∈ wr, ∀ o, s.heap.get? b = some o → s'.heap.get? b = some o := fun b hb o e =>
  h'.keep b o (by show (if b ∈ wr then s.heap.get? b else gh.F b) = some o; rw [if_pos hb]; exact e)
theorem guard_G (hG : ∀ b ∈ wr, W.G b = none) (al : Live wr s) (h' : PF (gh.guard wr W s) W' s') : ∀ b ∈ wr, W'.G b = none := fun b hb => by
  cases e : W'.G b with
  | none => rfl
  | some o =>
    rcases h'.sep b o e with q | q
    · have q' : W.G b = some o := q
      rw [hG b hb] at q'; cases q'
    · exact absurd hb (guard_none al q).1
theorem Sat.unguard (h : Sat Γ gh fm σ W s) (ap : Off wr gh fm σ W s) (al : Live wr s) (h' : Sat Γ (gh.guard wr W s) fm σ' W' s') : Sat Γ gh fm σ' W' s' ∧ Off wr gh fm σ' W' s' :=
  ⟨⟨h'.rd, h.pf.unguard ap.F h'.pf, fun a m => (guard_none al (h'.mutF a m)).2, h'.mutG, h'.ns, h'.cells, h'.cinj, h'.kinds, h'.apart, h'.pin⟩,
    ⟨ap.F, guard_G ap.G al h'.pf, fun b hb m => (guard_none al (h'.mutF b m)).1 hb⟩⟩
end

/-- what an iterator hands out -/
inductive Itm where
  | one (d : D)
  | two (d e : D)

structure It (Γ : Cx) (I : Addr) (wr fp : List Addr) (its : List Itm) (J : Nat → Wd → Heap → Prop) : Prop where
  sub : ∀ b ∈ wr, b ∈ fp
  alive : ∀ i W h, J i W h → ∀ b ∈ wr, ∃ o, h.get? b = some o
  frame : ∀ i W W' h h', J i W h → W.le W' → (∀ b ∈ fp, ∀ o, h.get? b = some o → h'.get? b = some o) → J i W' h'
  item : ∀ i t A W s, its[i]? = some t → A.handled = none → St Γ W s → (∀ b ∈ wr, W.G b = none) → J i W s.heap → wpAny (model Γ.prog Γ.w) A (pyNext (.ref I)) (fun r s₁ => ∃ v, r = some v ∧ match t with
    | .one d => ∃ W', PSw Γ wr W s W' s₁ ∧ Rep W' v d ∧ J (i + 1) W' s₁.heap
    | .two d e => ∀ elts k pos, wpAny (model Γ.prog Γ.w) A (letOwnedTupleGo (.Tuple elts k pos) (.ref I) v) (fun _ s₂ => ∃ T a b W', v = .ref T ∧ s₂.heap.IsTuple T #[a, b] ∧ PSw Γ wr W s W' s₂ ∧ Rep W' a d ∧ Rep W' b e ∧ J (i + 1) W' s₂.heap) (fun _ _ => False) s₁) (fun _ _ => False) s
  done : ∀ A W s, A.handled = none → St Γ W s → (∀ b ∈ wr, W.G b = none) → J its.length W s.heap → wpAny (model Γ.prog Γ.w) A (pyNext (.ref I)) (fun r s₁ => r = none ∧ ∃ W', PSw Γ wr W s W' s₁) (fun _ _ => False) s
  self : ∀ i A W s, St Γ W s → J i W s.heap → wpAny (model Γ.prog Γ.w) A (pyIter (.ref I)) (fun v s₁ => v = .ref I ∧ s₁ = s) (fun _ _ => False) s

/-- an iterable; `c`: within a comprehension alone -/
def EvIt (Γ : Cx) (c : Bool) (n : Nat) (fm : Fm) (σ : List (Option Sl)) (e : Expr) (its : List Itm) : Prop :=
  ∀ A W s, AOk n A → Rd Γ fm σ W s → wpAny (model Γ.prog Γ.w) A (eval e fm.env) (fun x s₁ => wpAny (model Γ.prog Γ.w) A (pyIter x) (fun it s₂ => ∃ I wr fp J W₂, it = .ref I ∧ PS Γ W s W₂ s₂ ∧ It Γ I wr fp its J ∧ J 0 W₂ s₂.heap ∧
    (∀ b ∈ wr, s.heap.get? b = none ∧ W₂.G b = none) ∧ (c = false → ∀ b ∈ fp, b ∈ wr) ∧ (∀ b ∈ fp, ∃ o, s₂.heap.get? b = some o)) (fun _ _ => False) s₁) (fun _ _ => False) s

/-- how a target takes an item -/
inductive Tk (pin : Option (Addr × (List D → Prop))) (ns : List Str) : Expr → Itm → List (Option Sl) → List (Option Sl) → Prop
  | one {x : Str} {p : Pos} {d : D} {σ σ' : List (Option Sl)} : Up ns σ x (.fr d) σ' → (pin = none ∨ ns.head? ≠ some x) → Tk pin ns (.Name x p) (.one d) σ σ'
  | two {x y : Str} {p q r : Pos} {k : Nat} {d e : D} {σ σ₁ σ' : List (Option Sl)} : Up ns σ x (.fr d) σ₁ → Up ns σ₁ y (.fr e) σ' → (pin = none ∨ ns.head? ≠ some x) → (pin = none ∨ ns.head? ≠ some y) → Tk pin ns (.Tuple [.Name x p, .Name y q] k r) (.two d e) σ σ'

theorem wpAny_weak {α : Type} {M : Model} {A : Around} {t : Sem α} {Q : α → Shared → Prop} {E : Value → Shared → Prop} {s : Shared} (h : wpAny M A t Q (fun _ _ => False) s) : wpAny M A t Q E s := wpAny_mono h (fun _ _ q => q) fun _ _ f => f.elim

section
variable {Γ : Cx} {n : Nat} {fm : Fm} {σ σ' : List (Option Sl)} {pos : Pos} {Φ : Out → Prop} {gh : Gh} {W : Wd} {s : Shared} {wr fp : List Addr} {I : Addr} {its : List Itm} {J : Nat → Wd → Heap → Prop} {A : Around}

/-- stores that leave an iterator alone -/
theorem It.store {i : Nat} {x : Str} {d : D} {v : Value} {Q : Unit → Shared → Prop} {E : Value → Shared → Prop} (H : It Γ I wr fp its J) (hf : ∀ b ∈ fp, b ∈ wr) (R : Sat Γ gh fm σ W s) (ap : Off wr gh fm σ W s) (j : J i W s.heap) (up : Up fm.ns σ x (.fr d) σ') (hp : fm.pin = none ∨ fm.ns.head? ≠ some x) (hv : Rep W v d)
    (k : ∀ s', Sat Γ gh fm σ' W s' → Off wr gh fm σ' W s' → J i W s'.heap → Q () s') : wpAny (model Γ.prog Γ.w) A (storeName fm.env x v) Q E s := by
  refine (R.guard ap).store up (sl := .fr d) hv hp (fun ds a e => by cases e) fun s' R' => ?_
  obtain ⟨R₁, a₁⟩ := R.unguard ap (H.alive _ _ _ j) R'
  exact k s' R₁ a₁ (H.frame _ _ _ _ _ j (.refl W) fun b hb o e => guard_keep R'.pf b (hf b hb) o e)

theorem It.turn {i : Nat} {t : Itm} {tgt : Expr} {Q : Option Value → Shared → Prop} (H : It Γ I wr fp its J) (hf : ∀ b ∈ fp, b ∈ wr) (hA : AOk n A) (R : Sat Γ gh fm σ W s) (ap : Off wr gh fm σ W s) (j : J i W s.heap) (hi : its[i]? = some t) (tk : Tk fm.pin fm.ns tgt t σ σ') :
    wpAny (model Γ.prog Γ.w) A (pyNext (.ref I)) (fun r s₁ => ∃ v, r = some v ∧ wpAny (model Γ.prog Γ.w) A (letOwnedTupleGo tgt (.ref I) v) (fun _ s₂ => wpAny (model Γ.prog Γ.w) A (assign tgt fm.env v) (fun _ s₃ => ∃ W', Sat Γ gh fm σ' W' s₃ ∧ Off wr gh fm σ' W' s₃ ∧ J (i + 1) W' s₃.heap) (fun _ _ => False) s₂) (fun _ _ => False) s₁) (fun _ _ => False) s := by
  refine wpAny_mono (H.item i t A W s hi hA.hh R.rd.st ap.G j) (fun r s₁ q => ?_) fun _ _ f => f
  obtain ⟨v, rfl, q⟩ := q
  refine ⟨v, rfl, ?_⟩
  cases tk with
  | one up hp =>
    obtain ⟨W', x, hv, j'⟩ := q
    obtain ⟨R', ap'⟩ := R.psw ap (H.alive _ _ _ j) x
    exact wpAny_of_eq (a := ()) rfl (wpAny_assign_Name (H.store hf R' ap' j' up hp hv fun s' a b c => ⟨W', a, b, c⟩))
  | @two x y p q' r k d e _ σ₁ _ up₁ up₂ hp₁ hp₂ =>
    refine wpAny_mono (q _ _ _) (fun _ s₂ q => ?_) fun _ _ f => f
    obtain ⟨T, a, b, W', rfl, ht, x, ha, hb, j'⟩ := q
    obtain ⟨R', ap'⟩ := R.psw ap (H.alive _ _ _ j) x
    refine wpAny_assign_Tuple hA.hh ht rfl rfl fun h₃ hx₃ => ?_
    have up₃ : ∀ b o, s₂.heap.get? b = some o → h₃.get? b = some o := fun b o x => hx₃ b o (Nat.ne_of_lt (Heap.lt_size x)) x
    have x₃ : PS Γ W' s₂ W' { s₂ with heap := h₃, toks := s₂.toks } := .ext R'.rd.st up₃ (Nat.le_refl _)
    obtain ⟨R₃, ap₃⟩ := R'.psw ap' (H.alive _ _ _ j') (.ofPS x₃)
    have j₃ : J (i + 1) W' h₃ := H.frame _ _ _ _ _ j' (.refl _) fun b _ o e => up₃ b o e
    show wpAny _ A (do holding [b] (assign (.Name _ _) fm.env a); holding [] (assign (.Name _ _) fm.env b); pure ()) _ _ _
    refine wpAny_bind (wpAny_holding (wpAny_assign_Name (H.store hf R₃ ap₃ j₃ up₁ hp₁ ha fun s₄ R₄ ap₄ j₄ => ?_)))
    exact wpAny_bind (wpAny_holding (wpAny_assign_Name (H.store hf R₄ ap₄ j₄ up₂ hp₂ hb fun s₅ R₅ ap₅ j₅ => wpAny_pure ⟨W', R₅, ap₅, j₅⟩)))

def Lp (Γ : Cx) (n : Nat) (fm : Fm) (tgt : Expr) (body orelse : List Stmt) (Φ : Out → Prop) : List Itm → List (Option Sl) → Prop
  | [], σ => Ex Γ n fm σ orelse Φ
  | t :: ts, σ => ∃ σ', Tk fm.pin fm.ns tgt t σ σ' ∧ Ex Γ n fm σ' body (fun o => match o with
    | .next τ => Lp Γ n fm tgt body orelse Φ ts τ
    | .cont τ => Lp Γ n fm tgt body orelse Φ ts τ
    | .brk τ => Φ (.next τ)
    | .ret sl => Φ (.ret sl))

theorem Ex1.for_ {tgt iter : Expr} {body orelse : List Stmt} (hi : EvIt Γ false n fm σ iter its) (h : Lp Γ n fm tgt body orelse Φ its σ) (hs : ∀ x env, foldedSetIterable iter env x = pure x := by intros; rfl) : Ex1 Γ n fm σ (.For tgt iter body orelse pos) Φ := by
  intro A gh W s hA R
  refine wpAny_For (wpAny_mono (hi A W s hA R.rd) (fun x s₁ q => wpAny_mono q (fun it s₂ q => ?_) fun _ _ f => f.elim) fun _ _ f => f.elim) (fun x => hs x _)
  obtain ⟨I, wr, fp, J, W₂, rfl, x, H, j, fr, hf, _⟩ := q
  have hf := hf rfl
  have R₂ := R.ps x
  have ap₂ : Off wr gh fm σ W₂ s₂ := by
    refine ⟨fun b hb => ?_, fun b hb => (fr b hb).2, fun b hb m => ?_⟩
    · cases e : gh.F b with
      | none => rfl
      | some o => exact absurd (R.pf.keep b o e) (by rw [(fr b hb).1]; exact fun e => nomatch e)
    · have m' : Mut fm σ s.heap b := by
        rcases m with e | e | ⟨i, y, ds, h1, h2, h3⟩
        · exact .inl e
        · exact .inr (.inl e)
        · obtain ⟨v, hv, _⟩ := R.rd.vars i y _ h1 h2
          have e := VarAt.back x.keep hv h3
          subst e
          exact .inr (.inr ⟨i, y, ds, h1, h2, hv⟩)
      obtain ⟨o, ho⟩ := R.mutAlive m'
      rw [(fr b hb).1] at ho; cases ho
  refine codeAny_forLoop_any (fun k s' => ∃ i W' σ', i ≤ its.length ∧ k = its.length + 1 - i ∧ Sat Γ gh fm σ' W' s' ∧ Off wr gh fm σ' W' s' ∧ J i W' s'.heap ∧ Lp Γ n fm tgt body orelse Φ (its.drop i) σ') ?_ (its.length + 1) ⟨0, W₂, σ, Nat.zero_le _, rfl, R₂, ap₂, j, h⟩
  rintro k s' ⟨i, W', τ, hle, rfl, R', ap', j', h'⟩
  cases hi : its[i]? with
  | none =>
    have hlen : i = its.length := by
      have := List.getElem?_eq_none_iff.mp hi
      omega
    subst hlen
    rw [List.drop_length] at h'
    refine wpAny_weak (wpAny_mono (H.done A W' s' hA.hh R'.rd.st ap'.G j') (fun r s₁ q => ?_) fun _ _ f => f)
    obtain ⟨rfl, W₃, x₃⟩ := q
    exact wpAny_weak (h' A gh W₃ s₁ hA (R'.psw ap' (H.alive _ _ _ j') x₃).1)
  | some t =>
    have hlt : i < its.length := by
      have := List.getElem?_eq_some_iff.mp hi
      exact this.1
    have hd : its.drop i = t :: its.drop (i + 1) := by
      rw [List.drop_eq_getElem_cons hlt]
      have := List.getElem?_eq_some_iff.mp hi
      rw [this.2]
    rw [hd] at h'
    obtain ⟨τ', tk, hb⟩ := h'
    refine wpAny_weak (wpAny_mono (H.turn (Q := fun _ _ => True) hf hA R' ap' j' hi tk) (fun r s₁ q => ?_) fun _ _ f => f)
    obtain ⟨v, rfl, q⟩ := q
    refine wpAny_weak (wpAny_mono q (fun _ s₂ q => wpAny_weak (wpAny_mono q (fun _ s₃ q => ?_) fun _ _ f => f)) fun _ _ f => f)
    obtain ⟨W₃, R₃, ap₃, j₃⟩ := q
    have al₃ := H.alive _ _ _ j₃
    refine wpAny_weak (wpAny_mono (hb A (gh.guard wr W₃ s₃) W₃ s₃ hA (R₃.guard ap₃)) (fun fl s₄ q => ?_) fun _ _ f => f)
    obtain ⟨W₄, o, ho, p⟩ := q
    cases o with
    | next τ₄ =>
      obtain ⟨rfl, R₄⟩ := p
      obtain ⟨R₅, ap₅⟩ := R₃.unguard ap₃ al₃ R₄
      exact ⟨its.length + 1 - (i + 1), by omega, i + 1, W₄, τ₄, hlt, rfl, R₅, ap₅, H.frame _ _ _ _ _ j₃ R₄.pf.le fun b hb o e => guard_keep R₄.pf b (hf b hb) o e, ho⟩
    | cont τ₄ =>
      obtain ⟨rfl, R₄⟩ := p
      obtain ⟨R₅, ap₅⟩ := R₃.unguard ap₃ al₃ R₄
      exact ⟨its.length + 1 - (i + 1), by omega, i + 1, W₄, τ₄, hlt, rfl, R₅, ap₅, H.frame _ _ _ _ _ j₃ R₄.pf.le fun b hb o e => guard_keep R₄.pf b (hf b hb) o e, ho⟩
    | brk τ₄ =>
      obtain ⟨rfl, R₄⟩ := p
      exact ⟨W₄, _, ho, rfl, (R₃.unguard ap₃ al₃ R₄).1⟩
    | ret sl =>
      obtain ⟨u, rfl, pf, st, r, pn⟩ := p
      exact ⟨W₄, _, ho, u, rfl, R₃.pf.unguard ap₃.F pf, st, r.unguard al₃, pn⟩
end
end Mine
end
section
namespace Mine

section
variable {Γ : Cx} {n : Nat} {fm : Fm} {σ : List (Option Sl)} {pos : Pos} {W : Wd} {s : Shared} {A : Around} {wr : List Addr}

theorem PSw.off {h' : Heap} {tk : Nat} (st : St Γ W s) (hG : ∀ b ∈ wr, W.G b = none) (hk : ∀ b o, b ∉ wr → s.heap.get? b = some o → h'.get? b = some o) (ht : s.toks ≤ tk) : PSw Γ wr W s W { s with heap := h', toks := tk } :=
  ⟨hk, .refl W, fun a o e => .inl e, ht, rfl, ⟨st.gb, st.base, fun b o e => hk b o (fun hb => by rw [hG b hb] at e; cases e) (st.sub b o e), fun t x e => ⟨(st.tok t x e).1, Nat.lt_of_lt_of_le (st.tok t x e).2 ht⟩, Nat.le_trans st.pos ht⟩⟩
theorem PSw.offBook {h' : Heap} {x : List Nat} (st : St Γ W s) (hG : ∀ b ∈ wr, W.G b = none) (hk : ∀ b o, b ∉ wr → s.heap.get? b = some o → h'.get? b = some o) : PSw Γ wr W s (W.book s.toks x) { s with heap := h', toks := s.toks + 1 } := by
  have y := PS.book st x
  have z : PSw Γ wr (W.book s.toks x) { s with toks := s.toks + 1 } (W.book s.toks x) { s with heap := h', toks := s.toks + 1 } := PSw.off (s := { s with toks := s.toks + 1 }) y.st hG hk (Nat.le_refl _)
  exact ⟨hk, y.le, fun a o e => .inl e, Nat.le_succ _, rfl, z.st⟩

theorem one_off {h h' : Heap} {a : Addr} (hs : Heap.SameBut a h h') : ∀ b o, b ∉ [a] → h.get? b = some o → h'.get? b = some o := fun b o hb e => hs.extBut b o (fun x => hb (by simp [x])) e
theorem one_off' {h h' : Heap} {a : Addr} (hs : Heap.ExtBut a h h') : ∀ b o, b ∉ [a] → h.get? b = some o → h'.get? b = some o := fun b o hb e => hs b o (fun x => hb (by simp [x])) e

theorem It.list (Γ : Cx) {I a : Addr} {vs : List Value} {m : Nat} {ds : List D} : It Γ I [I] [I] (ds.map Itm.one) (fun i W h => h.IsListIter I a i ∧ W.G a = some (lsObj vs m) ∧ RepL W vs ds) where
  sub := fun b hb => hb
  alive := fun i W h j b hb => by
    rw [List.mem_singleton.mp hb]
    obtain ⟨⟨o, ho, _⟩, _⟩ := j; exact ⟨o, ho⟩
  frame := fun i W W' h h' j le k => ⟨j.1.at fun o e => k I (by simp) o e, le.G _ _ j.2.1, j.2.2.mono le⟩
  item := fun i t A W s hi hh st hG j => by
    obtain ⟨j1, j2, j3⟩ := j
    rw [List.getElem?_map] at hi
    cases hd : ds[i]? with
    | none => rw [hd] at hi; cases hi
    | some d =>
      rw [hd] at hi; cases hi
      obtain ⟨v, hv, hr⟩ := j3.get hd
      refine wpAny_pyNext_list_item j1 (IsList.ls (st.sub _ _ j2)) (x := v) (by simpa using hv) fun h' hit hs => ?_
      exact ⟨v, rfl, W, PSw.off (tk := s.toks) st hG (one_off hs) (Nat.le_refl _), hr, hit, j2, j3⟩
  done := fun A W s hh st hG j => by
    obtain ⟨j1, j2, j3⟩ := j
    rw [List.length_map] at j1
    refine wpAny_pyNext_list_end hh j1 (IsList.ls (st.sub _ _ j2)) (by simp; rw [j3.length]; exact Nat.le_refl _) fun h' hs => ?_
    exact ⟨rfl, W, PSw.off (tk := s.toks) st hG (one_off' hs) (Nat.le_refl _)⟩
  self := fun i A W s st j => wpAny_pyIter_listiter j.1 ⟨rfl, rfl⟩

theorem It.own (Γ : Cx) {I a : Addr} (hne : a ≠ I) {vs : List Value} {m : Nat} {ds : List D} : It Γ I [I] [I, a] (ds.map Itm.one) (fun i W h => h.IsListIter I a i ∧ h.get? a = some (lsObj vs m) ∧ RepL W vs ds) where
  sub := fun b hb => by rw [List.mem_singleton.mp hb]; simp
  alive := fun i W h j b hb => by
    rw [List.mem_singleton.mp hb]
    obtain ⟨⟨o, ho, _⟩, _⟩ := j; exact ⟨o, ho⟩
  frame := fun i W W' h h' j le k => ⟨j.1.at fun o e => k I (by simp) o e, k a (by simp) _ j.2.1, j.2.2.mono le⟩
  item := fun i t A W s hi hh st hG j => by
    obtain ⟨j1, j2, j3⟩ := j
    rw [List.getElem?_map] at hi
    cases hd : ds[i]? with
    | none => rw [hd] at hi; cases hi
    | some d =>
      rw [hd] at hi; cases hi
      obtain ⟨v, hv, hr⟩ := j3.get hd
      refine wpAny_pyNext_list_item j1 (IsList.ls j2) (x := v) (by simpa using hv) fun h' hit hs => ?_
      exact ⟨v, rfl, W, PSw.off (tk := s.toks) st hG (one_off hs) (Nat.le_refl _), hr, hit, hs.extBut _ _ hne j2, j3⟩
  done := fun A W s hh st hG j => by
    obtain ⟨j1, j2, j3⟩ := j
    rw [List.length_map] at j1
    refine wpAny_pyNext_list_end hh j1 (IsList.ls j2) (by simp; rw [j3.length]; exact Nat.le_refl _) fun h' hs => ?_
    exact ⟨rfl, W, PSw.off (tk := s.toks) st hG (one_off' hs) (Nat.le_refl _)⟩
  self := fun i A W s st j => wpAny_pyIter_listiter j.1 ⟨rfl, rfl⟩

abbrev signs (x : List Nat) : List D := x.map fun c => D.str [c]

theorem It.ascii (Γ : Cx) {I : Addr} {x : List Nat} {t : Tok} : It Γ I [I] [I] ((signs x).map Itm.one) (fun i W h => h.IsStrIter I "str_ascii_iterator" (S x) t i) where
  sub := fun b hb => hb
  alive := fun i W h j b hb => by
    rw [List.mem_singleton.mp hb]
    obtain ⟨o, ho, _⟩ := j; exact ⟨o, ho⟩
  frame := fun i W W' h h' j le k => by obtain ⟨o, ho, r⟩ := j; exact ⟨o, k I (by simp) o ho, r⟩
  item := fun i t A W s hi hh st hG j => by
    rw [List.getElem?_map, List.getElem?_map] at hi
    cases hd : x[i]? with
    | none => rw [hd] at hi; cases hi
    | some c =>
      rw [hd] at hi; cases hi
      refine wpAny_pyNext_ascii_item j (c := c) (by simpa [S] using hd) fun h' hit hs => ?_
      exact ⟨_, rfl, _, PSw.offBook (x := [c]) st hG (one_off hs), .str [c] _ (Wd.book_self _ _ _), hit⟩
  done := fun A W s hh st hG j => by
    rw [List.length_map, List.length_map] at j
    refine wpAny_pyNext_ascii_end hh j (by simp [S]) fun h' hs => ?_
    exact ⟨rfl, W, PSw.off (tk := s.toks) st hG (one_off' hs) (Nat.le_refl _)⟩
  self := fun i A W s st j => wpAny_pyIter_striter_ascii j ⟨rfl, rfl⟩
theorem It.wide (Γ : Cx) {I : Addr} {x : List Nat} {t : Tok} : It Γ I [I] [I] ((signs x).map Itm.one) (fun i W h => h.IsStrIter I "str_iterator" (S x) t i) where
  sub := fun b hb => hb
  alive := fun i W h j b hb => by
    rw [List.mem_singleton.mp hb]
    obtain ⟨o, ho, _⟩ := j; exact ⟨o, ho⟩
  frame := fun i W W' h h' j le k => by obtain ⟨o, ho, r⟩ := j; exact ⟨o, k I (by simp) o ho, r⟩
  item := fun i t A W s hi hh st hG j => by
    rw [List.getElem?_map, List.getElem?_map] at hi
    cases hd : x[i]? with
    | none => rw [hd] at hi; cases hi
    | some c =>
      rw [hd] at hi; cases hi
      refine wpAny_pyNext_wide_item j (c := c) (by simpa [S] using hd) fun h' hit hs => ?_
      exact ⟨_, rfl, _, PSw.offBook (x := [c]) st hG (one_off hs), .str [c] _ (Wd.book_self _ _ _), hit⟩
  done := fun A W s hh st hG j => by
    rw [List.length_map, List.length_map] at j
    refine wpAny_pyNext_wide_end hh j (by simp [S]) fun h' hs => ?_
    exact ⟨rfl, W, PSw.off (tk := s.toks) st hG (one_off' hs) (Nat.le_refl _)⟩
  self := fun i A W s st j => wpAny_pyIter_striter_wide j ⟨rfl, rfl⟩

/-- the numbers of a range -/
def rangeIs (a c : Int) : Nat → List Int
  | 0 => []
  | k + 1 => a :: rangeIs (a + c) c k
theorem rangeIs_length (a c : Int) (k : Nat) : (rangeIs a c k).length = k := by
  induction k generalizing a with
  | zero => rfl
  | succ k ih => rw [rangeIs, List.length_cons, ih]
theorem rangeIs_get (a c : Int) {k i : Nat} {x : Int} (h : (rangeIs a c k)[i]? = some x) : x = a + i * c ∧ i < k := by
  induction k generalizing a i with
  | zero => simp [rangeIs] at h
  | succ k ih =>
    cases i with
    | zero => simp [rangeIs] at h; subst h; simp
    | succ i =>
      obtain ⟨e, l⟩ := ih (a := a + c) (by simpa [rangeIs] using h)
      refine ⟨?_, by omega⟩
      rw [e]; push_cast; rw [Int.add_mul, Int.one_mul]; omega

theorem It.range (Γ : Cx) {I : Addr} {a c : Int} {k : Nat} : It Γ I [I] [I] ((rangeIs a c k).map fun i => Itm.one (.int i)) (fun i W h => IsRangeIter h I (a + (i : Nat) * c) ((k : Int) - (i : Nat)) c) where
  sub := fun b hb => hb
  alive := fun i W h j b hb => by
    rw [List.mem_singleton.mp hb]
    exact ⟨_, j⟩
  frame := fun i W W' h h' j le k => k I (by simp) _ j
  item := fun i t A W s hi hh st hG j => by
    rw [List.getElem?_map] at hi
    cases hd : (rangeIs a c k)[i]? with
    | none => rw [hd] at hi; cases hi
    | some x =>
      rw [hd] at hi; cases hi
      obtain ⟨rfl, hlt⟩ := rangeIs_get a c hd
      refine wpAny_pyNext_range_item j (by omega) fun h' hit hs => ?_
      refine ⟨_, rfl, W, PSw.off st hG (one_off hs) (Nat.le_succ _), .int _ _, ?_⟩
      have e1 : a + ((i + 1 : Nat) : Int) * c = a + (i : Int) * c + c := by push_cast; rw [Int.add_mul, Int.one_mul, Int.add_assoc]
      have e2 : (k : Int) - ((i + 1 : Nat) : Int) = (k : Int) - (i : Int) - 1 := by push_cast; omega
      rw [e1, e2]; exact hit
  done := fun A W s hh st hG j => by
    rw [List.length_map, rangeIs_length] at j
    refine wpAny_pyNext_range_end hh j (by omega) fun h' hs => ?_
    exact ⟨rfl, W, PSw.off (tk := s.toks) st hG (one_off' hs) (Nat.le_refl _)⟩
  self := fun i A W s st j => wpAny_pyIter_rangeiter j ⟨rfl, rfl⟩

/-- the end of an iterable: one new iterator object -/
theorem EvIt.push {c : Bool} {its : List Itm} {J : Nat → Wd → Heap → Prop} {W₁ : Wd} {s₁ : Shared} {o : Obj} {fp : List Addr} (x : PS Γ W s W₁ s₁) (H : It Γ s₁.heap.objs.size [s₁.heap.objs.size] fp its J) (hJ : J 0 W₁ (s₁.heap.push o)) (hf : o.isFreed = false)
    (hfp : ∀ b ∈ fp, (b = s₁.heap.objs.size) ∨ (c = true ∧ ∃ o, s₁.heap.get? b = some o)) :
    ∃ I wr fp J W₂, Value.ref s₁.heap.objs.size = .ref I ∧ PS Γ W s W₂ { s₁ with heap := s₁.heap.push o } ∧ It Γ I wr fp its J ∧ J 0 W₂ (s₁.heap.push o) ∧
      (∀ b ∈ wr, s.heap.get? b = none ∧ W₂.G b = none) ∧ (c = false → ∀ b ∈ fp, b ∈ wr) ∧ (∀ b ∈ fp, ∃ o', (s₁.heap.push o).get? b = some o') := by
  obtain ⟨f1, f2⟩ := fresh_size x.st (a := s₁.heap.objs.size) (Nat.le_refl _)
  refine ⟨_, _, _, J, W₁, rfl, x.trans (.ext x.st (fun b o e => Heap.get?_push_of_some _ e) (Nat.le_refl _)), H, hJ, fun b hb => ?_, fun hc b hb => ?_, fun b hb => ?_⟩
  · rw [List.mem_singleton.mp hb]
    refine ⟨?_, f2⟩
    cases e : s.heap.get? s₁.heap.objs.size with
    | none => rfl
    | some o' => rw [x.keep _ _ e] at f1; cases f1
  · rcases hfp b hb with h | ⟨h, _⟩
    · rw [h]; simp
    · rw [hc] at h; cases h
  · rcases hfp b hb with h | ⟨_, o', h⟩
    · rw [h]; exact ⟨o, Heap.get?_push_size _ hf⟩
    · exact ⟨o', Heap.get?_push_of_some _ h⟩

theorem EvIt.list {c : Bool} {e : Expr} {ds : List D} (h : EvA Γ n fm σ e (.d (.list ds))) : EvIt Γ c n fm σ e (ds.map Itm.one) := by
  intro A W s hA R
  refine (h A W s hA R).use fun v W₁ s₁ x p => ?_
  cases p with
  | list a vs m ds hg hr =>
    refine wpAny_pyIter_list (IsList.ls (x.st.sub _ _ hg)) ?_
    exact EvIt.push x (It.list Γ) ⟨⟨_, Heap.get?_push_size _ rfl, rfl, rfl⟩, hg, hr⟩ rfl (fun b hb => .inl (List.mem_singleton.mp hb))
theorem EvIt.own {e : Expr} {ds : List D} (h : EvA Γ n fm σ e (.l ds)) : EvIt Γ true n fm σ e (ds.map Itm.one) := by
  intro A W s hA R
  refine (h A W s hA R).use fun v W₁ s₁ x p => ?_
  obtain ⟨a, vs, m, rfl, hg, hr⟩ := p
  refine wpAny_pyIter_list (IsList.ls hg) ?_
  have hne : a ≠ s₁.heap.objs.size := Nat.ne_of_lt (Heap.lt_size hg)
  exact EvIt.push x (It.own Γ hne) ⟨⟨_, Heap.get?_push_size _ rfl, rfl, rfl⟩, Heap.get?_push_of_some _ hg, hr⟩ rfl (fun b hb => by
    rcases List.mem_cons.mp hb with h | h
    · exact .inl h
    · rw [List.mem_singleton.mp h]; exact .inr ⟨rfl, _, hg⟩)
theorem EvIt.text {c : Bool} {e : Expr} {x : List Nat} (h : EvA Γ n fm σ e (.d (.raw x))) : EvIt Γ c n fm σ e ((signs x).map Itm.one) := by
  intro A W s hA R
  refine (h A W s hA R).use fun v W₁ s₁ xx p => ?_
  cases p with
  | raw x t =>
    cases ha : (S x).cps.all (· < 128)
    · refine wpAny_pyIter_wide ha ?_
      exact EvIt.push xx (It.wide Γ) ⟨_, Heap.get?_push_size _ rfl, rfl, rfl⟩ rfl (fun b hb => .inl (List.mem_singleton.mp hb))
    · refine wpAny_pyIter_ascii ha ?_
      exact EvIt.push xx (It.ascii Γ) ⟨_, Heap.get?_push_size _ rfl, rfl, rfl⟩ rfl (fun b hb => .inl (List.mem_singleton.mp hb))

theorem tcall {x : Str} {np : Pos} {T : String} {e : Expr} {es : List Expr} {as : List Ar} {Q : Value → Shared → Prop} {E : Value → Shared → Prop} (hk : fm.sc.names.lookup x = some .globalImplicit) (hb : BltAt Γ x (.type T)) (hd : (x == ("__debug__" : Str)) = false)
    (ha : EvAs Γ n fm σ (e :: es) as) (hA : AOk n A) (R : Rd Γ fm σ W s)
    (k : ∀ vs W₁ s₁, PS Γ W s W₁ s₁ → ArsR W₁ s₁.heap vs as → wpAny (model Γ.prog Γ.w) A (call (.type T) vs) Q E s₁)
    (he : ∀ env, starEach (e :: es) env = (false, eval e env) :: starEach es env := by intro; rfl) (hp : (es.all fun e => match e with | .Starred .. => false | _ => true) = true := by rfl) :
    wpAny (model Γ.prog Γ.w) A (eval (.Call (.Name x np) (e :: es) [] pos) fm.env) Q E s := by
  refine Call_ (load_blt R hk hb ?_ hd)
  exact callWith_type1 ((ha A W s _ hA R).use fun vs W₁ s₁ x₁ p₁ => k vs W₁ s₁ x₁ p₁) (he _) (starsPlain hp)
theorem Ev.tcall {x : Str} {np : Pos} {T : String} {e : Expr} {es : List Expr} {as : List Ar} {sl : Sl} (hk : fm.sc.names.lookup x = some .globalImplicit) (hb : BltAt Γ x (.type T)) (hd : (x == ("__debug__" : Str)) = false)
    (ha : EvAs Γ n fm σ (e :: es) as) (ho : OpN Γ n (fun vs => call (.type T) vs) as sl)
    (he : ∀ env, starEach (e :: es) env = (false, eval e env) :: starEach es env := by intro; rfl) (hp : (es.all fun e => match e with | .Starred .. => false | _ => true) = true := by rfl) :
    Ev Γ n fm σ (.Call (.Name x np) (e :: es) [] pos) sl := by
  intro A W s hA R
  refine Mine.tcall hk hb hd ha hA R (fun vs W₁ s₁ x₁ p₁ => ?_) he hp
  exact (ho A W₁ s₁ vs hA x₁.st p₁).use fun r W₂ s₂ x₂ p₂ => ⟨W₂, x₁.trans x₂, p₂.back x₁⟩

theorem range_end {c : Bool} {W₁ : Wd} {s₁ : Shared} {r : Addr} {a b cc : Int} {k : Nat} {t u v : Tok} {E : Value → Shared → Prop} (x : PS Γ W s W₁ s₁) (hr : IsRange s₁.heap r a b cc t u v) (hs : Builtin.Range.small a b cc = true) (hk : Builtin.Range.rangeSize a b cc = k) :
    wpAny (model Γ.prog Γ.w) A (pyIter (.ref r)) (fun it s₂ => ∃ I wr fp J W₂, it = .ref I ∧ PS Γ W s W₂ s₂ ∧ It Γ I wr fp ((rangeIs a cc k).map fun i => Itm.one (.int i)) J ∧ J 0 W₂ s₂.heap ∧
      (∀ b ∈ wr, s.heap.get? b = none ∧ W₂.G b = none) ∧ (c = false → ∀ b ∈ fp, b ∈ wr) ∧ (∀ b ∈ fp, ∃ o, s₂.heap.get? b = some o)) E s₁ := by
  refine wpAny_pyIter_range hr hs ?_
  refine EvIt.push x (It.range Γ) ?_ rfl (fun b hb => .inl (List.mem_singleton.mp hb))
  show Heap.get? _ _ = _
  rw [Heap.get?_push_size _ rfl, hk]
  simp

theorem EvIt.range1 {c : Bool} {np : Pos} {e : Expr} {k : Nat} (hk : fm.sc.names.lookup ("range" : Str) = some .globalImplicit) (hb : BltAt Γ ("range" : Str) (.type "range")) (ha : EvA Γ n fm σ e (.d (.int k))) (hs : k ≤ 100000)
    (he : ∀ env, starEach [e] env = (false, eval e env) :: starEach [] env := by intro; rfl) : EvIt Γ c n fm σ (.Call (.Name ("range" : Str) np) [e] [] pos) ((rangeIs 0 1 k).map fun i => Itm.one (.int i)) := by
  intro A W s hA R
  refine tcall hk hb rfl (EvAs.cons ha EvAs.nil he) hA R (fun vs W₁ s₁ x₁ p₁ => ?_) he
  obtain ⟨v, rfl, q⟩ := p₁.one
  cases q with
  | int _ t =>
    refine call_range_1 ?_
    exact range_end (x₁.trans (.ext x₁.st (fun b o e => Heap.get?_push_of_some _ e) (Nat.le_trans (Nat.le_succ _) (Nat.le_succ _)))) (IsRange.new ..) (small_one (by decide) (by decide) (by omega) (by omega)) (by rw [rangeSize_one]; split <;> omega)
theorem EvIt.range2 {c : Bool} {np : Pos} {e f : Expr} {a b : Int} {k : Nat} (hk : fm.sc.names.lookup ("range" : Str) = some .globalImplicit) (hb : BltAt Γ ("range" : Str) (.type "range")) (ha : EvA Γ n fm σ e (.d (.int a))) (hb' : EvA Γ n fm σ f (.d (.int b)))
    (hs : -100000 ≤ a ∧ a ≤ 100000 ∧ -100000 ≤ b ∧ b ≤ 100000 ∧ k = (b - a).toNat)
    (he : ∀ env, starEach [e, f] env = (false, eval e env) :: starEach [f] env := by intro; rfl) (he' : ∀ env, starEach [f] env = (false, eval f env) :: starEach [] env := by intro; rfl) (hp : ([f].all fun e => match e with | .Starred .. => false | _ => true) = true := by rfl) : EvIt Γ c n fm σ (.Call (.Name ("range" : Str) np) [e, f] [] pos) ((rangeIs a 1 k).map fun i => Itm.one (.int i)) := by
  intro A W s hA R
  refine tcall hk hb rfl (EvAs.cons ha (EvAs.cons hb' EvAs.nil he') he) hA R (fun vs W₁ s₁ x₁ p₁ => ?_) he hp
  obtain ⟨v, u, rfl, q, r⟩ := p₁.two
  cases q with
  | int _ t =>
  cases r with
  | int _ t' =>
    refine call_range_2 ?_
    exact range_end (x₁.trans (.ext x₁.st (fun b o e => Heap.get?_push_of_some _ e) (Nat.le_succ _))) (IsRange.new ..) (small_one (by omega) (by omega) (by omega) (by omega)) (by rw [rangeSize_one]; split <;> omega)
/-- downward by one -/
theorem EvIt.range3 {c : Bool} {np : Pos} {e f g : Expr} {a b : Int} {k : Nat} (hk : fm.sc.names.lookup ("range" : Str) = some .globalImplicit) (hb : BltAt Γ ("range" : Str) (.type "range")) (ha : EvA Γ n fm σ e (.d (.int a))) (hb' : EvA Γ n fm σ f (.d (.int b))) (hc : EvA Γ n fm σ g (.d (.int (-1))))
    (hs : -100000 ≤ a ∧ a ≤ 100000 ∧ -100000 ≤ b ∧ b ≤ 100000 ∧ k = (a - b).toNat)
    (he : ∀ env, starEach [e, f, g] env = (false, eval e env) :: starEach [f, g] env := by intro; rfl) (he' : ∀ env, starEach [f, g] env = (false, eval f env) :: starEach [g] env := by intro; rfl) (he'' : ∀ env, starEach [g] env = (false, eval g env) :: starEach [] env := by intro; rfl)
    (hp : ([f, g].all fun e => match e with | .Starred .. => false | _ => true) = true := by rfl) : EvIt Γ c n fm σ (.Call (.Name ("range" : Str) np) [e, f, g] [] pos) ((rangeIs a (-1) k).map fun i => Itm.one (.int i)) := by
  intro A W s hA R
  refine tcall hk hb rfl (EvAs.cons ha (EvAs.cons hb' (EvAs.cons hc EvAs.nil he'') he') he) hA R (fun vs W₁ s₁ x₁ p₁ => ?_) he hp
  cases p₁ with
  | cons q p₁ =>
  cases p₁ with
  | cons r p₁ =>
  cases p₁ with
  | cons y p₁ =>
  cases p₁
  cases q with
  | int _ t =>
  cases r with
  | int _ t' =>
  cases y with
  | int _ t'' =>
    have hz : Builtin.Range.rangeSize a b (-1) = k := by
      unfold Builtin.Range.rangeSize
      rw [if_neg (by decide)]
      simp only [Int.neg_neg, Int.ediv_one]
      split <;> omega
    refine call_range_3 (by decide) ?_ (.inl (PyProof.noPylong_small (by omega)))
    refine range_end (x₁.trans (.ext x₁.st (fun b o e => Heap.get?_push_of_some _ e) (Nat.le_refl _))) (IsRange.new ..) ?_ hz
    unfold Builtin.Range.small
    rw [hz]
    simp only [Builtin.Range.rangeFitsLong, Bool.and_eq_true, Bool.or_eq_true, decide_eq_true_eq, beq_iff_eq, if_neg (show ¬ (-1 : Int) > 0 by decide)]
    omega
end
end Mine
end
section
namespace Mine
section
variable {Γ : Cx} {n : Nat} {fm : Fm} {σ : List (Option Sl)} {pos : Pos} {W : Wd} {s : Shared} {A : Around} {wr : List Addr}

def enumIs : Nat → List D → List Itm
  | _, [] => []
  | k, d :: ds => .two (.int k) d :: enumIs (k + 1) ds
theorem enumIs_length (k : Nat) (ds : List D) : (enumIs k ds).length = ds.length := by
  induction ds generalizing k with
  | nil => rfl
  | cons d ds ih => rw [enumIs, List.length_cons, ih, List.length_cons]
theorem enumIs_get {k i : Nat} {ds : List D} {t : Itm} (h : (enumIs k ds)[i]? = some t) : ∃ d, ds[i]? = some d ∧ t = .two (.int ((k + i : Nat) : Int)) d := by
  induction ds generalizing k i with
  | nil => simp [enumIs] at h
  | cons d ds ih =>
    cases i with
    | zero => simp [enumIs] at h; exact ⟨d, rfl, by rw [← h]; simp⟩
    | succ i =>
      obtain ⟨e, h1, h2⟩ := ih (k := k + 1) (by simpa [enumIs] using h)
      exact ⟨e, by simpa using h1, by rw [h2]; congr 2; omega⟩

theorem It.enum (Γ : Cx) {e it a : Addr} (hne : e ≠ it) {vs : List Value} {m : Nat} {ds : List D} : It Γ e [e, it] [e, it] (enumIs 0 ds) (fun i W h => (∃ old, IsEnum h e it i old) ∧ h.IsListIter it a i ∧ W.G a = some (lsObj vs m) ∧ RepL W vs ds) where
  sub := fun b hb => hb
  alive := fun i W h j b hb => by
    obtain ⟨⟨old, j1⟩, ⟨o, ho, _⟩, _⟩ := j
    rcases List.mem_cons.mp hb with h | h
    · rw [h]; exact ⟨_, j1⟩
    · rw [List.mem_singleton.mp h]; exact ⟨o, ho⟩
  frame := fun i W W' h h' j le k => by
    obtain ⟨⟨old, j1⟩, j2, j3, j4⟩ := j
    exact ⟨⟨old, k e (by simp) _ j1⟩, j2.at fun o x => k it (by simp) o x, le.G _ _ j3, j4.mono le⟩
  item := fun i t A W s hi hh st hG j => by
    obtain ⟨⟨old, j1⟩, j2, j3, j4⟩ := j
    obtain ⟨d, hd, rfl⟩ := enumIs_get hi
    obtain ⟨v, hv, hr⟩ := j4.get hd
    refine wpAny_pyNext_enum_item j1 j2 (IsList.ls (st.sub _ _ j3)) (x := v) (by simpa using hv) hne fun h' a1 a2 a3 a4 hk => ?_
    refine ⟨_, rfl, fun elts k pos => ?_⟩
    refine wpAny_letOwnedTupleGo_enum a1 fun h₂ he hs => ?_
    have hee : s.heap.objs.size ≠ e := Nat.ne_of_gt (Heap.lt_size j1)
    refine ⟨_, .int i s.toks, v, W, rfl, ⟨_, hs.extBut _ _ hee a3, rfl, _, rfl⟩, PSw.off (tk := s.toks + 1) st hG (fun b o hb x => ?_) (Nat.le_succ _), ?_, hr, ⟨_, he⟩, a2.extBut hs.extBut (Ne.symm hne), j3, j4⟩
    · simp only [List.mem_cons, List.not_mem_nil, or_false, not_or] at hb
      exact hs.extBut b o hb.1 (hk b o hb.1 hb.2 x)
    · rw [Nat.zero_add]; exact .int _ _
  done := fun A W s hh st hG j => by
    obtain ⟨⟨old, j1⟩, j2, j3, j4⟩ := j
    rw [enumIs_length] at j1 j2
    refine wpAny_pyNext_enum_end hh j1 j2 (IsList.ls (st.sub _ _ j3)) (by simp; rw [j4.length]; exact Nat.le_refl _) fun h' hs => ?_
    refine ⟨rfl, W, PSw.off (tk := s.toks) st hG (fun b o hb x => ?_) (Nat.le_refl _)⟩
    simp only [List.mem_cons, List.not_mem_nil, or_false, not_or] at hb
    exact hs b o hb.2 x
  self := fun i A W s st j => by
    obtain ⟨⟨old, j1⟩, _⟩ := j
    exact wpAny_pyIter_enum j1 ⟨rfl, rfl⟩

theorem EvIt.enum {c : Bool} {np : Pos} {e : Expr} {ds : List D} (hk : fm.sc.names.lookup ("enumerate" : Str) = some .globalImplicit) (hb : BltAt Γ ("enumerate" : Str) (.type "enumerate")) (ha : EvA Γ n fm σ e (.d (.list ds)))
    (he : ∀ env, starEach [e] env = (false, eval e env) :: starEach [] env := by intro; rfl) : EvIt Γ c n fm σ (.Call (.Name ("enumerate" : Str) np) [e] [] pos) (enumIs 0 ds) := by
  intro A W s hA R
  refine tcall hk hb rfl (EvAs.cons ha EvAs.nil he) hA R (fun vs W₁ s₁ x₁ p₁ => ?_) he
  obtain ⟨v, rfl, q⟩ := p₁.one
  cases q with
  | list a vs m ds hg hr =>
    refine call_enumerate_1 (x₁.st.sub _ _ hg) fun h' a1 a2 a3 hk => ?_
    refine wpAny_pyIter_enum a1 ?_
    have hne : s₁.heap.objs.size + 1 ≠ s₁.heap.objs.size := by omega
    obtain ⟨f1, f2⟩ := fresh_size x₁.st (a := s₁.heap.objs.size) (Nat.le_refl _)
    obtain ⟨g1, g2⟩ := fresh_size x₁.st (a := s₁.heap.objs.size + 1) (Nat.le_succ _)
    have old : ∀ b, s₁.heap.get? b = none → s.heap.get? b = none := fun b h => by
      cases e : s.heap.get? b with
      | none => rfl
      | some o' => rw [x₁.keep _ _ e] at h; cases h
    refine ⟨_, _, _, _, W₁, rfl, x₁.trans (.ext (tk := s₁.toks) x₁.st hk (Nat.le_refl _)), It.enum Γ hne, ⟨⟨_, a1⟩, a2, hg, hr⟩, fun b hb => ?_, fun _ b hb => hb, fun b hb => ?_⟩
    · rcases List.mem_cons.mp hb with h | h
      · rw [h]; exact ⟨old _ g1, g2⟩
      · rw [List.mem_singleton.mp h]; exact ⟨old _ f1, f2⟩
    · rcases List.mem_cons.mp hb with h | h
      · rw [h]; exact ⟨_, a1⟩
      · rw [List.mem_singleton.mp h]; obtain ⟨o, ho, _⟩ := a2; exact ⟨o, ho⟩

theorem zip_off (N p q : Nat) (h1 : p < N) (h2 : q < N) : ZipApart (N + 4) (N + 2) (N + 3) N (N + 1) p q := by
  refine ⟨?_, ?_, ?_, ?_, ?_, ?_, ?_, ?_, ?_, ?_, ?_, ?_, ?_, ?_, ?_, ?_, ?_, ?_⟩ <;> (show ¬ ((_ : Nat) = (_ : Nat)); omega)

theorem It.zip (Γ : Cx) {z TI TO i1 i2 l1 l2 : Addr} (D1 : ZipApart z TI TO i1 i2 l1 l2) {vs us : List Value} {m m' : Nat} {ds es : List D} :
    It Γ z [z, TO, i1, i2] [z, TO, i1, i2, TI] (List.zipWith Itm.two ds es) (fun i W h => IsZip h z TI TO .none ∧ IsPair h TI (.ref i1) (.ref i2) ∧ (∃ a b, IsPair h TO a b) ∧ h.IsListIter i1 l1 i ∧ h.IsListIter i2 l2 i ∧ W.G l1 = some (lsObj vs m) ∧ W.G l2 = some (lsObj us m') ∧ RepL W vs ds ∧ RepL W us es) where
  sub := fun b hb => by simp at hb ⊢; rcases hb with rfl | rfl | rfl | rfl <;> simp
  alive := fun i W h j b hb => by
    obtain ⟨hz, hTI, ⟨a, b', hTO⟩, ⟨o1, h1, _⟩, ⟨o2, h2, _⟩, _⟩ := j
    simp at hb
    rcases hb with rfl | rfl | rfl | rfl
    · exact ⟨_, hz⟩
    · exact ⟨_, hTO⟩
    · exact ⟨_, h1⟩
    · exact ⟨_, h2⟩
  frame := fun i W W' h h' j le k => by
    obtain ⟨hz, hTI, ⟨a, b', hTO⟩, h1, h2, g1, g2, r1, r2⟩ := j
    exact ⟨k z (by simp) _ hz, k TI (by simp) _ hTI, ⟨a, b', k TO (by simp) _ hTO⟩, h1.at fun o e => k i1 (by simp) o e, h2.at fun o e => k i2 (by simp) o e, le.G _ _ g1, le.G _ _ g2, r1.mono le, r2.mono le⟩
  item := fun i t A W s hi hh st hG j => by
    obtain ⟨hz, hTI, ⟨a, b', hTO⟩, h1, h2, g1, g2, r1, r2⟩ := j
    rw [List.getElem?_zipWith] at hi
    cases hd : ds[i]? with
    | none => rw [hd] at hi; cases hi
    | some d =>
    cases he : es[i]? with
    | none => rw [hd, he] at hi; cases hi
    | some e =>
      rw [hd, he] at hi; cases hi
      obtain ⟨v, hv, hr⟩ := r1.get hd
      obtain ⟨u, hu, hr'⟩ := r2.get he
      refine wpAny_pyNext_zip_item D1 hz hTI hTO h1 h2 (IsList.ls (st.sub _ _ g1)) (IsList.ls (st.sub _ _ g2)) (x := v) (y := u) (by simpa using hv) (by simpa using hu) fun h' a1 a2 a3 a4 a5 a6 hk => ?_
      refine ⟨_, rfl, fun elts k pos => ?_⟩
      refine wpAny_letOwnedTupleGo_zip a1 fun h₂ hz' hs => ?_
      have lt : ∀ {c o}, s.heap.get? c = some o → s.heap.objs.size ≠ c := fun e => Nat.ne_of_gt (Heap.lt_size e)
      refine ⟨_, v, u, W, rfl, ⟨_, hs.extBut _ _ (lt hz) a5, rfl, _, rfl⟩, PSw.off (tk := s.toks) st hG (fun b o hb x => ?_) (Nat.le_refl _), hr, hr', hz', hs.extBut _ _ D1.TIz (hk _ _ D1.TIz D1.TITO D1.TIi1 D1.TIi2 hTI), ⟨_, _, hs.extBut _ _ D1.TOz a2⟩, a3.extBut hs.extBut D1.i1z, a4.extBut hs.extBut D1.i2z, g1, g2, r1, r2⟩
      simp only [List.mem_cons, List.not_mem_nil, or_false, not_or] at hb
      exact hs.extBut b o hb.1 (hk b o hb.1 hb.2.1 hb.2.2.1 hb.2.2.2 x)
  done := fun A W s hh st hG j => by
    obtain ⟨hz, hTI, ⟨a, b', hTO⟩, h1, h2, g1, g2, r1, r2⟩ := j
    rw [List.length_zipWith] at h1 h2
    have hend : vs.toArray[min ds.length es.length]? = none ∨ us.toArray[min ds.length es.length]? = none := by
      rcases Nat.le_total ds.length es.length with h | h
      · exact .inl (by simp; rw [r1.length]; omega)
      · exact .inr (by simp; rw [r2.length]; omega)
    refine wpAny_pyNext_zip_end hh D1 hz hTI hTO h1 h2 (IsList.ls (st.sub _ _ g1)) (IsList.ls (st.sub _ _ g2)) hend fun h' hk => ?_
    refine ⟨rfl, W, PSw.off (tk := s.toks) st hG (fun b o hb x => ?_) (Nat.le_refl _)⟩
    simp only [List.mem_cons, List.not_mem_nil, or_false, not_or] at hb
    exact hk b o hb.1 hb.2.1 hb.2.2.1 hb.2.2.2 x
  self := fun i A W s st j => wpAny_pyIter_zip j.1 ⟨rfl, rfl⟩

/-- zip, within a comprehension -/
theorem EvIt.zip {np : Pos} {e f : Expr} {ds es : List D} (hk : fm.sc.names.lookup ("zip" : Str) = some .globalImplicit) (hb : BltAt Γ ("zip" : Str) (.type "zip")) (ha : EvA Γ n fm σ e (.d (.list ds))) (hf : EvA Γ n fm σ f (.d (.list es)))
    (he : ∀ env, starEach [e, f] env = (false, eval e env) :: starEach [f] env := by intro; rfl) (he' : ∀ env, starEach [f] env = (false, eval f env) :: starEach [] env := by intro; rfl) (hp : ([f].all fun e => match e with | .Starred .. => false | _ => true) = true := by rfl) : EvIt Γ true n fm σ (.Call (.Name ("zip" : Str) np) [e, f] [] pos) (List.zipWith Itm.two ds es) := by
  intro A W s hA R
  refine tcall hk hb rfl (EvAs.cons ha (EvAs.cons hf EvAs.nil he') he) hA R (fun vs W₁ s₁ x₁ p₁ => ?_) he hp
  obtain ⟨v, u, rfl, q, r⟩ := p₁.two
  cases q with
  | list l1 vs m ds hg hr =>
  cases r with
  | list l2 us m' es hg' hr' =>
    have hl1 := x₁.st.sub _ _ hg
    have hl2 := x₁.st.sub _ _ hg'
    have b1 : @LT.lt Nat _ l1 s₁.heap.objs.size := Heap.lt_size hl1
    have b2 : @LT.lt Nat _ l2 s₁.heap.objs.size := Heap.lt_size hl2
    refine call_zip_2 (IsList.ls hl1) (IsList.ls hl2) fun h' a1 a2 a3 a4 a5 a6 hk => ?_
    refine wpAny_pyIter_zip a1 ?_
    have D1 : ZipApart (s₁.heap.objs.size + 4) (s₁.heap.objs.size + 2) (s₁.heap.objs.size + 3) s₁.heap.objs.size (s₁.heap.objs.size + 1) l1 l2 := zip_off _ _ _ b1 b2
    have old : ∀ b, s₁.heap.objs.size ≤ b → s.heap.get? b = none ∧ W₁.G b = none := fun b h => by
      obtain ⟨f1, f2⟩ := fresh_size x₁.st h
      refine ⟨?_, f2⟩
      cases e : s.heap.get? b with
      | none => rfl
      | some o' => rw [x₁.keep _ _ e] at f1; cases f1
    refine ⟨_, _, _, _, W₁, rfl, x₁.trans (.ext (tk := s₁.toks) x₁.st hk (Nat.le_refl _)), It.zip Γ D1, ⟨a1, a2, ⟨_, _, a3⟩, a4, a5, hg, hg', hr, hr'⟩, fun b hb => ?_, fun h => (by cases h), fun b hb => ?_⟩
    · simp at hb
      exact old b (by rcases hb with h | h | h | h <;> rw [h] <;> first | exact Nat.le_refl _ | exact Nat.le_add_right _ _)
    · obtain ⟨o1, h1, _⟩ := a4
      obtain ⟨o2, h2, _⟩ := a5
      simp at hb
      rcases hb with rfl | rfl | rfl | rfl | rfl
      · exact ⟨_, a1⟩
      · exact ⟨_, a3⟩
      · exact ⟨_, h1⟩
      · exact ⟨_, h2⟩
      · exact ⟨_, a2⟩
end
end Mine
end
section
namespace Mine

def relS (scope sc : Scope) : Scope :=
  { scope with names := scope.names.map fun (n, k) => if (k == .free && sc.kind == .function && sc.names.lookup n == some .cell) then (n, .cell) else (n, k) }
theorem relS_eq {scope : Scope} {env : Env} : relabel scope env = relS scope env.scope := rfl

def compOk (scope sc : Scope) (ts frs : List Str) : Bool :=
  scope.kind == .function && (relS scope sc).kind == .function && scope.names.all (fun p => p.2 != .local || scope.names.lookup p.1 == some .local) && scope.names.all (fun p => p.2 != .free || frs.contains p.1) &&
  frs.all (fun y => sc.names.lookup y == some .cell && (relS scope sc).names.lookup y == some .cell && scope.names.contains (y, .free) && scope.names.all (fun p => p.1 != y || p.2 != .cell)) &&
  ts.all (fun x => (relS scope sc).names.lookup x == some .local || (ts.length == 1 && (relS scope sc).names.lookup x == some .cell && scope.names.contains (x, .cell))) && decide (ts ++ frs).Nodup

def clOf (cs : Str → Addr) : List (Str × NameKind) → List (Str × Addr) → List (Str × Addr)
  | [], acc => acc
  | (n, k) :: r, acc => if k == .free then clOf cs r ((n, cs n) :: acc) else clOf cs r acc
theorem clOf_lookup (cs : Str → Addr) (y : Str) : ∀ (names : List (Str × NameKind)) (acc : List (Str × Addr)), (y, NameKind.free) ∈ names ∨ acc.lookup y = some (cs y) → (clOf cs names acc).lookup y = some (cs y)
  | [], acc, h => by rcases h with h | h; cases h; exact h
  | (n, k) :: r, acc, h => by
    unfold clOf
    by_cases hk : (k == NameKind.free) = true
    · rw [if_pos hk]
      refine clOf_lookup cs y r _ ?_
      rcases h with h | h
      · rcases List.mem_cons.mp h with e | h
        · cases e; exact .inr (by simp [List.lookup_cons])
        · exact .inl h
      · by_cases e : y = n
        · subst e; exact .inr (by simp [List.lookup_cons])
        · exact .inr (by rw [List.lookup_cons, beq_eq_false_iff_ne.mpr e]; exact h)
    · rw [if_neg hk]
      refine clOf_lookup cs y r _ ?_
      rcases h with h | h
      · rcases List.mem_cons.mp h with e | h
        · cases e; exact absurd rfl hk
        · exact .inl h
      · exact .inr h

theorem closureGo {env : Env} {cs : Str → Addr} (f : Str × NameKind → List (Str × Addr) → Sem (ForInStep (List (Str × Addr))))
    (hf : ∀ name kind acc, f (name, kind) acc = if kind == .free then (do let a ← cellOf env name; pure (.yield ((name, a) :: acc))) else pure (.yield acc)) :
    ∀ (names : List (Str × NameKind)) (acc : List (Str × Addr)), (∀ p ∈ names, p.2 = .free → env.cells.lookup p.1 = some (cs p.1)) → forIn names acc f = (pure (clOf cs names acc) : Sem _)
  | [], acc, _ => by rw [List.forIn_nil]; rfl
  | (n, k) :: r, acc, h => by
    rw [List.forIn_cons, hf]
    unfold clOf
    by_cases hk : (k == NameKind.free) = true
    · rw [if_pos hk, if_pos hk]
      have e : cellOf env n = pure (cs n) := by
        unfold cellOf
        rw [h (n, k) List.mem_cons_self (by simpa using hk)]
      rw [e]
      exact closureGo f hf r _ fun p hp => h p (List.mem_cons_of_mem _ hp)
    · rw [if_neg hk, if_neg hk]
      exact closureGo f hf r _ fun p hp => h p (List.mem_cons_of_mem _ hp)
theorem closureFor_of {scope : Scope} {env : Env} {cs : Str → Addr} (h : ∀ p ∈ scope.names, p.2 = .free → env.cells.lookup p.1 = some (cs p.1)) : closureFor scope env = pure (clOf cs scope.names []) := by
  unfold closureFor
  have e := closureGo (env := env) (cs := cs) (fun x r => match x with
    | (name, kind) => if (kind == NameKind.free) = true then (do let a ← cellOf env name; pure (ForInStep.yield ((name, a) :: r))) else pure (ForInStep.yield r)) (fun _ _ _ => rfl) scope.names [] h
  exact (congrArg (· >>= fun cs => pure cs) e : _)

theorem cellsFrom_old (y : Str) : ∀ (names : List (Str × NameKind)) (k : Nat) (acc : List (Str × Addr)), (∀ p ∈ names, p.1 = y → p.2 ≠ .cell) → (cellsFrom k names acc).lookup y = acc.lookup y
  | [], k, acc, _ => rfl
  | (n, kd) :: r, k, acc, h => by
    unfold cellsFrom
    by_cases hk : (kd == NameKind.cell) = true
    · rw [if_pos hk, cellsFrom_old y r _ _ fun p hp => h p (List.mem_cons_of_mem _ hp)]
      have hne : y ≠ n := fun e => h (n, kd) List.mem_cons_self e.symm (by simpa using hk)
      rw [List.lookup_cons, beq_eq_false_iff_ne.mpr hne]
    · rw [if_neg hk]
      exact cellsFrom_old y r _ _ fun p hp => h p (List.mem_cons_of_mem _ hp)
theorem cellsFrom_new (y : Str) : ∀ (names : List (Str × NameKind)) (h : Heap) (acc : List (Str × Addr)), (y, NameKind.cell) ∈ names → ∃ c, (cellsFrom h.objs.size names acc).lookup y = some c ∧ h.objs.size ≤ c ∧ (pushCells h names).IsCell c none
  | [], h, acc, hm => by cases hm
  | (n, kd) :: r, h, acc, hm => by
    unfold cellsFrom pushCells
    by_cases hk : (kd == NameKind.cell) = true
    · rw [if_pos hk, if_pos hk]
      by_cases hr : (y, NameKind.cell) ∈ r
      · have := cellsFrom_new y r (h.push { cls := .type "cell", data := .cell none }) ((n, h.objs.size) :: acc) hr
        obtain ⟨c, h1, h2, h3⟩ := this
        rw [Heap.size_push] at h1 h2
        exact ⟨c, h1, Nat.le_of_succ_le h2, h3⟩
      · rcases List.mem_cons.mp hm with e | e
        · cases e
          refine ⟨h.objs.size, ?_, Nat.le_refl _, (⟨_, pushCells_keeps r _ _ _ (Heap.get?_push_size _ rfl), rfl⟩ : Heap.IsCell _ _ _)⟩
          rw [cellsFrom_old y r _ _ (fun p hp e e' => hr (by obtain ⟨a, b⟩ := p; cases e; cases e'; exact hp))]
          simp [List.lookup_cons]
        · exact absurd e hr
    · rw [if_neg hk, if_neg hk]
      rcases List.mem_cons.mp hm with e | e
      · cases e; exact absurd rfl hk
      · exact cellsFrom_new y r h acc e

section
variable {M : Model} {A : Around} {E : Value → Shared → Prop} {s : Shared} {env : Env}
theorem newEnvC {scope : Scope} {globals : Addr} {cl : List (Str × Addr)} {qual : Str} {Q : Env → Shared → Prop}
    (h : Q { scope, locals := s.heap.objs.size, globals, cells := cellsFrom (s.heap.objs.size + 1) scope.names cl, qual, func := none, code := env.code, frame := env.frame, builtins := env.builtins } { s with heap := pushCells (s.heap.push { cls := .type "dict", data := .dict #[] }) scope.names }) :
    wpAny M A (newFunctionEnv scope globals cl [] qual none .none (some env)) Q E s := by
  simp only [newFunctionEnv, Option.isSome_some, if_true]
  refine wpAny_bind (wpAny_alloc ?_)
  refine wpAny_bind (wpAny_layCells _ (fun name kind cells => by cases hkc : kind == NameKind.cell <;> simp [hkc]) _ _ _ _ ?_)
  rw [show ({ s with heap := s.heap.push { cls := .type "dict", data := .dict #[] } } : Shared).heap.objs.size = s.heap.objs.size + 1 from Heap.size_push ..]
  rw [List.forIn_nil]
  exact wpAny_bind (wpAny_pure (wpAny_pure h))
end

section
variable {prog : Program} {w : World} {A : Around} {E : Value → Shared → Prop} {R : Result → Shared → Prop} {s : Shared}
theorem codeAny_compLoop_any {elt target iter : Expr} {ifs : List Expr} {scope : Scope} {pos : Pos} {it acc : Value} {env : Env} (I : Nat → Shared → Prop)
    (turn : ∀ n s, I n s → wpAny (model prog w) A (pyNext it) (fun r s₁ => match r with
      | none => R (.ok .next) s₁
      | some v => wpAny (model prog w) A (letOwnedTupleGo target it v) (fun _ s₁' => wpAny (model prog w) A (assign target env v) (fun _ s₂ =>
          wpAny (model prog w) A (forIn ifs true fun c r => if r = true then do let ok ← isTrue c env (eval c env); pure (ForInStep.yield ok) else pure (ForInStep.yield r)) (fun ok s₃ =>
            if ok = true then wpAny (model prog w) A (eval elt env) (fun x s₄ =>
              wpAny (model prog w) A (call (.builtin "list.append") [acc, x]) (fun _ s₅ => ∃ m, m < n ∧ I m s₅) (notedBy (model prog w) A env fun e s' => R (.error e) s') s₄) (notedBy (model prog w) A env fun e s' => R (.error e) s') s₃
            else ∃ m, m < n ∧ I m s₃) (notedBy (model prog w) A env fun e s' => R (.error e) s') s₂) (notedBy (model prog w) A env fun e s' => R (.error e) s') s₁') (notedBy (model prog w) A env fun e s' => R (.error e) s') s₁) (notedBy (model prog w) A env fun e s' => R (.error e) s') s)
    (n : Nat) (h : I n s) :
    codeAny (model prog w) A (.compLoop (.ListComp elt [⟨target, iter, ifs, 0⟩] scope pos) 0 it acc env) R s := by
  refine codeAny_loop rfl I (fun n s hI => ?_) n h
  show wpAny _ A ((compTurn (.ListComp elt [⟨target, iter, ifs, 0⟩] scope pos) 0 it acc env).onRaise (fun x => do noteFrame x env; theTreesLotGoes x)) _ _ s
  refine wpAny_noted ?_
  rw [compTurn_list]
  refine wpAny_bind (wpAny_standAt (wpAny_bind (wpAny_mono (turn n s hI) (fun r s₁ h₁ => ?_) fun _ _ h' => h')))
  cases r with
  | none => exact wpAny_pure h₁
  | some v =>
    refine wpAny_bind (wpAny_mono h₁ (fun _ s₁' h₁ => ?_) fun _ _ h' => h')
    refine wpAny_bind (wpAny_mono h₁ (fun _ s₂ h₂ => wpAny_bind (wpAny_mono h₂ (fun ok s₃ h₃ => ?_) fun _ _ h' => h')) fun _ _ h' => h')
    cases ok with
    | false => exact wpAny_pure ⟨rfl, h₃⟩
    | true =>
      exact wpAny_bind (wpAny_bind (wpAny_mono h₃ (fun x s₄ h₄ => wpAny_bind (wpAny_mono h₄ (fun _ s₅ h₅ => wpAny_pure (wpAny_pure ⟨rfl, h₅⟩)) fun _ _ h' => h')) fun _ _ h' => h'))
end
end Mine
end
section
namespace Mine

def Itm.sl : Itm → List (Option Sl)
  | .one d => [some (.fr d)]
  | .two d e => [some (.fr d), some (.fr e)]
inductive Tg : Expr → List Str → Itm → Prop
  | one {x : Str} {p : Pos} {d : D} : Tg (.Name x p) [x] (.one d)
  | two {x y : Str} {p q r : Pos} {k : Nat} {d e : D} : Tg (.Tuple [.Name x p, .Name y q] k r) [x, y] (.two d e)
inductive Ts (Γ : Cx) (n : Nat) (fm : Fm) (σ : List (Option Sl)) : List Expr → Bool → Prop
  | nil : Ts Γ n fm σ [] true
  | one {c : Expr} {b : Bool} : Tr Γ n fm σ c b → Ts Γ n fm σ [c] b
def CB (Γ : Cx) (n : Nat) (fm : Fm) (σ : List (Option Sl)) (ifs : List Expr) (elt : Expr) (r : Option D) : Prop :=
  ∃ b, Ts Γ n fm σ ifs b ∧ (b = true → ∃ d, r = some d ∧ Ev Γ n fm σ elt (.fr d)) ∧ (b = false → r = none)

structure CEnv (fm : Fm) (scope : Scope) (ts frs : List Str) (e : Env) (C : Addr) (oc : List Addr) : Prop where
  ok : FmOk (F3 e (relS scope fm.sc) (ts ++ frs))
  loc : e.locals = C
  fr : ∀ y ∈ frs, e.kindOf y = some .cell ∧ e.cells.lookup y = fm.env.cells.lookup y
  tg : ∀ x ∈ ts, e.kindOf x = some .local ∨ (ts.length = 1 ∧ e.kindOf x = some .cell ∧ ∃ c, e.cells.lookup x = some c ∧ c ∈ oc)

structure CI (Γ : Cx) (W₀ : Wd) (s₀ : Shared) (C D : Addr) (oc wr : List Addr) (J : Nat → Wd → Heap → Prop) (i : Nat) (ds : List Mine.D) (W : Wd) (s : Shared) : Prop where
  ps : PS Γ W₀ s₀ W s
  g : ∀ b, (b = C ∨ b = D ∨ b ∈ oc ∨ b ∈ wr) → W.G b = none
  ns : ∃ m, s.heap.Ns C m
  cl : ∀ c ∈ oc, ∃ v, s.heap.IsCell c v
  acc : ∃ vs m, s.heap.get? D = some (lsObj vs m) ∧ RepL W vs ds
  j : J i W s.heap
structure CS (s₀ : Shared) (C D : Addr) (oc wr fp : List Addr) : Prop where
  new : ∀ b, (b = C ∨ b = D ∨ b ∈ oc ∨ b ∈ wr) → s₀.heap.get? b = none
  CD : C ≠ D
  Co : C ∉ oc
  Do : D ∉ oc
  Cf : C ∉ fp
  Df : D ∉ fp
  of : ∀ c ∈ oc, c ∉ fp

section
variable {Γ : Cx} {n : Nat} {fm : Fm} {σ : List (Option Sl)} {pos : Pos} {W W' W₀ : Wd} {s s' s₀ : Shared} {A : Around} {wr fp oc l : List Addr} {C D I : Addr} {J : Nat → Wd → Heap → Prop} {its : List Itm} {ds : List Mine.D} {i : Nat}

theorem PSw.gn (x : PSw Γ l W s W' s') {a : Addr} {o : Obj} (ho : s.heap.get? a = some o) (hg : W.G a = none) : W'.G a = none := by
  cases e : W'.G a with
  | none => rfl
  | some o' =>
    rcases x.sep a o' e with h | h
    · rw [hg] at h; cases h
    · rw [ho] at h; cases h
theorem PS.psw (x : PS Γ W₀ s₀ W s) (fr : ∀ b ∈ l, s₀.heap.get? b = none) (y : PSw Γ l W s W' s') : PS Γ W₀ s₀ W' s' := by
  have h1 : s = { s₀ with heap := s.heap, toks := s.toks } := x.pf.rest
  have h2 := y.rest
  refine ⟨⟨fun b o e => y.keep b o (fun hb => by have e2 : s₀.heap.get? b = some o := e; rw [fr b hb] at e2; cases e2) (x.keep b o e), x.le.trans y.le, fun a o e => ?_, Nat.le_trans x.pf.toks y.toks, by rw [h2, h1]⟩, y.st⟩
  rcases y.sep a o e with h | h
  · exact x.pf.sep a o h
  · refine .inr ?_
    show s₀.heap.get? a = none
    cases e' : s₀.heap.get? a with
    | none => rfl
    | some o' => rw [x.keep _ _ e'] at h; cases h

theorem CI.step {J' : Nat → Wd → Heap → Prop} {i' : Nat} {ds' : List Mine.D} (c : CI Γ W₀ s₀ C D oc wr J i ds W s) (S : CS s₀ C D oc wr fp) (H : It Γ I wr fp its J) (x : PSw Γ l W s W' s') (hl : ∀ b ∈ l, (b = C ∨ b = D ∨ b ∈ oc ∨ b ∈ wr))
    (ns : ∃ m, s'.heap.Ns C m) (cl : ∀ c ∈ oc, ∃ v, s'.heap.IsCell c v) (acc : ∃ vs m, s'.heap.get? D = some (lsObj vs m) ∧ RepL W' vs ds') (j : J' i' W' s'.heap) : CI Γ W₀ s₀ C D oc wr J' i' ds' W' s' := by
  refine ⟨c.ps.psw (fun b hb => S.new b (hl b hb)) x, fun b hb => ?_, ns, cl, acc, j⟩
  have al : ∃ o, s.heap.get? b = some o := by
    rcases hb with rfl | rfl | hb | hb
    · obtain ⟨m, o, _, _, e, _⟩ := c.ns; exact ⟨o, e⟩
    · obtain ⟨vs, m, e, _⟩ := c.acc; exact ⟨_, e⟩
    · obtain ⟨v, o, e, _⟩ := c.cl b hb; exact ⟨o, e⟩
    · exact H.alive _ _ _ c.j b hb
  obtain ⟨o, ho⟩ := al
  exact x.gn ho (c.g b hb)
theorem CI.quiet (c : CI Γ W₀ s₀ C D oc wr J i ds W s) (S : CS s₀ C D oc wr fp) (H : It Γ I wr fp its J) (x : PS Γ W s W' s') : CI Γ W₀ s₀ C D oc wr J i ds W' s' := by
  refine c.step S H (l := []) (.ofPS x) (fun b hb => by cases hb) ?_ (fun d hd => ?_) ?_ ?_
  · obtain ⟨m, h⟩ := c.ns; exact ⟨m, h.keeps x.keep⟩
  · obtain ⟨v, h⟩ := c.cl d hd; exact ⟨v, h.keeps x.keep⟩
  · obtain ⟨vs, m, h, r⟩ := c.acc; exact ⟨vs, m, x.keep _ _ h, r.mono x.le⟩
  · exact H.frame _ _ _ _ _ c.j x.le fun b _ o e => x.keep b o e
/-- the iterator's own step -/
theorem CI.next {J' : Nat → Wd → Heap → Prop} {i' : Nat} (c : CI Γ W₀ s₀ C D oc wr J i ds W s) (S : CS s₀ C D oc wr fp) (H : It Γ I wr fp its J) (x : PSw Γ wr W s W' s') (j : J' i' W' s'.heap) : CI Γ W₀ s₀ C D oc wr J' i' ds W' s' := by
  refine c.step S H x (fun b hb => .inr (.inr (.inr hb))) ?_ (fun d hd => ?_) ?_ j
  · obtain ⟨m, h⟩ := c.ns; exact ⟨m, h.at' fun o e => x.keep _ o (fun q => S.Cf (H.sub _ q)) e⟩
  · obtain ⟨v, o, h, q⟩ := c.cl d hd; exact ⟨v, o, x.keep _ _ (fun q => S.of d hd (H.sub _ q)) h, q⟩
  · obtain ⟨vs, m, h, r⟩ := c.acc; exact ⟨vs, m, x.keep _ _ (fun q => S.Df (H.sub _ q)) h, r.mono x.le⟩
/-- a store of the frame's -/
theorem CI.put {b : Addr} {h' : Heap} {tk : Nat} (c : CI Γ W₀ s₀ C D oc wr J i ds W s) (S : CS s₀ C D oc wr fp) (H : It Γ I wr fp its J) (hb : b = C ∨ b ∈ oc) (hs : Heap.SameBut b s.heap h') (ht : s.toks ≤ tk) (ns : ∃ m, h'.Ns C m) (cl : ∀ c ∈ oc, ∃ v, h'.IsCell c v) :
    CI Γ W₀ s₀ C D oc wr J i ds W { s with heap := h', toks := tk } := by
  have hb' : b = C ∨ b = D ∨ b ∈ oc ∨ b ∈ wr := by rcases hb with h | h; exact .inl h; exact .inr (.inr (.inl h))
  have hbD : D ≠ b := by
    rcases hb with rfl | h
    · exact fun e => S.CD e.symm
    · rintro rfl; exact S.Do h
  have hbf : b ∉ fp := by
    rcases hb with rfl | h
    · exact S.Cf
    · exact S.of b h
  refine c.step S H (PSw.off (wr := [b]) c.ps.st (fun d hd => by rw [List.mem_singleton.mp hd]; exact c.g b hb') (one_off hs) ht) (fun d hd => by rw [List.mem_singleton.mp hd]; exact hb') ns cl ?_ ?_
  · obtain ⟨vs, m, h, r⟩ := c.acc; exact ⟨vs, m, hs.extBut _ _ hbD h, r⟩
  · exact H.frame _ _ _ _ _ c.j (.refl _) fun d hd o e => hs.extBut d o (fun q => hbf (q ▸ hd)) e
/-- the new list grows -/
theorem CI.push {h' : Heap} {vs : List Value} {m m' : Nat} {v : Value} {d : Mine.D} (c : CI Γ W₀ s₀ C D oc wr J i ds W s) (S : CS s₀ C D oc wr fp) (H : It Γ I wr fp its J) (hD : s.heap.get? D = some (lsObj vs m)) (hr : RepL W vs ds) (hs : Heap.SameBut D s.heap h') (hn : h'.get? D = some (lsObj (vs ++ [v]) m')) (hv : Rep W v d) :
    CI Γ W₀ s₀ C D oc wr J i (ds ++ [d]) W { s with heap := h' } := by
  have hb' : D = C ∨ D = D ∨ D ∈ oc ∨ D ∈ wr := .inr (.inl rfl)
  refine c.step S H (PSw.off (wr := [D]) (tk := s.toks) c.ps.st (fun d hd => by rw [List.mem_singleton.mp hd]; exact c.g D hb') (one_off hs) (Nat.le_refl _)) (fun d hd => by rw [List.mem_singleton.mp hd]; exact hb') ?_ (fun d hd => ?_) ⟨_, _, hn, hr.append (.one hv)⟩ ?_
  · obtain ⟨m, h⟩ := c.ns; exact ⟨m, h.sameBut hs S.CD⟩
  · obtain ⟨v, h⟩ := c.cl d hd; exact ⟨v, h.sameBut hs (by rintro rfl; exact S.Do hd)⟩
  · exact H.frame _ _ _ _ _ c.j (.refl _) fun d hd o e => hs.extBut d o (fun q => S.Df (q ▸ hd)) e

/-- the slots within -/
theorem CI.rd {scope : Scope} {ts frs : List Str} {e : Env} {σf σt : List (Option Sl)} (c : CI Γ W₀ s₀ C D oc wr J i ds W s) (ce : CEnv fm scope ts frs e C oc) (R : Rd Γ fm σ W₀ s₀) (hsc : ∀ y ∈ frs, fm.sc.names.lookup y = some .cell)
    (hf : ∀ (i : Nat) (y : Str) (sl : Sl), frs[i]? = some y → σf[i]? = some (some sl) → Lk fm.ns σ y sl) (hlen : ts.length = σt.length)
    (ht : ∀ (i : Nat) (x : Str) (sl : Sl), ts[i]? = some x → σt[i]? = some (some sl) → ∃ v, VarAt e s.heap x v ∧ SlR W s.heap v sl) : Rd Γ (F3 e (relS scope fm.sc) (ts ++ frs)) (σt ++ σf) W s := by
  refine ⟨c.ps.st, ce.ok, fun i x sl h1 h2 => ?_⟩
  by_cases hi : i < ts.length
  · rw [List.getElem?_append_left hi] at h1
    rw [List.getElem?_append_left (hlen ▸ hi)] at h2
    exact ht i x sl h1 h2
  · have hi' : ts.length ≤ i := Nat.le_of_not_lt hi
    rw [List.getElem?_append_right hi'] at h1
    rw [List.getElem?_append_right (hlen ▸ hi'), ← hlen] at h2
    have hm : x ∈ frs := List.mem_of_getElem? h1
    obtain ⟨v, hv, hs⟩ := R.lk (hf _ x sl h1 h2)
    refine ⟨v, ?_, hs.ps c.ps⟩
    obtain ⟨k1, k2⟩ := ce.fr x hm
    rcases hv with ⟨k, _⟩ | ⟨k, d, l, q⟩
    · have : fm.env.scope.names.lookup x = some .local := k
      rw [R.ok.sc, hsc x hm] at this; cases this
    · exact .inr ⟨k1, d, k2.trans l, q.keeps c.ps.keep⟩

/-- the target within -/
theorem CI.bind {scope : Scope} {ts frs : List Str} {e : Env} {tgt : Expr} {t : Itm} {v : Value} {Q : Unit → Shared → Prop} {E : Value → Shared → Prop} (tg : Tg tgt ts t) (c : CI Γ W₀ s₀ C D oc wr J i ds W s) (S : CS s₀ C D oc wr fp) (H : It Γ I wr fp its J) (hA : A.handled = none) (ce : CEnv fm scope ts frs e C oc)
    (hv : match t with | .one d => Rep W v d | .two d e => ∃ T a b, v = .ref T ∧ s.heap.IsTuple T #[a, b] ∧ Rep W a d ∧ Rep W b e)
    (k : ∀ s', CI Γ W₀ s₀ C D oc wr J i ds W s' → (∀ (i : Nat) (x : Str) (sl : Sl), ts[i]? = some x → t.sl[i]? = some (some sl) → ∃ v, VarAt e s'.heap x v ∧ SlR W s'.heap v sl) → Q () s') :
    wpAny (model Γ.prog Γ.w) A (assign tgt e v) Q E s := by
  have hk : e.scope.kind = .function := by rw [ce.ok.sc]; exact ce.ok.kind
  obtain ⟨m, hn⟩ := c.ns
  have hn' := hn
  rw [← ce.loc] at hn
  cases tg with
  | @one x p d =>
    refine wpAny_assign_Name ?_
    rcases ce.tg x (by simp) with hl | ⟨_, hl, d, hd, ho⟩
    · refine wpAny_storeName_local hl hn (fun h' hnn hs => ?_) (by rw [hk]; rfl)
      rw [ce.loc] at hs
      refine k _ (c.put S H (.inl rfl) hs (Nat.le_succ _) ⟨_, ce.loc ▸ hnn⟩ (fun d hd => ?_)) (fun i y sl h1 h2 => ?_)
      · obtain ⟨w, hw⟩ := c.cl d hd; exact ⟨w, hw.sameBut hs (by rintro rfl; exact S.Co hd)⟩
      · cases i with
        | zero => cases h1; cases h2; exact ⟨v, .inl ⟨hl, _, hnn, by simp⟩, hv⟩
        | succ i => simp at h1
    · obtain ⟨w, hw⟩ := c.cl d ho
      refine wpAny_storeName_cell hk hl hd hw (fun h' hc hs => ?_)
      have hCd : C ≠ d := by rintro rfl; exact S.Co ho
      refine k _ (c.put (tk := s.toks) S H (.inr ho) hs (Nat.le_refl _) ⟨m, hn'.sameBut hs hCd⟩ (fun d' hd' => ?_)) (fun i y sl h1 h2 => ?_)
      · by_cases q : d' = d
        · subst q; exact ⟨_, hc⟩
        · obtain ⟨w, hw⟩ := c.cl d' hd'; exact ⟨w, hw.sameBut hs q⟩
      · cases i with
        | zero => cases h1; cases h2; exact ⟨v, .inr ⟨hl, d, hd, hc⟩, hv⟩
        | succ i => simp at h1
  | @two x y p q r kk d e' =>
    obtain ⟨T, a, b, rfl, hT, ha, hb⟩ := hv
    have hxl : e.kindOf x = some .local := by
      rcases ce.tg x (by simp) with h | ⟨h, _⟩
      · exact h
      · simp at h
    have hyl : e.kindOf y = some .local := by
      rcases ce.tg y (by simp) with h | ⟨h, _⟩
      · exact h
      · simp at h
    have hxy : x ≠ y := by
      have hnd : ([x, y] ++ frs).Nodup := ce.ok.nd
      rintro rfl
      simp at hnd
    refine wpAny_assign_Tuple hA hT rfl rfl fun h₃ hx₃ => ?_
    have up₃ : ∀ b o, s.heap.get? b = some o → h₃.get? b = some o := fun b o x => hx₃ b o (Nat.ne_of_lt (Heap.lt_size x)) x
    have c₃ : CI Γ W₀ s₀ C D oc wr J i ds W { s with heap := h₃, toks := s.toks } := c.quiet S H (.ext c.ps.st up₃ (Nat.le_refl _))
    have hn₃ := hn.keeps up₃
    show wpAny _ A (do holding [b] (assign (.Name _ _) e a); holding [] (assign (.Name _ _) e b); pure ()) _ _ _
    refine wpAny_bind (wpAny_holding (wpAny_assign_Name (wpAny_storeName_local hxl hn₃ (fun h₄ hn₄ hs₄ => ?_) (by rw [hk]; rfl))))
    have hs₄' := hs₄
    rw [ce.loc] at hs₄'
    have c₄ : CI Γ W₀ s₀ C D oc wr J i ds W { s with heap := h₄, toks := s.toks + 1 } := c₃.put S H (.inl rfl) hs₄' (Nat.le_succ _) ⟨_, ce.loc ▸ hn₄⟩ (fun d hd => by
      obtain ⟨w, hw⟩ := c₃.cl d hd; exact ⟨w, hw.sameBut hs₄' (by rintro rfl; exact S.Co hd)⟩)
    refine wpAny_bind (wpAny_holding (wpAny_assign_Name (wpAny_storeName_local hyl hn₄ (fun h₅ hn₅ hs₅ => wpAny_pure ?_) (by rw [hk]; rfl))))
    have hs₅' := hs₅
    rw [ce.loc] at hs₅'
    refine k _ (c₄.put S H (.inl rfl) hs₅' (Nat.le_succ _) ⟨_, ce.loc ▸ hn₅⟩ (fun d hd => by
      obtain ⟨w, hw⟩ := c₄.cl d hd; exact ⟨w, hw.sameBut hs₅' (by rintro rfl; exact S.Co hd)⟩)) (fun i z sl h1 h2 => ?_)
    match i, h1, h2 with
    | 0, h1, h2 => cases h1; cases h2; exact ⟨a, .inl ⟨hxl, _, hn₅, by simp [hxy]⟩, ha⟩
    | 1, h1, h2 => cases h1; cases h2; exact ⟨b, .inl ⟨hyl, _, hn₅, by simp⟩, hb⟩
    | i + 2, h1, h2 => simp at h1

theorem filterMap_snoc {α β : Type} (f : α → Option β) (l : List α) (i : Nat) (t : α) (h : l[i]? = some t) : (l.take (i + 1)).filterMap f = (l.take i).filterMap f ++ (match f t with | some y => [y] | none => []) := by
  rw [List.take_add_one, h, List.filterMap_append]
  cases hp : f t <;> simp [hp]
end
end Mine
end
section
namespace Mine

/-- the names that a comprehension reads from outside -/
inductive Lks (ns : List Str) (σ : List (Option Sl)) : List Str → List (Option Sl) → Prop
  | nil : Lks ns σ [] []
  | cons {y : Str} {sl : Sl} {frs : List Str} {σf : List (Option Sl)} : Lk ns σ y sl → Lks ns σ frs σf → Lks ns σ (y :: frs) (some sl :: σf)
theorem Lks.at {ns : List Str} {σ : List (Option Sl)} {frs : List Str} {σf : List (Option Sl)} (h : Lks ns σ frs σf) : ∀ (i : Nat) (y : Str) (sl : Sl), frs[i]? = some y → σf[i]? = some (some sl) → Lk ns σ y sl := by
  induction h with
  | nil => intro i y sl h; simp at h
  | cons a _ ih =>
    intro i y sl h1 h2
    cases i with
    | zero => cases h1; cases h2; exact a
    | succ i => exact ih i y sl h1 h2
theorem Lks.ex {ns : List Str} {σ : List (Option Sl)} {frs : List Str} {σf : List (Option Sl)} (h : Lks ns σ frs σf) : ∀ y ∈ frs, ∃ sl, Lk ns σ y sl := by
  induction h with
  | nil => intro y hy; cases hy
  | cons a _ ih =>
    intro y hy
    rcases List.mem_cons.mp hy with e | hy
    · exact ⟨_, e ▸ a⟩
    · exact ih y hy

section
variable {Γ : Cx} {n : Nat} {fm : Fm} {σ σ' : List (Option Sl)} {pos p : Pos} {W : Wd} {s : Shared} {A : Around} {its : List Itm}

theorem comp_core {elt target iter : Expr} {ifs : List Expr} {scope : Scope} {ts frs : List Str} {σf : List (Option Sl)} {use : Option (Value → Sem Unit)} {Q : Value → Shared → Prop} {E : Value → Shared → Prop} (f : Itm → Option D) (hA : AOk n A) (R : Rd Γ fm σ W s) (hok : compOk scope fm.sc ts frs = true)
    (hi : EvIt Γ true n fm σ iter its) (hf : Lks fm.ns σ frs σf) (htg : ∀ t ∈ its, Tg target ts t) (hlen : ∀ t ∈ its, ts.length = t.sl.length) (hb : ∀ t ∈ its, ∀ e, CB Γ n (F3 e (relS scope fm.sc) (ts ++ frs)) (t.sl ++ σf) ifs elt (f t)) (hsz : its.length ≤ 100000)
    (hs : ∀ x, foldedSetIterable iter fm.env x = pure x)
    (fin : ∀ W' s' D C, PS Γ W s W' s' → Res W' s s' (.ref D) (.own (its.filterMap f)) → (∃ m, s'.heap.Ns C m) → s.heap.get? C = none → W'.G C = none → C ≠ D → compPost (model Γ.prog Γ.w) A E use Q (.ref D) C (.ok .next) s') :
    wpAny (model Γ.prog Γ.w) A (comprehension (.ListComp elt [⟨target, iter, ifs, 0⟩] scope pos) scope fm.env p (newList []) false (eval iter fm.env) use) Q E s := by
  have hok' := hok
  simp only [compOk, Bool.and_eq_true, List.all_eq_true, beq_iff_eq, Bool.or_eq_true, bne_iff_ne, ne_eq, decide_eq_true_eq, List.contains_iff_mem] at hok
  obtain ⟨⟨⟨⟨⟨⟨h1, h2⟩, h3⟩, h4⟩, h5⟩, h6⟩, h7⟩ := hok
  have hcell : ∀ y ∈ frs, ∃ c v, fm.env.cells.lookup y = some c ∧ s.heap.IsCell c (some v) := fun y hy => by
    obtain ⟨sl, k⟩ := hf.ex y hy
    obtain ⟨v, hv, _⟩ := R.lk k
    rcases hv with ⟨k, _⟩ | ⟨k, d, l, q⟩
    · have : fm.env.scope.names.lookup y = some .local := k
      rw [R.ok.sc, (h5 y hy).1.1.1] at this; cases this
    · exact ⟨d, v, l, q⟩
  let cs : Str → Addr := fun y => (fm.env.cells.lookup y).getD 0
  have hcs : ∀ y ∈ frs, fm.env.cells.lookup y = some (cs y) := fun y hy => by
    obtain ⟨c, v, l, _⟩ := hcell y hy
    show _ = some ((fm.env.cells.lookup y).getD 0)
    rw [l]; rfl
  have hclos : closureFor scope fm.env = pure (clOf cs scope.names []) := closureFor_of fun q hq hk => hcs _ ((h4 q hq).resolve_left (fun h => h hk))
  refine wpAny_comprehension_free (g := ⟨target, iter, ifs, 0⟩) (gs := []) rfl hs hclos h1 (fun q hq hl => (h3 q hq).resolve_left (fun h => h hl)) ?_
  refine wpAny_mono (hi A W s hA R) (fun x s₁ q => wpAny_mono q (fun it s₂ q => ?_) fun _ _ f => f.elim) fun _ _ f => f.elim
  obtain ⟨I, wr, fp, J, W₂, rfl, x, H, j, fr, _, alf⟩ := q
  refine wpAny_newList ?_
  refine newEnvC ?_
  generalize hH : s₂.heap.push { cls := .type "list", data := .seq ([] : List Value).toArray } = H₃
  have hsz₃ : H₃.objs.size = s₂.heap.objs.size + 1 := by rw [← hH, Heap.size_push]
  have up₃ : ∀ b o, s₂.heap.get? b = some o → H₃.get? b = some o := fun b o e => by rw [← hH]; exact Heap.get?_push_of_some _ e
  have hD₃ : H₃.get? s₂.heap.objs.size = some (lsObj [] 0) := by rw [← hH]; exact Heap.get?_push_size _ rfl
  generalize hH4 : H₃.push { cls := .type "dict", data := .dict #[] } = H₄
  have hsz₄ : H₄.objs.size = s₂.heap.objs.size + 2 := by rw [← hH4, Heap.size_push, hsz₃]
  have up₄ : ∀ b o, H₃.get? b = some o → H₄.get? b = some o := fun b o e => by rw [← hH4]; exact Heap.get?_push_of_some _ e
  have hN₄ : H₄.Ns (s₂.heap.objs.size + 1) (fun _ => none) := by rw [← hH4, ← hsz₃]; exact Heap.Ns.new _ _
  dsimp only
  have up₅ := pushCells_keeps scope.names H₄
  generalize hcells : cellsFrom (H₃.objs.size + 1) scope.names (clOf cs scope.names []) = cells
  rw [hsz₃, ← hsz₄] at hcells
  -- the own cells
  have hoc : ∃ oc : List Addr, (∀ c ∈ oc, s₂.heap.objs.size + 2 ≤ c ∧ (pushCells H₄ scope.names).IsCell c none) ∧ ∀ x ∈ ts, (relS scope fm.sc).names.lookup x = some .local ∨ (ts.length = 1 ∧ (relS scope fm.sc).names.lookup x = some .cell ∧ ∃ c, cells.lookup x = some c ∧ c ∈ oc) := by
    by_cases hc : ∃ x, ts = [x] ∧ (x, NameKind.cell) ∈ scope.names ∧ (relS scope fm.sc).names.lookup x = some .cell
    · obtain ⟨x, rfl, hm, hl⟩ := hc
      obtain ⟨c, c1, c2, c3⟩ := cellsFrom_new x scope.names H₄ (clOf cs scope.names []) hm
      rw [hcells] at c1
      refine ⟨[c], fun d hd => ?_, fun y hy => ?_⟩
      · rw [List.mem_singleton.mp hd]; exact ⟨hsz₄ ▸ c2, c3⟩
      · rw [List.mem_singleton.mp hy]; exact .inr ⟨rfl, hl, c, c1, by simp⟩
    · refine ⟨[], fun d hd => (by cases hd), fun x hx => ?_⟩
      rcases h6 x hx with h | ⟨⟨a, b⟩, c⟩
      · exact .inl h
      · refine absurd ⟨x, ?_, c, b⟩ hc
        match ts, a, hx with
        | [y], _, hx => rw [List.mem_singleton.mp hx]
  obtain ⟨oc, oc1, oc2⟩ := hoc
  rw [hsz₃]
  generalize he : ({ scope := relabel scope fm.env, locals := s₂.heap.objs.size + 1, globals := fm.env.globals, cells := cells, qual := fm.env.qual, func := none, code := fm.env.code, frame := fm.env.frame, builtins := fm.env.builtins } : Env) = e
  have hesc : e.scope = relS scope fm.sc := by rw [← he]; show relS scope fm.env.scope = _; rw [R.ok.sc]
  have ce : CEnv fm scope ts frs e (s₂.heap.objs.size + 1) oc := by
    refine ⟨⟨hesc, h2, by rw [← he]; exact R.ok.globals, by rw [← he]; exact R.ok.builtins, h7⟩, by rw [← he], fun y hy => ⟨?_, ?_⟩, fun x hx => ?_⟩
    · show e.scope.names.lookup y = _
      rw [hesc]; exact (h5 y hy).1.1.2
    · have : e.cells = cells := by rw [← he]
      rw [this, ← hcells, cellsFrom_old y _ _ _ (fun p hp e1 e2 => ((h5 y hy).2 p hp).elim (fun h => h e1) fun h => h e2), clOf_lookup cs y scope.names [] (.inl (h5 y hy).1.2), hcs y hy]
    · have : e.cells = cells := by rw [← he]
      rw [this]
      show e.scope.names.lookup x = _ ∨ (_ ∧ e.scope.names.lookup x = _ ∧ _)
      rw [hesc]; exact oc2 x hx
  have old : ∀ b, s₂.heap.objs.size ≤ b → s.heap.get? b = none := fun b h => by
    cases e : s.heap.get? b with
    | none => rfl
    | some o' => exact absurd (Heap.lt_size (x.keep _ _ e)) (Nat.not_lt.mpr h)
  have notfp : ∀ b, s₂.heap.objs.size ≤ b → b ∉ fp := fun b h hb => by
    obtain ⟨o, ho⟩ := alf b hb
    exact absurd (Heap.lt_size ho) (Nat.not_lt.mpr h)
  have S : CS s (s₂.heap.objs.size + 1) s₂.heap.objs.size oc wr fp := by
    refine ⟨fun b hb => ?_, Nat.succ_ne_self _, fun h => ?_, fun h => ?_, notfp _ (Nat.le_succ _), notfp _ (Nat.le_refl _), fun c hc => notfp _ (Nat.le_trans (Nat.le_add_right _ 2) (oc1 c hc).1)⟩
    · rcases hb with rfl | rfl | hb | hb
      · exact old _ (Nat.le_succ _)
      · exact old _ (Nat.le_refl _)
      · exact old _ (Nat.le_trans (Nat.le_add_right _ 2) (oc1 b hb).1)
      · exact (fr b hb).1
    · exact absurd (oc1 _ h).1 (Nat.not_le.mpr (Nat.lt_succ_self _))
    · exact absurd (oc1 _ h).1 (Nat.not_le.mpr (Nat.lt_succ_of_lt (Nat.lt_succ_self _)))
  have up : ∀ b o, s₂.heap.get? b = some o → (pushCells H₄ scope.names).get? b = some o := fun b o q => up₅ b o (up₄ b o (up₃ b o q))
  have c₀ : CI Γ W s (s₂.heap.objs.size + 1) s₂.heap.objs.size oc wr J 0 ((its.take 0).filterMap f) W₂ { s₂ with heap := pushCells H₄ scope.names, toks := s₂.toks } := by
    refine ⟨x.trans (.ext x.st up (Nat.le_refl _)), fun b hb => ?_, ⟨_, hN₄.keeps up₅⟩, fun c hc => ⟨_, (oc1 c hc).2⟩, ⟨[], 0, up₅ _ _ (up₄ _ _ hD₃), .nil⟩, H.frame _ _ _ _ _ j (.refl _) fun b _ o q => up b o q⟩
    rcases hb with rfl | rfl | hb | hb
    · exact (fresh_size x.st (Nat.le_succ _)).2
    · exact (fresh_size x.st (Nat.le_refl _)).2
    · exact (fresh_size x.st (Nat.le_trans (Nat.le_add_right _ 2) (oc1 b hb).1)).2
    · exact (fr b hb).2
  have loop : codeAny (model Γ.prog Γ.w) A (.compLoop (.ListComp elt [⟨target, iter, ifs, 0⟩] scope pos) 0 (.ref I) (.ref s₂.heap.objs.size) e) (compPost (model Γ.prog Γ.w) A E use Q (.ref s₂.heap.objs.size) (s₂.heap.objs.size + 1)) { s₂ with heap := pushCells H₄ scope.names, toks := s₂.toks } := by
    refine codeAny_compLoop_any (fun k s' => ∃ i W', i ≤ its.length ∧ k = its.length + 1 - i ∧ CI Γ W s (s₂.heap.objs.size + 1) s₂.heap.objs.size oc wr J i ((its.take i).filterMap f) W' s') ?_ (its.length + 1) ⟨0, W₂, Nat.zero_le _, rfl, c₀⟩
    rintro k s' ⟨i, W', hle, rfl, c⟩
    cases hit : its[i]? with
    | none =>
      have hlen : i = its.length := by
        have := List.getElem?_eq_none_iff.mp hit
        omega
      subst hlen
      refine wpAny_weak (wpAny_mono (H.done A W' s' hA.hh c.ps.st (fun b hb => c.g b (.inr (.inr (.inr hb)))) c.j) (fun r s₁ q => ?_) fun _ _ f => f)
      obtain ⟨rfl, W₃, x₃⟩ := q
      have c₃ := c.next (J' := fun _ _ _ => True) (i' := 0) S H x₃ trivial
      obtain ⟨vs, m, a1, a2⟩ := c₃.acc
      rw [List.take_length] at a2
      exact fin W₃ s₁ _ _ c₃.ps ⟨_, vs, m, rfl, c₃.g _ (.inr (.inl rfl)), S.new _ (.inr (.inl rfl)), a1, a2⟩ c₃.ns (S.new _ (.inl rfl)) (c₃.g _ (.inl rfl)) S.CD
    | some t =>
      have hlt : i < its.length := (List.getElem?_eq_some_iff.mp hit).1
      have hmem : t ∈ its := List.mem_of_getElem? hit
      have tg := htg t hmem
      -- after the target is bound
      have body : ∀ W₃ s₃, CI Γ W s (s₂.heap.objs.size + 1) s₂.heap.objs.size oc wr J (i + 1) ((its.take i).filterMap f) W₃ s₃ → (∀ (i : Nat) (x : Str) (sl : Sl), ts[i]? = some x → t.sl[i]? = some (some sl) → ∃ v, VarAt e s₃.heap x v ∧ SlR W₃ s₃.heap v sl) →
          wpAny (model Γ.prog Γ.w) A (forIn ifs true fun c r => if r = true then do let ok ← isTrue c e (eval c e); pure (ForInStep.yield ok) else pure (ForInStep.yield r)) (fun ok s₄ =>
            if ok = true then wpAny (model Γ.prog Γ.w) A (eval elt e) (fun x s₅ =>
              wpAny (model Γ.prog Γ.w) A (call (.builtin "list.append") [.ref s₂.heap.objs.size, x]) (fun _ s₆ => ∃ m, m < its.length + 1 - i ∧ (fun k s' => ∃ i W', i ≤ its.length ∧ k = its.length + 1 - i ∧ CI Γ W s (s₂.heap.objs.size + 1) s₂.heap.objs.size oc wr J i ((its.take i).filterMap f) W' s') m s₆) (fun _ _ => False) s₅) (fun _ _ => False) s₄
            else ∃ m, m < its.length + 1 - i ∧ (fun k s' => ∃ i W', i ≤ its.length ∧ k = its.length + 1 - i ∧ CI Γ W s (s₂.heap.objs.size + 1) s₂.heap.objs.size oc wr J i ((its.take i).filterMap f) W' s') m s₄) (fun _ _ => False) s₃ := by
        intro W₃ s₃ c₃ hb₃
        have rd := c₃.rd ce R (fun y hy => (h5 y hy).1.1.1) hf.at (hlen t hmem) hb₃
        obtain ⟨b, hts, hbt, hbf⟩ := hb t hmem e
        have tests : Pr Γ A W₃ s₃ (forIn ifs true fun c r => if r = true then do let ok ← isTrue c e (eval c e); pure (ForInStep.yield ok) else pure (ForInStep.yield r)) (fun ok _ _ => ok = b) := by
          cases hts with
          | nil => exact wpAny_tests_nil ⟨W₃, .refl c₃.ps.st, rfl⟩
          | one h => exact wpAny_tests_one (h A W₃ s₃ hA rd)
        refine tests.use fun ok W₄ s₄ x₄ q₄ => ?_
        subst q₄
        have c₄ := c₃.quiet S H x₄
        have hsn := filterMap_snoc f its i t hit
        cases ok with
        | false =>
          rw [if_neg (by decide)]
          rw [hbf rfl, List.append_nil] at hsn
          exact ⟨its.length + 1 - (i + 1), by omega, i + 1, W₄, hlt, rfl, by rw [hsn]; exact c₄⟩
        | true =>
          rw [if_pos rfl]
          obtain ⟨d, hd, he⟩ := hbt rfl
          rw [hd] at hsn
          refine (he A W₄ s₄ hA (rd.ps x₄)).use fun v W₅ s₅ x₅ p₅ => ?_
          have c₅ := c₄.quiet S H x₅
          obtain ⟨vs, m, a1, a2⟩ := c₅.acc
          refine wpAny_list_append_plain ⟨m, a1⟩ (fun h' hp hs => ?_) (by
            simp only [List.size_toArray]
            rw [a2.length]
            refine Nat.le_trans (List.length_filterMap_le _ _) (Nat.le_trans (List.length_take_le _ _) ?_)
            exact Nat.le_trans (Nat.le_trans hle hsz) (by decide))
          obtain ⟨m', hp⟩ := hp
          refine ⟨its.length + 1 - (i + 1), by omega, i + 1, W₅, hlt, rfl, ?_⟩
          rw [hsn]
          exact c₅.push S H a1 a2 hs (m' := m') (by rw [hp]; simp) p₅
      refine wpAny_weak (wpAny_mono (H.item i t A W' s' hit hA.hh c.ps.st (fun b hb => c.g b (.inr (.inr (.inr hb)))) c.j) (fun r s₁ q => ?_) fun _ _ f => f)
      obtain ⟨v, rfl, q⟩ := q
      have tg' := tg
      cases tg with
      | one =>
        obtain ⟨W₃, x₃, hv, j₃⟩ := q
        refine wpAny_of_eq (a := ()) rfl ?_
        exact wpAny_weak ((c.next S H x₃ j₃).bind tg' S H hA.hh ce hv fun s₄ c₄ hb₄ => wpAny_weak (wpAny_mono (body W₃ s₄ c₄ hb₄) (fun ok s₅ q => by
          cases ok with
          | false => exact q
          | true => exact wpAny_weak (wpAny_mono q (fun _ _ q => wpAny_weak q) fun _ _ f => f)) fun _ _ f => f))
      | two =>
        refine wpAny_weak (wpAny_mono (q _ _ _) (fun _ s₂' q => ?_) fun _ _ f => f)
        obtain ⟨T, a, b, W₃, rfl, ht, x₃, ha, hb', j₃⟩ := q
        exact wpAny_weak ((c.next S H x₃ j₃).bind tg' S H hA.hh ce ⟨T, a, b, rfl, ht, ha, hb'⟩ fun s₄ c₄ hb₄ => wpAny_weak (wpAny_mono (body W₃ s₄ c₄ hb₄) (fun ok s₅ q => by
          cases ok with
          | false => exact q
          | true => exact wpAny_weak (wpAny_mono q (fun _ _ q => wpAny_weak q) fun _ _ f => f)) fun _ _ f => f))
  refine codeAny_compStart_list loop ?_
  exact wpAny_weak (wpAny_mono (H.self 0 A W₂ _ c₀.ps.st c₀.j) (fun v s' q => by obtain ⟨rfl, rfl⟩ := q; exact loop) fun _ _ f => f)

/-- a list comprehension -/
theorem Ev.comp {elt target iter : Expr} {ifs : List Expr} {scope : Scope} {ts frs : List Str} {σf : List (Option Sl)} (f : Itm → Option D)
    (hi : EvIt Γ true n fm σ iter its) (hf : Lks fm.ns σ frs σf) (hok : compOk scope fm.sc ts frs = true) (htg : ∀ t ∈ its, Tg target ts t ∧ ts.length = t.sl.length) (hb : ∀ t ∈ its, ∀ e, CB Γ n (F3 e (relS scope fm.sc) (ts ++ frs)) (t.sl ++ σf) ifs elt (f t)) (hsz : its.length ≤ 100000)
    (hs : ∀ x env, foldedSetIterable iter env x = pure x := by intros; rfl) : Ev Γ n fm σ (.ListComp elt [⟨target, iter, ifs, 0⟩] scope pos) (.own (its.filterMap f)) := by
  intro A W s hA R
  rw [eval_ListComp]
  refine comp_core (use := none) f hA R hok hi hf (fun t h => (htg t h).1) (fun t h => (htg t h).2) hb hsz (fun x => hs x _) fun W' s' D C x r hn hC hG hne => ?_
  obtain ⟨m, hn⟩ := hn
  refine ⟨m, hn, fun h' hs' => ?_⟩
  obtain ⟨a, vs, m', e, r1, r2, r3, r4⟩ := r
  cases e
  refine ⟨W', x.psw (l := [C]) (fun b hb => by rw [List.mem_singleton.mp hb]; exact hC) (PSw.off (wr := [C]) (tk := s'.toks) x.st (fun b hb => by rw [List.mem_singleton.mp hb]; exact hG) (one_off hs') (Nat.le_refl _)), _, vs, m', rfl, r1, r2, hs'.extBut _ _ (Ne.symm hne) r3, r4⟩

theorem swaps_true {elt : Expr} {gens : List Comprehension} {scope : Scope} {cp px : Pos} {x : Str} {line : Nat} {env : Env} {sc : Scope} (h : env.scope = sc) (hk : (sc.kind == .function) = true) (hx : (sc.names.lookup x == some .local) = true) (hl : (px.line == cp.line) = true)
    (hn : (scope.names.any fun (n, k) => n == x && (k == .local || k == .cell)) = false) : swapsWith (.ListComp elt gens scope cp) (some (.Name x px)) line env = pure true := by
  show pure (env.blockKind == .function && env.kindOf x == some .local && px.line == cp.line && !(scope.names.any fun (n, k) => n == x && (k == .local || k == .cell))) = _
  unfold Env.blockKind Env.kindOf
  rw [h, hn, hl, hx]
  have : sc.kind = .function := by simpa using hk
  rw [this]; rfl
theorem swaps_false {elt : Expr} {gens : List Comprehension} {scope : Scope} {cp px : Pos} {x : Str} {line : Nat} {env : Env} {sc : Scope} (h : env.scope = sc) (hx : (sc.names.lookup x == some .local) = false) : swapsWith (.ListComp elt gens scope cp) (some (.Name x px)) line env = pure false := by
  show pure (env.blockKind == .function && env.kindOf x == some .local && px.line == cp.line && !(scope.names.any fun (n, k) => n == x && (k == .local || k == .cell))) = _
  unfold Env.kindOf
  rw [h, hx]; simp

/-- «x = [comprehension]», x in the frame's own namespace -/
theorem Ex1.assignComp {elt target iter : Expr} {ifs : List Expr} {scope : Scope} {ts frs : List Str} {σf : List (Option Sl)} {x : Str} {px cp : Pos} (f : Itm → Option D)
    (hi : EvIt Γ true n fm σ iter its) (hf : Lks fm.ns σ frs σf) (hok : compOk scope fm.sc ts frs = true) (htg : ∀ t ∈ its, Tg target ts t ∧ ts.length = t.sl.length) (hb : ∀ t ∈ its, ∀ e, CB Γ n (F3 e (relS scope fm.sc) (ts ++ frs)) (t.sl ++ σf) ifs elt (f t)) (hsz : its.length ≤ 100000)
    (up : Up fm.ns σ x (.own (its.filterMap f)) σ') (hx : (fm.sc.names.lookup x == some .local) = true) (hl : (px.line == cp.line) = true) (hn : (scope.names.any fun (n, k) => n == x && (k == .local || k == .cell)) = false) (hp : fm.pin = none ∨ fm.ns.head? ≠ some x := by first | exact .inl rfl | exact .inr (by decide))
    (hs : ∀ x env, foldedSetIterable iter env x = pure x := by intros; rfl) : Ex1 Γ n fm σ (.Assign [.Name x px] (.ListComp elt [⟨target, iter, ifs, 0⟩] scope cp) pos) (fun o => o = .next σ') := by
  intro A gh W s hA R
  rw [exec_Assign_Name_used _ _ _ _ (swaps_true R.rd.ok.sc (by rw [R.rd.ok.kind]; rfl) hx hl hn)]
  refine wpAny_bind (wpAny_standAt (wpAny_bind ?_))
  show wpAny _ A (do let _ ← comprehension (.ListComp elt [⟨target, iter, ifs, 0⟩] scope cp) scope fm.env _ (newList []) false (eval iter fm.env) (some (PySem.assign (.Name x px) fm.env))) _ _ s
  refine wpAny_bind (wpAny_mono (comp_core (use := some (PySem.assign (.Name x px) fm.env)) (Q := fun _ s' => ∃ W', Sat Γ gh fm σ' W' s') f hA R.rd hok hi hf (fun t h => (htg t h).1) (fun t h => (htg t h).2) hb hsz (fun x => hs x _) fun W' s' D C xx r hn hC hG hne => ?_)
    (fun _ s' hq => wpAny_pure (wpAny_pure (by obtain ⟨W', R'⟩ := hq; exact ⟨W', _, rfl, rfl, R'⟩))) fun _ _ e => e)
  have R₁ := R.ps xx
  obtain ⟨m, hn⟩ := hn
  have ap : Off [C] gh fm σ W' s' := by
    refine ⟨fun b hb => ?_, fun b hb => by rw [List.mem_singleton.mp hb]; exact hG, fun b hb q => ?_⟩
    · rw [List.mem_singleton.mp hb]
      cases e : gh.F C with
      | none => rfl
      | some o => have := R.pf.keep C o e; rw [hC] at this; cases this
    · rw [List.mem_singleton.mp hb] at q
      have m' : Mut fm σ s.heap C := by
        rcases q with e | e | ⟨i, y, ds, h1, h2, h3⟩
        · exact .inl e
        · exact .inr (.inl e)
        · obtain ⟨v, hv, _⟩ := R.rd.vars i y _ h1 h2
          have e := VarAt.back xx.keep hv h3
          subst e
          exact .inr (.inr ⟨i, y, ds, h1, h2, hv⟩)
      obtain ⟨o, ho⟩ := R.mutAlive m'
      rw [hC] at ho; cases ho
  have al : Live [C] s' := fun b hb => by
    rw [List.mem_singleton.mp hb]
    obtain ⟨o, _, _, e, _⟩ := hn; exact ⟨o, e⟩
  have f0 := R.fresh xx r
  refine wpAny_assign_Name ((R₁.guard ap).store up f0.1 hp (fun ds a e1 e2 => ?_) fun s'' R'' => ?_)
  · obtain ⟨g1, g2⟩ := f0.2 ds a e1 e2
    refine ⟨?_, fun q => ?_⟩
    · show (if a ∈ [C] then s'.heap.get? a else gh.F a) = none
      cases e2
      rw [if_neg (by simpa using Ne.symm hne)]
      exact g1
    · refine g2 ?_
      rcases q with e | e | ⟨i, y, ds, h1, h2, h3⟩
      · exact .inl e
      · exact .inr (.inl e)
      · exact .inr (.inr ⟨i, y, ds, h1, h2, h3⟩)
  · obtain ⟨R₂, ap₂⟩ := R₁.unguard ap al R''
    have hn₂ : s''.heap.Ns C m := hn.at' fun o e => guard_keep R''.pf C (by simp) o e
    refine ⟨m, hn₂, fun h' hs' => ?_⟩
    have al₂ : Live [C] s'' := fun b hb => by
      rw [List.mem_singleton.mp hb]
      obtain ⟨o, _, _, e, _⟩ := hn₂; exact ⟨o, e⟩
    exact ⟨W', (R₂.psw ap₂ al₂ (PSw.off (wr := [C]) (tk := s''.toks) R₂.rd.st ap₂.G (one_off hs') (Nat.le_refl _))).1⟩
end
end Mine
end
section
namespace Mine

def fnOk (f : FD) (ps ns : List Str) : Bool :=
  f.scope.kind == .function && !f.scope.isCoroutine && !f.scope.isGenerator && decide ns.Nodup && ps.isPrefixOf ns && ns.all (fun x => f.scope.names.lookup x == some .local || (f.scope.names.lookup x == some .cell && f.scope.names.contains (x, .cell)))

theorem bindL_keep {kindOf : Str → Option NameKind} {x : Str} : ∀ (bs : List (Str × Value)) (m : Str → Option Value), (∀ p ∈ bs, p.1 ≠ x) → bindL kindOf bs m x = m x
  | [], m, _ => rfl
  | (n, v) :: r, m, h => by
    unfold bindL
    rw [bindL_keep r _ fun p hp => h p (List.mem_cons_of_mem _ hp)]
    have hne : x ≠ n := fun e => h (n, v) List.mem_cons_self e.symm
    split
    · simp only [if_neg hne]
    · rfl
theorem bindC_keep {kindOf : Str → Option NameKind} {x : Str} : ∀ (bs : List (Str × Value)) (m : Str → Option Value), (∀ p ∈ bs, p.1 ≠ x) → bindC kindOf bs m x = m x
  | [], m, _ => rfl
  | (n, v) :: r, m, h => by
    unfold bindC
    rw [bindC_keep r _ fun p hp => h p (List.mem_cons_of_mem _ hp)]
    have hne : x ≠ n := fun e => h (n, v) List.mem_cons_self e.symm
    split
    · rfl
    · simp only [if_neg hne]
theorem bindL_get {kindOf : Str → Option NameKind} : ∀ (ps : List Str) (vs : List Value) (m : Str → Option Value) (i : Nat) (x : Str) (v : Value), ps.Nodup → ps[i]? = some x → vs[i]? = some v → kindOf x = some .local → bindL kindOf (ps.zip vs) m x = some v
  | [], _, m, i, x, v, _, h1, _, _ => by simp at h1
  | y :: ps, [], m, i, x, v, _, _, h2, _ => by simp at h2
  | y :: ps, u :: vs, m, i, x, v, hn, h1, h2, hk => by
    rw [List.zip_cons_cons]
    unfold bindL
    cases i with
    | zero =>
      have e1 : y = x := by simpa using h1
      have e2 : u = v := by simpa using h2
      subst e1 e2
      rw [bindL_keep _ _ (fun p hp => by
        intro e
        exact (List.nodup_cons.mp hn).1 (e ▸ (List.of_mem_zip hp).1)), if_pos hk]
      simp
    | succ i => exact bindL_get ps vs _ i x v (List.nodup_cons.mp hn).2 (by simpa using h1) (by simpa using h2) hk
theorem bindC_get {kindOf : Str → Option NameKind} : ∀ (ps : List Str) (vs : List Value) (m : Str → Option Value) (i : Nat) (x : Str) (v : Value), ps.Nodup → ps[i]? = some x → vs[i]? = some v → ¬ kindOf x = some .local → bindC kindOf (ps.zip vs) m x = some v
  | [], _, m, i, x, v, _, h1, _, _ => by simp at h1
  | y :: ps, [], m, i, x, v, _, _, h2, _ => by simp at h2
  | y :: ps, u :: vs, m, i, x, v, hn, h1, h2, hk => by
    rw [List.zip_cons_cons]
    unfold bindC
    cases i with
    | zero =>
      have e1 : y = x := by simpa using h1
      have e2 : u = v := by simpa using h2
      subst e1 e2
      rw [bindC_keep _ _ (fun p hp => by
        intro e
        exact (List.nodup_cons.mp hn).1 (e ▸ (List.of_mem_zip hp).1)), if_neg hk]
      simp
    | succ i => exact bindC_get ps vs _ i x v (List.nodup_cons.mp hn).2 (by simpa using h1) (by simpa using h2) hk

section
variable {Γ : Cx} {n : Nat} {fm : Fm} {σ σ' : List (Option Sl)} {pos p : Pos} {W : Wd} {s : Shared} {A : Around} {gh : Gh}

def Binds (f : FD) (ps : List Str) : Prop := ∀ pm cd doc vs, vs.length = ps.length → bindArgs (Calls.docDef f.name f.params f.body f.scope pm cd doc) ⟨vs, []⟩ = pure (ps.zip vs)

theorem call_core {f : FD} {a : Addr} {ps ns : List Str} {σ₀ : List (Option Sl)} {pin : Option (Addr × (List D → Prop))} {Φ : Out → Prop} {vals : List Value} {Q : Value → Shared → Prop} {E : Value → Shared → Prop}
    (hf : FnAt Γ f a) (hok : fnOk f ps ns = true) (hbind : Binds f ps) (hA : AOk (n + 3) A) (st : St Γ W s) (pf : PF gh W s) (hF : ∀ b, s.heap.get? b = none → gh.F b = none) (hlen : vals.length = ps.length)
    (hσ : ∀ (i : Nat) (sl : Sl), σ₀[i]? = some (some sl) → ∃ v, vals[i]? = some v ∧ SlR W s.heap v sl)
    (hown : ∀ (i : Nat) ds b, σ₀[i]? = some (some (.own ds)) → vals[i]? = some (.ref b) → i = 0 ∧ gh.F b = none) (hpin : ∀ b P, pin = some (b, P) → vals[0]? = some (.ref b))
    (body : ∀ env, Ex Γ n ⟨env, f.scope, ns, pin⟩ σ₀ f.body Φ)
    (k : ∀ env W' s' fl o, Φ o → Post Γ gh ⟨env, f.scope, ns, pin⟩ W' s' fl o → Q (match fl with | .ret v => v | _ => .none) s') : wpAny (model Γ.prog Γ.w) A (call (.ref a) vals) Q E s := by
  simp only [fnOk, Bool.and_eq_true, beq_iff_eq, Bool.not_eq_true', List.all_eq_true, Bool.or_eq_true, decide_eq_true_eq, List.contains_iff_mem] at hok
  obtain ⟨⟨⟨⟨⟨h1, h2⟩, h3⟩, h4⟩, h5⟩, h6⟩ := hok
  have hpre : ps <+: ns := List.isPrefixOf_iff_prefix.mp h5
  obtain ⟨rest, hns⟩ := hpre
  have hpsn : ps.Nodup := (List.nodup_append.mp (hns ▸ h4)).1
  have psat : ∀ (i : Nat) x, i < ps.length → ns[i]? = some x → ps[i]? = some x := fun i x hi e => by
    rw [← hns, List.getElem?_append_left hi] at e; exact e
  obtain ⟨o, pm, cd, doc, f1, f2, f3⟩ := hf.ob
  have hkind : ∀ x ∈ ps.zip vals, f.scope.names.lookup x.1 = some .local ∨ (f.scope.names.lookup x.1 = some .cell ∧ ((cellsFrom (s.heap.objs.size + 1) f.scope.names []).lookup x.1).isSome = true) := fun x hx => by
    have hm : x.1 ∈ ns := by rw [← hns]; exact List.mem_append_left _ (List.of_mem_zip hx).1
    rcases h6 x.1 hm with h | ⟨h, h'⟩
    · exact .inl h
    · refine .inr ⟨h, ?_⟩
      obtain ⟨c, hc, _⟩ := cellsFrom_new x.1 f.scope.names (s.heap.push { cls := .type "frame", data := .dict #[] }) [] h'
      rw [Heap.size_push] at hc
      rw [hc]; rfl
  refine wpAny_call ?_
  refine codeAny_call_function (fd := Calls.docDef f.name f.params f.body f.scope pm cd doc) hA.room (st.keepB _ _ f1) f2 h2 h3 rfl (f3.keeps st.keepB) ?_
  rw [hbind pm cd doc vals hlen]
  refine wpAny_pure ?_
  refine wpAny_mono (wpAny_toks_of (Nat.le_refl _) (wpAny_newFunctionEnv_cells (s := s) (E := fun _ _ => False) (Q := fun env s' => env = newEnv f.scope s.heap.objs.size mainGlobals (cellsFrom (s.heap.objs.size + 1) f.scope.names []) (f.name ++ ".<locals>.") (some a) cd none builtinsNs ∧ InCallC s env.locals (bindL env.kindOf (ps.zip vals) fun _ => none) env.cells (bindC env.kindOf (ps.zip vals) fun _ => none) s') h1 hkind fun env he s' x => ⟨he, x⟩)) (fun env s₁ q => ?_) fun _ _ f => f.2.elim
  obtain ⟨htk, he, X⟩ := q
  refine ⟨(st.gb.nolimit.keeps st.keepB).keeps X.toInCall.keep, codeAny_func ?_⟩
  have hA' : AOk n (A.deeper env) := ⟨hA.hh, by have := hA.depth; show A.depth + 1 + n ≤ 700; omega, by have := hA.units; show A.units + 3 + n ≤ 2000; omega⟩
  have xs : PS Γ W s W s₁ := by
    obtain ⟨h', tk, e⟩ := X.toInCall.same
    have hk := X.toInCall.keep
    subst e
    exact .ext st hk htk
  have hesc : env.scope = f.scope := by rw [he]; rfl
  have hL : env.locals = s.heap.objs.size := by rw [he]; rfl
  have hcs : env.cells = cellsFrom (s.heap.objs.size + 1) f.scope.names [] := by rw [he]; rfl
  have fresh : ∀ b, s.heap.objs.size ≤ b → gh.F b = none ∧ W.G b = none := fun b hb => by
    obtain ⟨g1, g2⟩ := fresh_size st hb
    exact ⟨hF b g1, g2⟩
  have hcell : ∀ x c, env.cells.lookup x = some c → s.heap.objs.size ≤ c := fun x c h => by
    have := X.above x c (mem_of_lookup h)
    rw [hL] at this
    exact Nat.le_of_lt this
  have kinds : ∀ (i : Nat) (x : Str), ns[i]? = some x → env.kindOf x = some .local ∨ (env.kindOf x = some .cell ∧ ∃ c, env.cells.lookup x = some c) := fun i x e => by
    show env.scope.names.lookup x = _ ∨ (env.scope.names.lookup x = _ ∧ _)
    rw [hesc, hcs]
    rcases h6 x (List.mem_of_getElem? e) with h | ⟨h, h'⟩
    · exact .inl h
    · refine .inr ⟨h, ?_⟩
      obtain ⟨c, hc, _⟩ := cellsFrom_new x f.scope.names (s.heap.push { cls := .type "frame", data := .dict #[] }) [] h'
      rw [Heap.size_push] at hc
      exact ⟨c, hc⟩
  have va : ∀ (i : Nat) (x : Str) v, ns[i]? = some x → vals[i]? = some v → VarAt env s₁.heap x v := fun i x v e1 e2 => by
    have hi : i < ps.length := by rw [← hlen]; exact (List.getElem?_eq_some_iff.mp e2).1
    have e1' := psat i x hi e1
    rcases kinds i x e1 with hk | ⟨hk, c, hc⟩
    · exact .inl ⟨hk, _, X.toInCall.ns, bindL_get ps vals _ i x v hpsn e1' e2 hk⟩
    · refine .inr ⟨hk, c, hc, ?_⟩
      have := X.cell x c hc
      rw [bindC_get ps vals _ i x v hpsn e1' e2 (by rw [hk]; decide)] at this
      exact this
  have mt : ∀ b, Mut ⟨env, f.scope, ns, pin⟩ σ₀ s₁.heap b → gh.F b = none ∧ W.G b = none := fun b m => by
    rcases m with e | ⟨x, e⟩ | ⟨i, x, ds, e1, e2, e3⟩
    · rw [e]; exact fresh _ (by show _ ≤ env.locals; rw [hL]; exact Nat.le_refl _)
    · exact fresh _ (hcell x b e)
    · obtain ⟨v, hv, hs⟩ := hσ i _ e2
      have := (va i x v e1 hv).inj e3
      subst this
      obtain ⟨b', vs, m, eb, hG, _⟩ := hs
      cases eb
      exact ⟨(hown i ds b e2 hv).2, hG⟩
  have sat : Sat Γ gh ⟨env, f.scope, ns, pin⟩ σ₀ W s₁ := by
    refine ⟨⟨xs.st, ⟨hesc, h1, by rw [he]; rfl, by rw [he]; rfl, h4⟩, fun i x sl e1 e2 => ?_⟩, pf.ps xs, fun b m => (mt b m).1, fun b m => (mt b m).2, ⟨_, X.toInCall.ns⟩, fun x c e => ⟨_, X.cell x c e⟩, fun x y c e1 e2 => name_of_addr X.apart (mem_of_lookup e1) (mem_of_lookup e2), kinds, fun i j x y dx dy b hij e1 e2 e3 e4 e5 e6 => ?_, fun b x ds p1 p2 p3 => va 0 x _ p2 (hpin b.1 b.2 p1)⟩
    · obtain ⟨v, hv, hs⟩ := hσ i sl e2
      exact ⟨v, va i x v e1 hv, hs.ps xs⟩
    · obtain ⟨v, hv, hs⟩ := hσ i _ e3
      obtain ⟨v', hv', hs'⟩ := hσ j _ e4
      obtain ⟨b1, _, _, rfl, _⟩ := hs
      obtain ⟨b2, _, _, rfl, _⟩ := hs'
      exact hij ((hown i dx b1 e3 hv).1.trans (hown j dy b2 e4 hv').1.symm)
  refine wpAny_mono (body env (A.deeper env) gh W s₁ hA' sat) (fun fl s' q => ?_) fun _ _ f => f.elim
  obtain ⟨W', o', ho, p⟩ := q
  exact k env W' s' fl o' ho p

theorem ArsR.ds {h : Heap} {vs : List Value} {ds : List D} (x : ArsR W h vs (ds.map Ar.d)) : ∀ (i : Nat) (d : D), ds[i]? = some d → ∃ v, vs[i]? = some v ∧ Rep W v d := fun i d hd => (arsD x).get hd

/-- a function whose arguments are data -/
theorem Fn.mk {f : FD} {ps ns : List Str} {ds : List D} {σ₀ : List (Option Sl)} {sl : Sl} (hok : fnOk f ps ns = true) (hbind : Binds f ps) (hlen : ds.length = ps.length) (hσ : ∀ (i : Nat) (q : Sl), σ₀[i]? = some (some q) → ∃ d, ds[i]? = some d ∧ q = .fr d)
    (body : ∀ env, Ex Γ n (F3 env f.scope ns) σ₀ f.body (fun o => o = .ret sl)) (m : Nat) (hm : m = n + 3 := by rfl) : Fn Γ m f (ds.map Ar.d) sl := by
  subst hm
  intro a hf A W s vs hA st p
  have hl : vs.length = ds.length := (arsD p).length
  refine call_core (gh := Gh.of W s) (pin := none) hf hok hbind hA st (.refl W s) (fun b h => h) (hl.trans hlen) (fun i q e => ?_) (fun i es b e1 e2 => ?_) (fun b P h => by cases h) body fun env W' s' fl o ho q => ?_
  · obtain ⟨d, hd, rfl⟩ := hσ i q e
    obtain ⟨v, hv, hr⟩ := p.ds i d hd
    exact ⟨v, hv, hr⟩
  · obtain ⟨d, hd, e⟩ := hσ i _ e1
    cases e
  · subst ho
    obtain ⟨v, rfl, pf, st', r, _⟩ := q
    refine ⟨W', ⟨pf, st'⟩, ?_⟩
    cases sl with
    | fr d => exact r
    | own es => obtain ⟨b, us, m, e1, e2, e3, e4⟩ := r; exact ⟨b, us, m, e1, e2, e3, e4⟩
/-- a function that ends with no return -/
theorem Fn.mkNone {f : FD} {ps ns : List Str} {ds : List D} {σ₀ : List (Option Sl)} {σ' : List (Option Sl)} (hok : fnOk f ps ns = true) (hbind : Binds f ps) (hlen : ds.length = ps.length) (hσ : ∀ (i : Nat) (q : Sl), σ₀[i]? = some (some q) → ∃ d, ds[i]? = some d ∧ q = .fr d)
    (body : ∀ env, Ex Γ n (F3 env f.scope ns) σ₀ f.body (fun o => o = .next σ')) (m : Nat) (hm : m = n + 3 := by rfl) : Fn Γ m f (ds.map Ar.d) (.fr .none) := by
  subst hm
  intro a hf A W s vs hA st p
  have hl : vs.length = ds.length := (arsD p).length
  refine call_core (gh := Gh.of W s) (pin := none) hf hok hbind hA st (.refl W s) (fun b h => h) (hl.trans hlen) (fun i q e => ?_) (fun i es b e1 e2 => ?_) (fun b P h => by cases h) body fun env W' s' fl o ho q => ?_
  · obtain ⟨d, hd, rfl⟩ := hσ i q e
    obtain ⟨v, hv, hr⟩ := p.ds i d hd
    exact ⟨v, hv, hr⟩
  · obtain ⟨d, hd, e⟩ := hσ i _ e1
    cases e
  · subst ho
    obtain ⟨rfl, R⟩ := q
    exact ⟨W', ⟨R.pf, R.rd.st⟩, .none⟩

/-- a function that writes the list that it is handed first -/
def FnO (Γ : Cx) (m : Nat) (f : FD) (ds : List D) (as : List D) (ds' : List D) (d : D) : Prop := ∀ a, FnAt Γ f a → ∀ A W s b vs k us, AOk m A → St Γ W s → W.G b = none → s.heap.get? b = some (lsObj vs k) → RepL W vs ds → RepL W us as →
  wpAny (model Γ.prog Γ.w) A (call (.ref a) (.ref b :: us)) (fun r s' => ∃ W' vs' k', PSw Γ [b] W s W' s' ∧ W'.G b = none ∧ s'.heap.get? b = some (lsObj vs' k') ∧ RepL W' vs' ds' ∧ Rep W' r d) (fun _ _ => False) s

theorem pf_psw {b : Addr} {W' : Wd} {s' : Shared} {vs : List Value} {k : Nat} (hb : s.heap.get? b = some (lsObj vs k)) (hG : W.G b = none) (pf : PF ⟨fun c => if c = b then none else s.heap.get? c, W, s⟩ W' s') (st : St Γ W' s') (hG' : W'.G b = none) : PSw Γ [b] W s W' s' := by
  refine ⟨fun c o hc e => pf.keep c o ?_, pf.le, fun c o e => ?_, pf.toks, pf.rest, st⟩
  · show (if c = b then none else s.heap.get? c) = some o
    rw [if_neg (by simpa using hc)]; exact e
  · rcases pf.sep c o e with h | h
    · exact .inl h
    · have h' : (if c = b then none else s.heap.get? c) = none := h
      by_cases q : c = b
      · subst q; rw [hG'] at e; cases e
      · rw [if_neg q] at h'; exact .inr h'

theorem FnO.mk {f : FD} {x : Str} {ps ns : List Str} {ds ds' as : List D} {σ₀ : List (Option Sl)} {d : D} (hok : fnOk f (x :: ps) (x :: ns) = true) (hbind : Binds f (x :: ps)) (hlen : as.length = ps.length) (hσ : ∀ (i : Nat) (q : Sl), σ₀[i]? = some (some q) → ∃ d, as[i]? = some d ∧ q = .fr d)
    (body : ∀ env b, Ex Γ n ⟨env, f.scope, x :: ns, some (b, fun es => es = ds')⟩ (some (.own ds) :: σ₀) f.body (fun o => (∃ τ, o = .next (some (.own ds') :: τ) ∧ d = .none) ∨ o = .ret (.fr d))) (m : Nat) (hm : m = n + 3 := by rfl) : FnO Γ m f ds as ds' d := by
  subst hm
  intro a hf A W s b vs k us hA st hG hb hr hu
  have hl : us.length = as.length := hu.length
  refine call_core (gh := ⟨fun c => if c = b then none else s.heap.get? c, W, s⟩) (pin := some (b, fun es => es = ds')) hf hok hbind hA st ⟨fun c o e => ?_, .refl W, fun c o e => .inl e, Nat.le_refl _, rfl⟩ (fun c h => ?_) (by simp [hl, hlen]) (fun i q e => ?_) (fun i es c e1 e2 => ?_) (fun c P h => by cases h; rfl) (fun env => body env b) fun env W' s' fl o ho q => ?_
  · have e' : (if c = b then none else s.heap.get? c) = some o := e
    by_cases q : c = b
    · rw [if_pos q] at e'; cases e'
    · rw [if_neg q] at e'; exact e'
  · show (if c = b then none else s.heap.get? c) = none
    split
    · rfl
    · exact h
  · cases i with
    | zero => cases e; exact ⟨_, rfl, b, vs, k, rfl, hG, hb, hr⟩
    | succ i =>
      obtain ⟨d, hd, rfl⟩ := hσ i q e
      obtain ⟨v, hv, hr'⟩ := hu.get hd
      exact ⟨v, hv, hr'⟩
  · cases i with
    | zero => cases e2; refine ⟨rfl, ?_⟩; show (if b = b then none else _) = none; rw [if_pos rfl]
    | succ i =>
      obtain ⟨d, hd, e⟩ := hσ i _ e1
      cases e
  · rcases ho with ⟨τ, rfl, rfl⟩ | rfl
    case inr =>
      obtain ⟨v, rfl, pf, st', r, pn⟩ := q
      obtain ⟨es, vs', k', rfl, h2, h3, h4⟩ := pn b _ rfl
      exact ⟨W', vs', k', pf_psw hb hG pf st' h2, h2, h3, h4, r⟩
    obtain ⟨rfl, R⟩ := q
    have hx := R.pin (b, _) x ds' rfl rfl rfl
    obtain ⟨v, h1, c, vs', k', rfl, h2, h3, h4⟩ := R.rd.vars 0 x _ rfl rfl
    have := h1.inj hx
    cases this
    exact ⟨W', vs', k', pf_psw hb hG R.pf R.rd.st h2, h2, h3, h4, .none⟩

/-- the caller's list after such a call -/
theorem Sat.setOwnW {x : Str} {ds es : List D} {b : Addr} {vs us : List Value} {m m' : Nat} {W' : Wd} {s' : Shared} (R : Sat Γ gh fm σ W s) (up : Up fm.ns σ x (.own es) σ') (k : Lk fm.ns σ x (.own ds)) (hx : VarAt fm.env s.heap x (.ref b))
    (ho : s.heap.get? b = some (lsObj vs m)) (xx : PSw Γ [b] W s W' s') (hG' : W'.G b = none) (ho' : s'.heap.get? b = some (lsObj us m')) (hr : RepL W' us es) : Sat Γ gh fm σ' W' s' := by
  have hs := (Heap.SameBut.update s'.heap b (fun _ => lsObj vs m) : Heap.SameBut b s'.heap (s'.heap.update b fun _ => lsObj vs m))
  have hb : (s'.heap.update b (fun _ => lsObj vs m)).get? b = some (lsObj vs m) := Heap.get?_update_self _ ho' rfl
  have x₂ : PS Γ W s W' { s' with heap := s'.heap.update b (fun _ => lsObj vs m), toks := s'.toks } := by
    have h2 := xx.rest
    refine ⟨⟨fun c o e => ?_, xx.le, fun c o e => xx.sep c o e, xx.toks, by rw [h2]⟩, ⟨xx.st.gb, xx.st.base, fun c o e => ?_, xx.st.tok, xx.st.pos⟩⟩
    · by_cases q : c = b
      · subst q
        have e' : s.heap.get? c = some o := e
        rw [ho] at e'; cases e'; exact hb
      · exact (hs.2 c q).trans (xx.keep c o (by simpa using q) e)
    · have q : c ≠ b := by rintro rfl; rw [hG'] at e; cases e
      exact (hs.2 c q).trans (xx.st.sub c o e)
  have R₂ := R.ps x₂
  have hs' : Heap.SameBut b (s'.heap.update b (fun _ => lsObj vs m)) s'.heap := ⟨hs.1.symm, fun c hc => (hs.2 c hc).symm⟩
  exact R₂.setOwn (tk := s'.toks) (h' := s'.heap) up k (hx.keeps x₂.keep) hb hs' (Nat.le_refl _) ho' hr
end
end Mine
end
section
namespace Mine

section
variable {Γ : Cx} {n m : Nat} {fm : Fm} {σ σ' σ'' : List (Option Sl)} {pos p : Pos} {W : Wd} {s : Shared} {A : Around} {gh : Gh}

theorem fcallO {f : FD} {a : Addr} {x y : Str} {np xp : Pos} {es : List Expr} {ds ds' as : List D} {d : D} {Q : Value → Shared → Prop} {E : Value → Shared → Prop} (R : Sat Γ gh fm σ W s) (hA : AOk n A) (hf : FnAt Γ f a) (hn : f.name = y) (hk : fm.sc.names.lookup y = some .globalImplicit) (hd : (y == ("__debug__" : Str)) = false)
    (k : Lk fm.ns σ x (.own ds)) (hdx : (x == ("__debug__" : Str)) = false) (ha : EvAs Γ n fm σ es (as.map Ar.d)) (ho : FnO Γ m f ds as ds' d) (hm : m ≤ n) (up : Up fm.ns σ x (.own ds') σ')
    (he : ∀ env, starEach (.Name x xp :: es) env = (false, eval (.Name x xp) env) :: starEach es env)
    (K : ∀ r W' s', Sat Γ gh fm σ' W' s' → Rep W' r d → Q r s') : wpAny (model Γ.prog Γ.w) A (eval (.Call (.Name y np) (.Name x xp :: es) [] pos) fm.env) Q E s := by
  refine Call_ (load_glob R.rd hk (hn ▸ hf.mg) ?_ hd)
  obtain ⟨o, pm, cd, doc, h1, h2, h3⟩ := hf.ob
  obtain ⟨b, vs, k', hx, hb, hr⟩ := R.own k
  have hG : W.G b = none := by
    obtain ⟨i, k1, k2⟩ := k
    exact R.mutG b (.inr (.inr ⟨i, x, ds, k1, k2, hx⟩))
  refine callWith_def (o := o) h2 (args_cons (wpAny_Name (load_var R.rd.kindF hx ?_) hdx) (he _)) (he _)
  refine (ha A W s pos hA R.rd).use fun us W₁ s₁ x₁ p₁ => ⟨x₁.st.keepB _ _ h1, ?_⟩
  have hb₁ := x₁.keep _ _ hb
  refine wpAny_weak (wpAny_mono (ho a hf A W₁ s₁ b vs k' us (hA.mono hm) x₁.st (x₁.fresh hb hG) hb₁ (hr.mono x₁.le) (arsD p₁)) (fun r s' q => ?_) fun _ _ f => f)
  obtain ⟨W', vs', k'', xx, hG', hb', hr', hd'⟩ := q
  exact K r W' s' ((R.ps x₁).setOwnW up k (hx.keeps x₁.keep) hb₁ xx hG' hb' hr') hd'

/-- «f(x, ...)» alone on its line -/
theorem Ex1.callO {f : FD} {a : Addr} {x y : Str} {np xp cp : Pos} {es : List Expr} {ds ds' as : List D} (hf : FnAt Γ f a) (hn : f.name = y) (hk : fm.sc.names.lookup y = some .globalImplicit) (hd : (y == ("__debug__" : Str)) = false)
    (k : Lk fm.ns σ x (.own ds)) (hdx : (x == ("__debug__" : Str)) = false) (ha : EvAs Γ n fm σ es (as.map Ar.d)) (ho : FnO Γ m f ds as ds' .none) (up : Up fm.ns σ x (.own ds') σ') (hm : m ≤ n := by decide)
    (he : ∀ env, starEach (.Name x xp :: es) env = (false, eval (.Name x xp) env) :: starEach es env := by intro; rfl) :
    Ex1 Γ n fm σ (.Expr (.Call (.Name y np) (.Name x xp :: es) [] cp) pos) (fun o => o = .next σ') := by
  intro A gh W s hA R
  have hi : interactive fm.env = false := by
    unfold interactive
    rw [R.rd.kindF]; rfl
  refine wpAny_Expr_any ?_ hi (by rfl)
  refine fcallO R hA hf hn hk hd k hdx ha ho hm up he fun r W' s' R' hr => ?_
  exact ⟨W', _, rfl, rfl, R'⟩
/-- «z = f(x, ...)» -/
theorem Ex1.assignO {f : FD} {a : Addr} {x y z : Str} {np xp cp zp : Pos} {es : List Expr} {ds ds' as : List D} {d : D} (hf : FnAt Γ f a) (hn : f.name = y) (hk : fm.sc.names.lookup y = some .globalImplicit) (hd : (y == ("__debug__" : Str)) = false)
    (k : Lk fm.ns σ x (.own ds)) (hdx : (x == ("__debug__" : Str)) = false) (ha : EvAs Γ n fm σ es (as.map Ar.d)) (ho : FnO Γ m f ds as ds' d) (up : Up fm.ns σ x (.own ds') σ') (up' : Up fm.ns σ' z (.fr d) σ'') (hm : m ≤ n := by decide)
    (he : ∀ env, starEach (.Name x xp :: es) env = (false, eval (.Name x xp) env) :: starEach es env := by intro; rfl) (hp : fm.pin = none ∨ fm.ns.head? ≠ some z := by first | exact .inl rfl | exact .inr (by decide)) :
    Ex1 Γ n fm σ (.Assign [.Name z zp] (.Call (.Name y np) (.Name x xp :: es) [] cp) pos) (fun o => o = .next σ'') := by
  intro A gh W s hA R
  refine wpAny_Assign_Name ?_ rfl
  refine fcallO R hA hf hn hk hd k hdx ha ho hm up he fun r W' s' R' hr => ?_
  exact R'.store up' (sl := .fr d) hr hp (fun ds a e => by cases e) fun s'' R'' => ⟨W', _, rfl, rfl, R''⟩

/-- a call's value let go -/
theorem Tr.text {e : Expr} {x : List Nat} (h : EvA Γ n fm σ e (.d (.raw x))) (hx : x.length ≤ 100000) (he : ∀ env whole, isTrue e env whole = (do let v ← whole; standAt e.pos; holding [v] (truthy v)) := by intros; rfl) : Tr Γ n fm σ e (!x.isEmpty) := by
  intro A W s hA R
  refine wpAny_isTrue_value ((h A W s hA R).use fun v W₁ s₁ x₁ p₁ => ?_) (he _ _)
  cases p₁ with
  | raw x t =>
    refine P.truthy_str (x := S x) ?_ ?_
    · rw [S_length]; omega
    · refine ⟨W₁, x₁.trans (.ext x₁.st (fun _ _ e => e) (Nat.le_trans (Nat.le_succ _) (Nat.le_succ _))), ?_⟩
      rw [S_length]
      cases x with
      | nil => rfl
      | cons c x =>
        show (((x.length + 1 : Nat) : Int) != 0) = _
        simp
        omega

/-- «x, y = (e, f)» -/
theorem Ex1.pair {x y : Str} {xp yp tp vp : Pos} {k kv : Nat} {e f : Expr} {d d' : D} (ha : EvAs Γ n fm σ [e, f] [.d d, .d d']) (up : Up fm.ns σ y (.fr d') σ') (up' : Up fm.ns σ' x (.fr d) σ'')
    (hw : ∀ env, env.scope = fm.sc → swappedStores [.Tuple [.Name x xp, .Name y yp] k tp] (.Tuple [e, f] kv vp) env = pure (some [x, y])) (hs : ∀ env, swapsWithSole [.Tuple [.Name x xp, .Name y yp] k tp] (.Tuple [e, f] kv vp) pos.line env = pure false := by intro; rfl)
    (hp : fm.pin = none := by rfl) : Ex1 Γ n fm σ (.Assign [.Tuple [.Name x xp, .Name y yp] k tp] (.Tuple [e, f] kv vp) pos) (fun o => o = .next σ'') := by
  intro A gh W s hA R
  refine Assign_Tuple_swapped (names := [x, y]) ?_ (hs _) (hw _ R.rd.ok.sc)
  show wpAny _ _ (do standAt vp; newTuple (← spliced (backTo vp (starEach [e, f] fm.env)))) _ _ s
  refine wpAny_bind (wpAny_standAt (wpAny_bind ((ha A W s vp hA R.rd).use fun vs W₂ s₂ x₂ p₂ => ?_)))
  obtain ⟨v, u, rfl, q1, q2⟩ := p₂.two
  refine wpAny_newTuple ?_
  have hT : Heap.IsTuple (s₂.heap.push { cls := .type "tuple", data := .seq ([v, u] : List Value).toArray }) s₂.heap.objs.size #[v, u] := ⟨_, Heap.get?_push_size _ rfl, rfl, _, rfl⟩
  refine wpAny_unpackItems_tuple (items := #[v, u]) hA.hh hT fun h₃ hx₃ => ?_
  have up₃ : ∀ b o, s₂.heap.get? b = some o → h₃.get? b = some o := fun b o q => hx₃ b o (by
    show b ≠ (s₂.heap.push _).objs.size
    rw [Heap.size_push]; exact Nat.ne_of_lt (Nat.lt_succ_of_lt (Heap.lt_size q))) (Heap.get?_push_of_some _ q)
  have R₃ := (R.ps x₂).ps (.ext (h' := h₃) (tk := s₂.toks) x₂.st up₃ (Nat.le_refl _))
  show wpAny _ _ (do holding [v] (bindName fm.env y u); holding [] (bindName fm.env x v); pure ()) _ _ _
  refine wpAny_bind (wpAny_holding (wpAny_bindName (R₃.store up (sl := .fr d') q2 (.inl hp) (fun ds a e => by cases e) fun s₄ R₄ => ?_)))
  refine wpAny_bind (wpAny_holding (wpAny_bindName (R₄.store up' (sl := .fr d) q1 (.inl hp) (fun ds a e => by cases e) fun s₅ R₅ => wpAny_pure ?_)))
  exact ⟨W₂, _, rfl, rfl, R₅⟩

abbrev nums (xs : List Int) : List D := xs.map D.int
abbrev tabl (xss : List (List Int)) : List D := xss.map fun xs => D.list (nums xs)

theorem nums_are {vs : List Value} {xs : List Int} (h : RepL W vs (nums xs)) : IntsAre vs xs := by
  induction xs generalizing vs with
  | nil => cases h; exact .nil
  | cons x xs ih =>
    cases h with
    | cons h r => cases h; exact .cons _ _ (ih r)
theorem tabl_reads {h : Heap} (hs : ∀ a o, W.G a = some o → h.get? a = some o) {vs : List Value} {xss : List (List Int)} (r : RepL W vs (tabl xss)) : ∃ as, ReadsAll h vs (xss.map fun xs => PyData.list (xs.map PyData.int)) as := by
  induction xss generalizing vs with
  | nil => cases r; exact ⟨_, .nil⟩
  | cons x xs ih =>
    cases r with
    | cons p r =>
      obtain ⟨as, q⟩ := ih r
      cases p with
      | list a us m ds hg hr => exact ⟨_, .cons (PySem.W.reads_of_ints (IsList.ls (hs _ _ hg)) (nums_are hr)) q⟩
theorem tabl_lay : ∀ xss : List (List Int), PyData.canLayAll0 (xss.map fun xs => PyData.list (xs.map PyData.int)) = true
  | [] => by simp [PyData.canLayAll0]
  | n :: r => by
    simp only [List.map_cons, PyData.canLayAll0, PyData.canLay0, tabl_lay r, PySem.W.canLayAll0_ints, Bool.and_self]
theorem tabl_depth : ∀ xss : List (List Int), PyData.depthAll (xss.map fun xs => PyData.list (xs.map PyData.int)) ≤ 3
  | [] => by simp [PyData.depthAll]
  | n :: r => by
    have := tabl_depth r
    have := PySem.W.depthAll_ints n
    simp only [List.map_cons, PyData.depthAll, PyData.depth]
    omega
theorem tabl_shaped (xss : List (List Int)) : SeqAt.shaped (.list (xss.map fun xs => PyData.list (xs.map PyData.int))) = true := by
  have h1 := tabl_depth xss
  have h2 : PyData.depth (.list (xss.map fun xs => PyData.list (xs.map PyData.int))) ≤ 64 := by simp only [PyData.depth]; omega
  show (PyData.canLay0 _ && decide (PyData.depth _ ≤ 64)) = true
  rw [Bool.and_eq_true]
  exact ⟨by simp only [PyData.canLay0]; exact tabl_lay xss, decide_eq_true h2⟩
theorem tabl_noMix : ∀ xss yss : List (List Int), SeqAt.noMixAll (xss.map fun xs => PyData.list (xs.map PyData.int)) (yss.map fun xs => PyData.list (xs.map PyData.int)) = true
  | [], [] => by simp [SeqAt.noMixAll]
  | [], _ :: _ => by simp [SeqAt.noMixAll]
  | _ :: _, [] => by simp [SeqAt.noMixAll]
  | _ :: r, _ :: q => by simp [SeqAt.noMixAll, SeqAt.noMix, PySem.W.noMix_ints, tabl_noMix r q]
theorem tabl_same : ∀ xss yss : List (List Int), PySem.Spec.sameAll (xss.map fun xs => PyData.list (xs.map PyData.int)) (yss.map fun xs => PyData.list (xs.map PyData.int)) = decide (xss = yss)
  | [], [] => by simp [PySem.Spec.sameAll]
  | [], _ :: _ => by simp [PySem.Spec.sameAll]
  | _ :: _, [] => by simp [PySem.Spec.sameAll]
  | n :: r, k :: q => by
    simp only [List.map_cons, PySem.Spec.sameAll, PySem.Spec.same, tabl_same r q, PySem.W.same_ints]
    by_cases h : n = k <;> simp [h]

theorem op_eqnums {xs ys : List Int} : Op2 Γ n (compareOp .Eq) (.l (nums xs)) (.l (nums ys)) (.fr (.bool (decide (xs = ys)))) := by
  intro A W s v u hA st p q
  obtain ⟨a, vs, m, rfl, ho, hr⟩ := p
  obtain ⟨b, us, k, rfl, ho', hr'⟩ := q
  exact PySem.W.eq_intsK (IsList.ls ho) (nums_are hr) (IsList.ls ho') (nums_are hr') (by have := hA.units; show A.units + 64 < 9900; omega) ⟨W, .refl st, .bool _⟩
theorem op_netabl {xs ys : List (List Int)} : Op2 Γ n (compareOp .NotEq) (.l (tabl xs)) (.l (tabl ys)) (.fr (.bool (!decide (xs = ys)))) := by
  intro A W s v u hA st p q
  obtain ⟨a, vs, m, rfl, ho, hr⟩ := p
  obtain ⟨b, us, k, rfl, ho', hr'⟩ := q
  obtain ⟨as, r1⟩ := tabl_reads st.sub hr
  obtain ⟨bs, r2⟩ := tabl_reads st.sub hr'
  refine ne_dataH_same (.list ho rfl rfl (by simpa using r1)) (.list ho' rfl rfl (by simpa using r2)) (tabl_shaped xs) (tabl_shaped ys) (by have := hA.units; show A.units + 64 < 9900; omega) (by simp only [SeqAt.noMix]; exact tabl_noMix xs ys) ?_
  simp only [PySem.Spec.same]
  rw [tabl_same]
  exact ⟨W, .refl st, .bool _⟩
end
end Mine
end
section
namespace Mine
def fdOf : Option Stmt → FD
  | some (.FunctionDef name params body _ _ _ scope _ _ _) => ⟨name, params, body, scope⟩
  | _ => ⟨"", ⟨[], [], none, [], [], none, []⟩, [], ⟨.function, [], false, false, []⟩⟩
abbrev defAt (i : Nat) : FD := fdOf (PySem.Challenge.pw_sw0014_01.main.body[i]?)
def fQuote : FD := defAt 5
def fEll : FD := defAt 8
def fLt : FD := defAt 10
def fGt : FD := defAt 11
def fAdd : FD := defAt 12
def fMul : FD := defAt 13
def fSub : FD := defAt 14
def fConcat : FD := defAt 15
def fCount : FD := defAt 16
def fGet : FD := defAt 17
def fIndex : FD := defAt 18
def fSet : FD := defAt 19
def fWords : FD := defAt 21
def fPay : FD := defAt 22
def fDue : FD := defAt 23
def fAfter : FD := defAt 24
def fSteps : FD := defAt 25
def fSolved : FD := defAt 26
def fLaw : FD := defAt 27
section
variable {Γ : Cx}
set_option maxHeartbeats 1000000
theorem binds_one {f : FD} {x : Str} (h : ∀ pm cd doc a, bindArgs (Calls.docDef f.name f.params f.body f.scope pm cd doc) ⟨[a], []⟩ = pure [(x, a)]) : Binds f [x] := by
  intro pm cd doc vs hl
  match vs, hl with
  | [a], _ => exact h pm cd doc a
theorem binds_two {f : FD} {x y : Str} (h : ∀ pm cd doc a b, bindArgs (Calls.docDef f.name f.params f.body f.scope pm cd doc) ⟨[a, b], []⟩ = pure [(x, a), (y, b)]) : Binds f [x, y] := by
  intro pm cd doc vs hl
  match vs, hl with
  | [a, b], _ => exact h pm cd doc a b
theorem binds_three {f : FD} {x y z : Str} (h : ∀ pm cd doc a b c, bindArgs (Calls.docDef f.name f.params f.body f.scope pm cd doc) ⟨[a, b, c], []⟩ = pure [(x, a), (y, b), (z, c)]) : Binds f [x, y, z] := by
  intro pm cd doc vs hl
  match vs, hl with
  | [a, b, c], _ => exact h pm cd doc a b c
theorem binds_four {f : FD} {x y z u : Str} (h : ∀ pm cd doc a b c e, bindArgs (Calls.docDef f.name f.params f.body f.scope pm cd doc) ⟨[a, b, c, e], []⟩ = pure [(x, a), (y, b), (z, c), (u, e)]) : Binds f [x, y, z, u] := by
  intro pm cd doc vs hl
  match vs, hl with
  | [a, b, c, e], _ => exact h pm cd doc a b c e
theorem slots_of : ∀ (ds : List D) (k : Nat) (i : Nat) (q : Sl), (ds.map (fun d => some (Sl.fr d)) ++ List.replicate k none)[i]? = some (some q) → ∃ d, ds[i]? = some d ∧ q = .fr d
  | [], k, i, q, h => by
    simp only [List.map_nil, List.nil_append] at h
    have := List.mem_of_getElem? h
    simp at this
  | d :: ds, k, 0, q, h => by cases h; exact ⟨d, rfl, rfl⟩
  | d :: ds, k, i + 1, q, h => slots_of ds k i q (by simpa using h)
/-- a name read -/
theorem EvA.nm {n : Nat} {env : Env} {sc : Scope} {ns : List Str} {pin : Option (Addr × (List D → Prop))} {σ : List (Option Sl)} {pos : Pos} {x : Str} {d : D} (k : Lk ns σ x (.fr d)) (hd : (x == ("__debug__" : Str)) = false := by kernel_rfl) : EvA Γ n ⟨env, sc, ns, pin⟩ σ (.Name x pos) (.d d) := EvA.d (Ev.name k hd)
theorem Ev.nm {n : Nat} {env : Env} {sc : Scope} {ns : List Str} {pin : Option (Addr × (List D → Prop))} {σ : List (Option Sl)} {pos : Pos} {x : Str} {d : D} (k : Lk ns σ x (.fr d)) (hd : (x == ("__debug__" : Str)) = false := by kernel_rfl) : Ev Γ n ⟨env, sc, ns, pin⟩ σ (.Name x pos) (.fr d) := Ev.name k hd

theorem walk_lt (a b : Int) : Fn Γ 10 fLt ([D.int a, D.int b].map Ar.d) (.fr (.bool (decide (a < b)))) := by
  refine Fn.mk (ps := ["a", "b"]) (ns := ["a", "b"]) (by kernel_rfl) (binds_two fun _ _ _ _ _ => by kernel_rfl) rfl (slots_of _ 0) (n := 7) (fun env => ?_) 10
  exact Ex.last (Ex1.ret (Ev.cmp (EvA.nm .here) (EvA.nm (.there .here)) op_lt) rfl)
theorem walk_gt (a b : Int) : Fn Γ 10 fGt ([D.int a, D.int b].map Ar.d) (.fr (.bool (decide (b < a)))) := by
  refine Fn.mk (ps := ["a", "b"]) (ns := ["a", "b"]) (by kernel_rfl) (binds_two fun _ _ _ _ _ => by kernel_rfl) rfl (slots_of _ 0) (n := 7) (fun env => ?_) 10
  exact Ex.last (Ex1.ret (Ev.cmp (EvA.nm .here) (EvA.nm (.there .here)) op_gt) rfl)
theorem walk_add (a b : Int) : Fn Γ 10 fAdd ([D.int a, D.int b].map Ar.d) (.fr (.int (a + b))) := by
  refine Fn.mk (ps := ["a", "b"]) (ns := ["a", "b"]) (by kernel_rfl) (binds_two fun _ _ _ _ _ => by kernel_rfl) rfl (slots_of _ 0) (n := 7) (fun env => ?_) 10
  exact Ex.last (Ex1.ret (Ev.bin (EvA.nm .here) (EvA.nm (.there .here)) op_add) rfl)
theorem walk_mul (a b : Int) (h : IntMulOk a b) : Fn Γ 10 fMul ([D.int a, D.int b].map Ar.d) (.fr (.int (a * b))) := by
  refine Fn.mk (ps := ["a", "b"]) (ns := ["a", "b"]) (by kernel_rfl) (binds_two fun _ _ _ _ _ => by kernel_rfl) rfl (slots_of _ 0) (n := 7) (fun env => ?_) 10
  exact Ex.last (Ex1.ret (Ev.bin (EvA.nm .here) (EvA.nm (.there .here)) (op_mul h)) rfl)
theorem walk_sub (a b : Int) : Fn Γ 10 fSub ([D.int a, D.int b].map Ar.d) (.fr (.int (a - b))) := by
  refine Fn.mk (ps := ["a", "b"]) (ns := ["a", "b"]) (by kernel_rfl) (binds_two fun _ _ _ _ _ => by kernel_rfl) rfl (slots_of _ 0) (n := 7) (fun env => ?_) 10
  exact Ex.last (Ex1.ret (Ev.bin (EvA.nm .here) (EvA.nm (.there .here)) op_sub) rfl)
theorem walk_get (ds : List D) (i : Nat) (d : D) (h : ds[i]? = some d) (hs : ds.length ≤ 100000) : Fn Γ 10 fGet ([D.list ds, D.int i].map Ar.d) (.fr d) := by
  refine Fn.mk (ps := ["a", "b"]) (ns := ["a", "b"]) (by kernel_rfl) (binds_two fun _ _ _ _ _ => by kernel_rfl) rfl (slots_of _ 0) (n := 7) (fun env => ?_) 10
  exact Ex.last (Ex1.ret (Ev.item (EvA.l (EvA.nm .here)) (EvA.nm (.there .here)) (by rw [if_neg (by omega)]; simpa using h) (by omega) hs) rfl)
/-- a letter of a text, by getitem -/
theorem walk_gets (x : List Nat) (i : Nat) (c : Nat) (h : x[i]? = some c) (hs : x.length ≤ 100000) : Fn Γ 10 fGet ([D.raw x, D.int i].map Ar.d) (.fr (.str [c])) := by
  refine Fn.mk (ps := ["a", "b"]) (ns := ["a", "b"]) (by kernel_rfl) (binds_two fun _ _ _ _ _ => by kernel_rfl) rfl (slots_of _ 0) (n := 7) (fun env => ?_) 10
  exact Ex.last (Ex1.ret (Ev.sign (EvA.nm .here) (EvA.nm (.there .here)) (by rw [if_neg (by omega)]; simpa using h) (by omega) hs) rfl)
theorem walk_set (ds : List D) (i : Nat) (d : D) (h : i < ds.length) (hs : ds.length ≤ 100000) : FnO Γ 10 fSet ds [.int i, d] (ds.set i d) .none := by
  refine FnO.mk (x := "a") (ps := ["b", "c"]) (ns := ["b", "c"]) (σ₀ := [some (.fr (.int i)), some (.fr d)]) (by kernel_rfl) (binds_three fun _ _ _ _ _ _ => by kernel_rfl) rfl (slots_of [.int i, d] 0) (n := 7) (fun env b => ?_) 10
  refine Ex.last ((Ex1.setItem (σ' := [some (.own (ds.set i d)), some (.fr (.int i)), some (.fr d)]) .here (Ev.nm (.there (.there .here))) (EvA.nm (.there .here)) .here h hs (by kernel_rfl)).mono ?_)
  rintro o rfl
  exact .inl ⟨_, rfl, rfl⟩
end
end Mine
end
section
namespace Mine
section
variable {Γ : Cx} {n : Nat} {fm : Fm} {σ σ' : List (Option Sl)} {pos : Pos} {Φ : Out → Prop}
set_option maxHeartbeats 1000000

theorem Lp.inv {tgt : Expr} {body orelse : List Stmt} {its : List Itm} (Inv : List Itm → List (Option Sl) → Prop) (h0 : Inv its σ)
    (step : ∀ t ts σ, Inv (t :: ts) σ → ∃ σ', Tk fm.pin fm.ns tgt t σ σ' ∧ Ex Γ n fm σ' body (fun o => match o with | .next τ => Inv ts τ | .cont τ => Inv ts τ | .brk τ => Φ (.next τ) | .ret sl => Φ (.ret sl)))
    (fin : ∀ σ, Inv [] σ → Ex Γ n fm σ orelse Φ) : Lp Γ n fm tgt body orelse Φ its σ := by
  induction its generalizing σ with
  | nil => exact fin σ h0
  | cons t ts ih =>
    obtain ⟨σ', tk, h⟩ := step t ts σ h0
    refine ⟨σ', tk, h.mono fun o p => ?_⟩
    cases o with
    | next τ => exact ih p
    | cont τ => exact ih p
    | brk τ => exact p
    | ret sl => exact p
theorem Ex.each {tgt iter : Expr} {body rest : List Stmt} {its : List Itm} (hi : EvIt Γ false n fm σ iter its) (Inv : List Itm → List (Option Sl) → Prop) (h0 : Inv its σ)
    (step : ∀ t ts σ, Inv (t :: ts) σ → ∃ σ', Tk fm.pin fm.ns tgt t σ σ' ∧ Ex Γ n fm σ' body (fun o => match o with | .next τ => Inv ts τ | .cont τ => Inv ts τ | .brk τ => False | .ret sl => Φ (.ret sl)))
    (fin : ∀ σ, Inv [] σ → Ex Γ n fm σ rest Φ) (hs : ∀ x env, foldedSetIterable iter env x = pure x := by intros; rfl) : Ex Γ n fm σ (.For tgt iter body [] pos :: rest) Φ :=
  Ex.cons (Ψ := fun o => match o with | .next τ => Inv [] τ | .ret sl => Φ (.ret sl) | _ => False) (Ex1.for_ hi (Lp.inv Inv h0 (fun t ts σ h => by
    obtain ⟨σ', tk, q⟩ := step t ts σ h
    refine ⟨σ', tk, q.mono fun o p => ?_⟩
    cases o with
    | next τ => exact p
    | cont τ => exact p
    | brk τ => exact p.elim
    | ret sl => exact p) fun σ h => Ex.nil h) hs) (fun τ h => fin τ h) (fun sl h => h) (fun τ h => h.elim) (fun τ h => h.elim)

/-- how often a sign stands in a text -/
def cnt (c : Nat) : List Nat → Int
  | [] => 0
  | d :: x => (if d == c then 1 else 0) + cnt c x

theorem walk_count (x : List Nat) (c : Nat) : Fn Γ 10 fCount ([D.raw x, D.str [c]].map Ar.d) (.fr (.int (cnt c x))) := by
  refine Fn.mk (ps := ["a", "b"]) (ns := ["a", "b", "count", "i"]) (by kernel_rfl) (binds_two fun _ _ _ _ _ => by kernel_rfl) rfl (slots_of _ 2) (n := 7) (fun env => ?_) 10
  refine Ex.seq (Ex1.assign Ev.cint (.there (.there .here))) ?_
  refine Ex.each (EvIt.text (EvA.nm .here)) (fun ts σ => ∃ y k o, ts = (signs y).map Itm.one ∧ σ = [some (.fr (.raw x)), some (.fr (.str [c])), some (.fr (.int k)), o] ∧ k + cnt c y = cnt c x) ⟨x, 0, none, rfl, rfl, by omega⟩ ?_ ?_
  · rintro t ts σ ⟨y, k, o, e1, rfl, e3⟩
    cases y with
    | nil => cases e1
    | cons d y =>
      cases e1
      refine ⟨_, .one (.there (.there (.there .here))) (.inl rfl), ?_⟩
      refine Ex.last (Ex1.if_ (Tr.isOrEq (x := [d]) (y := [c]) (Ev.nm (.there (.there (.there .here)))) (Ev.nm (.there .here)) (Ev.nm (.there (.there (.there .here)))) (Ev.nm (.there .here))) (fun h => ?_) (fun h => ?_))
      · refine Ex.last ((Ex1.aug (.there (.there .here)) (EvA.d Ev.cint) op_iadd (.there (.there .here))).mono ?_)
        rintro o rfl
        refine ⟨y, _, _, rfl, rfl, ?_⟩
        rw [← e3, cnt]
        have : (d == c) = true := by simpa using h
        rw [if_pos this]
        omega
      · refine Ex.nil ⟨y, _, _, rfl, rfl, ?_⟩
        rw [← e3, cnt]
        have : (d == c) = false := by simpa using h
        rw [this, if_neg (by decide)]
        omega
  · rintro σ ⟨y, k, o, e1, rfl, e3⟩
    cases y with
    | cons d y => cases e1
    | nil =>
      refine Ex.last (Ex1.ret (Ev.nm (.there (.there .here))) ?_)
      rw [← e3, cnt, Int.add_zero]
end
end Mine
end
section
namespace Mine
structure Bs (Γ : Cx) : Prop where
  len : BltAt Γ ("len" : Str) (.builtin "len")
  int : BltAt Γ ("int" : Str) (.type "int")
  enumerate : BltAt Γ ("enumerate" : Str) (.type "enumerate")
  zip : BltAt Γ ("zip" : Str) (.type "zip")
  range : BltAt Γ ("range" : Str) (.type "range")
  sum : BltAt Γ ("sum" : Str) (.builtin "sum")
  min : BltAt Γ ("min" : Str) (.builtin "min")
  hasattr : BltAt Γ ("hasattr" : Str) (.builtin "hasattr")
section
variable {Γ : Cx} {n : Nat} {fm : Fm} {σ σ' : List (Option Sl)} {pos : Pos} {Φ : Out → Prop}
set_option maxHeartbeats 1000000

def idx (x : List Nat) : Nat → List (List Nat) → Option Nat
  | _, [] => none
  | k, y :: ys => if y == x then some k else idx x (k + 1) ys

theorem walk_index (B : Bs Γ) (ys : List (List Nat)) (x : List Nat) (i : Nat) (h : idx x 0 ys = some i) : Fn Γ 10 fIndex ([D.list (ys.map D.str), D.str x].map Ar.d) (.fr (.int i)) := by
  refine Fn.mk (ps := ["a", "b"]) (ns := ["a", "b", "i", "j"]) (by kernel_rfl) (binds_two fun _ _ _ _ _ => by kernel_rfl) rfl (slots_of _ 2) (n := 7) (fun env => ?_) 10
  refine Ex.last (Ex1.for_ (EvIt.enum (by kernel_rfl) B.enumerate (EvA.nm .here)) (Lp.inv (fun ts σ => ∃ k zs o o', ts = enumIs k (zs.map D.str) ∧ σ = [some (.fr (.list (ys.map D.str))), some (.fr (.str x)), o, o'] ∧ idx x k zs = some i) ⟨0, ys, none, none, rfl, rfl, h⟩ ?_ ?_))
  · rintro t ts σ ⟨k, zs, o, o', e1, rfl, e3⟩
    cases zs with
    | nil => cases e1
    | cons z zs =>
      cases e1
      refine ⟨_, .two (.there (.there .here)) (.there (.there (.there .here))) (.inl rfl) (.inl rfl), ?_⟩
      refine Ex.last (Ex1.if_ (Tr.isOrEq (x := z) (y := x) (Ev.nm (.there (.there (.there .here)))) (Ev.nm (.there .here)) (Ev.nm (.there (.there (.there .here)))) (Ev.nm (.there .here))) (fun h => ?_) (fun h => ?_))
      · rw [idx, if_pos h] at e3
        cases e3
        exact Ex.last (Ex1.ret (Ev.nm (.there (.there .here))) rfl)
      · rw [idx, if_neg (by rw [h]; decide)] at e3
        exact Ex.nil ⟨k + 1, zs, _, _, rfl, rfl, e3⟩
  · rintro σ ⟨k, zs, o, o', e1, rfl, e3⟩
    cases zs with
    | nil => cases e3
    | cons z zs => cases e1
end
end Mine
end
section
namespace Mine
def dots : List Nat := [46, 46, 46]
def giName : List Nat := [95, 95, 103, 101, 116, 105, 116, 101, 109, 95, 95]
structure Gs (Γ : Cx) : Prop where
  ell : ∃ t, Γ.mg ("ELLIPSIS_MARKER" : Str) = some (.str ⟨dots.toArray⟩ t)
  crlf : ∃ t, Γ.mg ("CRLF" : Str) = some (.str ⟨#[13, 10]⟩ t)
def HasA (Γ : Cx) : Prop := ∀ n x, OpN Γ n (fun vs => call (.builtin "hasattr") vs) [.d (.raw x), .d (.raw giName)] (.fr (.bool true))
section
variable {Γ : Cx} {n : Nat} {fm : Fm} {σ σ' : List (Option Sl)} {pos : Pos} {Φ : Out → Prop}
set_option maxHeartbeats 1000000

theorem Ev.to {e : Expr} {sl sl' : Sl} (h : Ev Γ n fm σ e sl) (q : sl = sl') : Ev Γ n fm σ e sl' := q ▸ h
theorem EvA.to {e : Expr} {a b : Ar} (h : EvA Γ n fm σ e a) (q : a = b) : EvA Γ n fm σ e b := q ▸ h
theorem Tr.to {e : Expr} {a b : Bool} (h : Tr Γ n fm σ e a) (q : a = b) : Tr Γ n fm σ e b := q ▸ h

theorem op_isubs {a b : Int} : Op2 Γ n (inplaceOp .Sub) (.d (.int a)) (.d (.int b)) (.fr (.int (a - b))) := op_int fun A s u v Q h => PyProof.Rows.isub_int h
theorem walk_concat (B : Bs Γ) (H : HasA Γ) (x y : List Nat) (hs : x.length + y.length ≤ 100000) : Fn Γ 10 fConcat ([D.raw x, D.raw y].map Ar.d) (.fr (.raw (x ++ y))) := by
  refine Fn.mk (ps := ["a", "b"]) (ns := ["a", "b", "msg"]) (by kernel_rfl) (binds_two fun _ _ _ _ _ => by kernel_rfl) rfl (slots_of _ 1) (n := 7) (fun env => ?_) 10
  refine Ex.seq (Ex1.if_ (c := false) (Tr.not (c := true) (Tr.val (Ev.bcall (by kernel_rfl) B.hasattr (by kernel_rfl) (EvAs.cons (EvA.nm .here) (EvAs.cons (EvA.raw (EvA.d (Ev.cstr (y := giName) rfl))) EvAs.nil)) (H _ _)))) (fun h => by cases h) (fun _ => Ex.nil rfl)) ?_
  exact Ex.last (Ex1.ret (Ev.bin (EvA.nm .here) (EvA.nm (.there .here)) (op_sadd hs)) rfl)

/-- what _ellipsis_match needs of its texts -/
def ellOk (hd th : List Nat) : Bool := inS dots (dots ++ hd) && (splitS (dots ++ hd) dots == [[], hd]) && decide (hd.length ≤ 1000) && decide (th.length ≤ 1000) &&
  (if hd.isEmpty then find4 th [] 0 th.length == 0 else !(Txt.endswith (S th) (S hd)) || (decide (hd.length ≤ th.length) && find4 th [] 0 (th.length - hd.length : Int) == 0))
def ellB (hd th : List Nat) : Bool := hd.isEmpty || Txt.endswith (S th) (S hd)

theorem walk_ell (B : Bs Γ) (G : Gs Γ) (hd th : List Nat) (h : ellOk hd th = true) : Fn Γ 10 fEll ([D.raw (dots ++ hd), D.raw th].map Ar.d) (.fr (.bool (ellB hd th))) := by
  simp only [ellOk, Bool.and_eq_true, beq_iff_eq, decide_eq_true_eq] at h
  obtain ⟨⟨⟨⟨c1, c2⟩, c3⟩, c4⟩, c5⟩ := h
  obtain ⟨te, ge⟩ := G.ell
  have lw : (dots ++ hd).length ≤ 50000 := by rw [List.length_append]; show 3 + _ ≤ _; omega
  refine Fn.mk (ps := ["want", "got"]) (ns := ["want", "got", "ws", "startpos", "endpos", "w"]) (by kernel_rfl) (binds_two fun _ _ _ _ _ => by kernel_rfl) rfl (slots_of _ 4) (n := 7) (fun env => ?_) 10
  refine Ex.seq (Ex1.if_ (Tr.cmp (EvA.d (Ev.globStr (y := dots) (by kernel_rfl) ge (by kernel_rfl))) (EvA.nm .here) op_notin) (fun h => by rw [c1] at h; cases h) (fun _ => Ex.nil rfl)) ?_
  refine Ex.seq (Ex1.assign (sl := .own [.raw [], .raw hd]) (Ev.to (Ev.smeth (EvA.nm .here) (EvAs.cons (EvA.d (Ev.globStr (y := dots) (by kernel_rfl) ge (by kernel_rfl))) EvAs.nil) F.slot_str_split (op_split (by decide) lw) (by kernel_rfl)) (by rw [c2]; rfl)) (.there (.there .here))) ?_
  refine Ex.seq (Ex1.assert (Tr.cmp (EvA.d (Ev.bcall (by kernel_rfl) B.len (by kernel_rfl) (EvAs.cons (EvA.own (.there (.there .here)) (by kernel_rfl)) EvAs.nil) (op_len (by simp)))) (EvA.d Ev.cint) op_ge)) ?_
  refine Ex.seq (Ex1.pair (EvAs.cons (EvA.d Ev.cint) (EvAs.cons (EvA.d (Ev.bcall (by kernel_rfl) B.len (by kernel_rfl) (EvAs.cons (EvA.nm (.there .here)) EvAs.nil) (op_slen (by omega)))) EvAs.nil)) (.there (.there (.there (.there .here)))) (.there (.there (.there .here))) (by
    intro env h; cases env; subst h; kernel_rfl)) ?_
  refine Ex.seq (Ex1.assign (Ev.item (EvA.own (.there (.there .here)) (by kernel_rfl)) (EvA.d Ev.cint) rfl (by simp) (by simp)) (.there (.there (.there (.there (.there .here)))))) ?_
  refine Ex.seq (Ex1.if_ (c := false) (Tr.text (EvA.nm (.there (.there (.there (.there (.there .here)))))) (by decide)) (fun h => by cases h) (fun _ => Ex.nil rfl)) ?_
  refine Ex.seq (Ex1.assign (Ev.item (EvA.own (.there (.there .here)) (by kernel_rfl)) (EvA.d (Ev.neg (EvA.d Ev.cint))) rfl (by simp) (by simp)) (.there (.there (.there (.there (.there .here)))))) ?_
  cases hh : hd.isEmpty with
  | true =>
    have hnil : hd = [] := by cases hd with | nil => rfl | cons a b => cases hh
    subst hnil
    have c5' : find4 th [] 0 th.length = 0 := by simpa using c5
    refine Ex.seq (Ex1.if_ (c := false) (Tr.text (EvA.nm (.there (.there (.there (.there (.there .here)))))) (by decide)) (fun h => by cases h) (fun _ => Ex.nil rfl)) ?_
    refine Ex.seq (Ex1.if_ (c := false) (Tr.to (Tr.cmp (EvA.nm (.there (.there (.there .here)))) (EvA.nm (.there (.there (.there (.there .here))))) op_gt) (by simp)) (fun h => by cases h) (fun _ => Ex.nil rfl)) ?_
    refine Ex.frz (σ' := [some (.fr (.raw (dots ++ []))), some (.fr (.raw th)), some (.fr (.list [.raw [], .raw []])), some (.fr (.int 0)), some (.fr (.int th.length)), some (.fr (.raw []))]) (.there (.there .here)) (.there (.there .here)) ?_
    refine Ex.each (EvIt.list (EvA.nm (.there (.there .here)))) (fun ts σ => ∃ k, ts = List.replicate k (Itm.one (.raw [])) ∧ σ = [some (.fr (.raw (dots ++ []))), some (.fr (.raw th)), some (.fr (.list [.raw [], .raw []])), some (.fr (.int 0)), some (.fr (.int th.length)), some (.fr (.raw []))]) ⟨2, rfl, rfl⟩ ?_ ?_
    · rintro t ts σ ⟨k, e1, rfl⟩
      cases k with
      | zero => cases e1
      | succ k =>
        cases e1
        refine ⟨_, .one (.there (.there (.there (.there (.there .here))))) (.inl rfl), ?_⟩
        refine Ex.seq (Ex1.assign (sl := .fr (.int 0)) (Ev.to (Ev.smeth (EvA.nm (.there .here)) (EvAs.cons (EvA.nm (.there (.there (.there (.there (.there .here)))))) (EvAs.cons (EvA.nm (.there (.there (.there .here)))) (EvAs.cons (EvA.nm (.there (.there (.there (.there .here))))) EvAs.nil))) F.slot_str_find op_find4 (by kernel_rfl)) (by rw [c5'])) (.there (.there (.there .here)))) ?_
        refine Ex.seq (Ex1.if_ (c := false) (Tr.cmp (EvA.nm (.there (.there (.there .here)))) (EvA.d Ev.cint) op_lt) (fun h => by cases h) (fun _ => Ex.nil rfl)) ?_
        refine Ex.last ((Ex1.aug (.there (.there (.there .here))) (EvA.d (Ev.bcall (by kernel_rfl) B.len (by kernel_rfl) (EvAs.cons (EvA.nm (.there (.there (.there (.there (.there .here)))))) EvAs.nil) (op_slen (by decide)))) op_iadd (.there (.there (.there .here)))).mono ?_)
        rintro o rfl
        exact ⟨k, rfl, rfl⟩
    · rintro σ ⟨k, e1, rfl⟩
      exact Ex.last (Ex1.ret Ev.cbool rfl)
  | false =>
    rw [hh] at c5
    have hne : hd ≠ [] := by rintro rfl; cases hh
    rw [if_neg (by decide)] at c5
    cases he : Txt.endswith (S th) (S hd) with
    | false =>
      have hB : ellB hd th = false := by unfold ellB; rw [hh, he]; rfl
      rw [hB]
      refine Ex.cons (Ψ := fun o => o = .ret (.fr (.bool false))) (Ex1.if_ (c := true) (Tr.to (Tr.text (EvA.nm (.there (.there (.there (.there (.there .here)))))) (by omega)) (by rw [hh]; rfl)) (fun _ => Ex.last ?_) (fun h => by cases h)) (fun τ e => by cases e) (fun sl e => e) (fun τ e => by cases e) (fun τ e => by cases e)
      refine Ex1.if_ (c := false) (Tr.to (Tr.val (Ev.smeth (EvA.nm (.there .here)) (EvAs.cons (EvA.nm (.there (.there (.there (.there (.there .here)))))) EvAs.nil) F.slot_str_endswith op_endswith (by kernel_rfl))) he) (fun h => by cases h) (fun _ => ?_)
      exact Ex.last (Ex1.ret Ev.cbool rfl)
    | true =>
      have hB : ellB hd th = true := by unfold ellB; rw [hh, he]; rfl
      rw [hB]
      rw [he] at c5
      simp only [Bool.not_true, Bool.false_or, Bool.and_eq_true, decide_eq_true_eq, beq_iff_eq] at c5
      obtain ⟨c6, c7⟩ := c5
      refine Ex.seq (σ' := [some (.fr (.raw (dots ++ hd))), some (.fr (.raw th)), some (.own [.raw []]), some (.fr (.int 0)), some (.fr (.int (th.length - hd.length))), some (.fr (.raw hd))]) (Ex1.if_ (c := true) (Tr.to (Tr.text (EvA.nm (.there (.there (.there (.there (.there .here)))))) (by omega)) (by rw [hh]; rfl)) (fun _ => Ex.last ?_) (fun h => by cases h)) ?_
      · refine Ex1.if_ (c := true) (Tr.to (Tr.val (Ev.smeth (EvA.nm (.there .here)) (EvAs.cons (EvA.nm (.there (.there (.there (.there (.there .here)))))) EvAs.nil) F.slot_str_endswith op_endswith (by kernel_rfl))) he) (fun _ => ?_) (fun h => by cases h)
        refine Ex.seq (Ex1.aug (.there (.there (.there (.there .here)))) (EvA.d (Ev.bcall (by kernel_rfl) B.len (by kernel_rfl) (EvAs.cons (EvA.nm (.there (.there (.there (.there (.there .here)))))) EvAs.nil) (op_slen (by omega)))) op_isubs (.there (.there (.there (.there .here))))) ?_
        refine Ex.last ((Ex1.delItem (j := 1) (.there (.there .here)) (EvA.d (Ev.neg (EvA.d Ev.cint))) (by rfl) (by rfl) (.there (.there .here)) (by simp) (by kernel_rfl)).mono ?_)
        rintro o rfl
        rfl
      · refine Ex.seq (Ex1.if_ (c := false) (Tr.to (Tr.cmp (EvA.nm (.there (.there (.there .here)))) (EvA.nm (.there (.there (.there (.there .here))))) op_gt) (by simp; omega)) (fun h => by cases h) (fun _ => Ex.nil rfl)) ?_
        refine Ex.frz (σ' := [some (.fr (.raw (dots ++ hd))), some (.fr (.raw th)), some (.fr (.list [.raw []])), some (.fr (.int 0)), some (.fr (.int (th.length - hd.length))), some (.fr (.raw hd))]) (.there (.there .here)) (.there (.there .here)) ?_
        refine Ex.each (EvIt.list (EvA.nm (.there (.there .here)))) (fun ts σ => ∃ k o, ts = List.replicate k (Itm.one (.raw [])) ∧ σ = [some (.fr (.raw (dots ++ hd))), some (.fr (.raw th)), some (.fr (.list [.raw []])), some (.fr (.int 0)), some (.fr (.int (th.length - hd.length))), o]) ⟨1, _, rfl, rfl⟩ ?_ ?_
        · rintro t ts σ ⟨k, o, e1, rfl⟩
          cases k with
          | zero => cases e1
          | succ k =>
            cases e1
            refine ⟨_, .one (.there (.there (.there (.there (.there .here))))) (.inl rfl), ?_⟩
            refine Ex.seq (Ex1.assign (sl := .fr (.int 0)) (Ev.to (Ev.smeth (EvA.nm (.there .here)) (EvAs.cons (EvA.nm (.there (.there (.there (.there (.there .here)))))) (EvAs.cons (EvA.nm (.there (.there (.there .here)))) (EvAs.cons (EvA.nm (.there (.there (.there (.there .here))))) EvAs.nil))) F.slot_str_find op_find4 (by kernel_rfl)) (by rw [c7])) (.there (.there (.there .here)))) ?_
            refine Ex.seq (Ex1.if_ (c := false) (Tr.cmp (EvA.nm (.there (.there (.there .here)))) (EvA.d Ev.cint) op_lt) (fun h => by cases h) (fun _ => Ex.nil rfl)) ?_
            refine Ex.last ((Ex1.aug (.there (.there (.there .here))) (EvA.d (Ev.bcall (by kernel_rfl) B.len (by kernel_rfl) (EvAs.cons (EvA.nm (.there (.there (.there (.there (.there .here)))))) EvAs.nil) (op_slen (by decide)))) op_iadd (.there (.there (.there .here)))).mono ?_)
            rintro o rfl
            exact ⟨k, _, rfl, rfl⟩
        · rintro σ ⟨k, o, e1, rfl⟩
          exact Ex.last (Ex1.ret Ev.cbool rfl)
end
end Mine
end
section
namespace Mine
structure Fs (Γ : Cx) : Prop where
  quote : ∃ a, FnAt Γ fQuote a
  ell : ∃ a, FnAt Γ fEll a
  lt : ∃ a, FnAt Γ fLt a
  gt : ∃ a, FnAt Γ fGt a
  add : ∃ a, FnAt Γ fAdd a
  mul : ∃ a, FnAt Γ fMul a
  sub : ∃ a, FnAt Γ fSub a
  concat : ∃ a, FnAt Γ fConcat a
  count : ∃ a, FnAt Γ fCount a
  get : ∃ a, FnAt Γ fGet a
  index : ∃ a, FnAt Γ fIndex a
  set : ∃ a, FnAt Γ fSet a
  words : ∃ a, FnAt Γ fWords a
  pay : ∃ a, FnAt Γ fPay a
  due : ∃ a, FnAt Γ fDue a
  after : ∃ a, FnAt Γ fAfter a
  steps : ∃ a, FnAt Γ fSteps a
  solved : ∃ a, FnAt Γ fSolved a
section
variable {Γ : Cx} {n : Nat} {fm : Fm} {σ σ' : List (Option Sl)} {pos : Pos} {Φ : Out → Prop}
set_option maxHeartbeats 1000000

theorem walk_after (B : Bs Γ) (G : Gs Γ) (H : HasA Γ) (F : Fs Γ) (th : List Nat) (heads : List (List Nat)) (hd : List Nat) (hok : ∀ hd ∈ heads, ellOk hd th = true) (h : heads.find? (fun hd => ellB hd th) = some hd) :
    Fn Γ 23 fAfter ([D.raw th, D.list (heads.map D.str)].map Ar.d) (.fr (.str hd)) := by
  obtain ⟨a1, F1⟩ := F.ell
  obtain ⟨a2, F2⟩ := F.concat
  refine Fn.mk (ps := ["thrown", "heads"]) (ns := ["thrown", "heads", "head"]) (by kernel_rfl) (binds_two fun _ _ _ _ _ => by kernel_rfl) rfl (slots_of _ 1) (n := 20) (fun env => ?_) 23
  refine Ex.each (EvIt.list (EvA.nm (.there .here))) (fun ts σ => ∃ hs o, ts = (hs.map D.str).map Itm.one ∧ σ = [some (.fr (.raw th)), some (.fr (.list (heads.map D.str))), o] ∧ (∀ hd ∈ hs, ellOk hd th = true) ∧ hs.find? (fun hd => ellB hd th) = some hd) ⟨heads, none, rfl, rfl, hok, h⟩ ?_ ?_
  · rintro t ts σ ⟨hs, o, e1, rfl, e3, e4⟩
    cases hs with
    | nil => cases e1
    | cons h1 hs =>
      cases e1
      have ok1 := e3 h1 List.mem_cons_self
      have l1 : h1.length ≤ 1000 := by
        simp only [ellOk, Bool.and_eq_true, decide_eq_true_eq] at ok1
        exact ok1.1.1.2
      refine ⟨_, .one (.there (.there .here)) (.inl rfl), ?_⟩
      refine Ex.last (Ex1.if_ (Tr.cmp (EvA.d (Ev.fcall F1 (by kernel_rfl) (by kernel_rfl) (by kernel_rfl) (EvAs.cons (EvA.d (Ev.fcall F2 (by kernel_rfl) (by kernel_rfl) (by kernel_rfl) (EvAs.cons (EvA.raw (EvA.d (Ev.cstr (y := dots) rfl))) (EvAs.cons (EvA.raw (EvA.nm (.there (.there .here)))) EvAs.nil)) (walk_concat B H dots h1 (by show 3 + _ ≤ _; omega)))) (EvAs.cons (EvA.nm .here) EvAs.nil)) (walk_ell B G h1 th ok1))) (EvA.d Ev.cbool) op_isb) (fun h => ?_) (fun h => ?_))
      · have h' : ellB h1 th = true := by simpa using h
        rw [List.find?_cons_of_pos (by exact h')] at e4
        cases e4
        exact Ex.last (Ex1.ret (Ev.nm (.there (.there .here))) rfl)
      · have h' : ellB h1 th = false := by simpa using h
        rw [List.find?_cons_of_neg (by rw [h']; decide)] at e4
        exact Ex.nil ⟨hs, _, rfl, rfl, fun x hx => e3 x (List.mem_cons_of_mem _ hx), e4⟩
  · rintro σ ⟨hs, o, e1, rfl, e3, e4⟩
    cases hs with
    | nil => cases e4
    | cons h1 hs => cases e1

/-- numbers taken to numbers -/
def liftI (g : Int → Option Int) : Itm → Option D
  | .one (.int i) => (g i).map D.int
  | _ => none
theorem liftI_map (g : Int → Option Int) (l : List Int) : (l.map fun i => Itm.one (.int i)).filterMap (liftI g) = (l.filterMap g).map D.int := by
  induction l with
  | nil => rfl
  | cons i l ih =>
    rw [List.map_cons]
    cases h : g i with
    | none => rw [List.filterMap_cons_none (by show (g i).map D.int = none; rw [h]; rfl), List.filterMap_cons_none h]; exact ih
    | some j => rw [List.filterMap_cons_some (by show (g i).map D.int = some (.int j); rw [h]; rfl), List.filterMap_cons_some h, List.map_cons, ih]
theorem rangeIs_mem {a c : Int} {k : Nat} {x : Int} (h : x ∈ rangeIs a c k) : ∃ i : Nat, i < k ∧ x = a + i * c := by
  obtain ⟨i, hi⟩ := List.getElem?_of_mem h
  obtain ⟨e, l⟩ := rangeIs_get a c hi
  exact ⟨i, l, e⟩

def dueAt (past word : List Nat) (sides : Int) (k : Int) : Option Int :=
  if cut (some ((past.length : Int) - k)) none past == cut none (some k) word then some (sides ^ k.toNat) else none
def due (past word : List Nat) (sides : Int) : Int := ((rangeIs 1 1 (min past.length word.length)).filterMap (dueAt past word sides)).sum

theorem walk_due (B : Bs Γ) (past word : List Nat) (sides : Int) (h1 : past.length ≤ 1000) (h2 : word.length ≤ 1000) (h3 : sides.natAbs < 2 ^ 64) :
    Fn Γ 23 fDue ([D.str past, D.str word, D.int sides].map Ar.d) (.fr (.int (due past word sides))) := by
  refine Fn.mk (ps := ["past", "word", "sides"]) (ns := ["past", "word", "sides"]) (by kernel_rfl) (binds_three fun _ _ _ _ _ _ => by kernel_rfl) rfl (slots_of _ 0) (n := 20) (fun env => ?_) 23
  refine Ex.last (Ex1.ret (Ev.bcall (by kernel_rfl) B.sum (by kernel_rfl) (EvAs.cons (a := .l (((rangeIs 1 1 (min past.length word.length)).filterMap (dueAt past word sides)).map D.int)) ?_ EvAs.nil) op_sum) rfl)
  refine EvA.to (EvA.o (Ev.comp (its := (rangeIs 1 1 (min past.length word.length)).map fun i => Itm.one (.int i)) (ts := ["k"]) (frs := ["past", "word", "sides"]) (liftI (dueAt past word sides)) (EvIt.range2 (a := 1) (b := (min past.length word.length : Nat) + 1) (by kernel_rfl) B.range (EvA.d Ev.cint) (EvA.d (Ev.bin (a := .d (.int (min past.length word.length : Nat))) (EvA.d ?mn) (EvA.d Ev.cint) op_add)) ⟨by omega, by omega, by omega, by omega, by omega⟩) (.cons .here (.cons (.there .here) (.cons (.there (.there .here)) .nil))) (by kernel_rfl) ?tg ?cb ?sz)) (by rw [liftI_map])
  case mn =>
    refine Ev.to (Ev.bcall (by kernel_rfl) B.min (by kernel_rfl) (EvAs.cons (EvA.d (Ev.bcall (by kernel_rfl) B.len (by kernel_rfl) (EvAs.cons (EvA.raw (EvA.nm .here)) EvAs.nil) (op_slen (by omega)))) (EvAs.cons (EvA.d (Ev.bcall (by kernel_rfl) B.len (by kernel_rfl) (EvAs.cons (EvA.raw (EvA.nm (.there .here))) EvAs.nil) (op_slen (by omega)))) EvAs.nil)) op_min) ?_
    congr 2; omega
  case tg =>
    intro t ht
    obtain ⟨i, _, rfl⟩ := List.mem_map.mp ht
    exact ⟨.one, rfl⟩
  case sz => rw [List.length_map, rangeIs_length]; omega
  case cb =>
    intro t ht e
    obtain ⟨k, hk, rfl⟩ := List.mem_map.mp ht
    obtain ⟨i, hi, rfl⟩ := rangeIs_mem hk
    refine ⟨_, .one (Tr.cmp (EvA.raw (EvA.d (Ev.scut (EvA.nm (.there .here)) (.some (EvA.d (Ev.bin (EvA.d (Ev.bcall (by kernel_rfl) B.len (by kernel_rfl) (EvAs.cons (EvA.raw (EvA.nm (.there .here))) EvAs.nil) (op_slen (by omega)))) (EvA.nm .here) op_sub))) .none (by omega)))) (EvA.raw (EvA.d (Ev.scut (EvA.nm (.there (.there .here))) .none (.some (EvA.nm .here)) (by omega)))) op_seq), fun h => ?_, fun h => ?_⟩
    · refine ⟨.int (sides ^ ((1 : Int) + i * 1).toNat), ?_, Ev.bin (EvA.nm (.there (.there (.there .here)))) (EvA.nm .here) (op_pow (by omega) (by omega) h3)⟩
      show Option.map D.int (dueAt past word sides _) = _
      rw [dueAt, if_pos h]; rfl
    · show Option.map D.int (dueAt past word sides _) = _
      rw [dueAt, if_neg (by rw [h]; decide)]; rfl
end
end Mine
end
section
namespace Mine
def szOf (sides x : Int) : Int := if sides == 2 then 2 + x.fmod 2 else 2
def letI' (sides x k : Int) : Int := ((x.fdiv 2).fdiv (sides ^ k.toNat)).fmod sides
def ltr (signs : List Nat) (i : Int) : Nat := signs.getD i.toNat 0
def wordOf (sides : Int) (signs : List Nat) (x : Int) : List Nat := (rangeIs 0 1 (szOf sides x).toNat).map fun k => ltr signs (letI' sides x k)
def clash (w o : List Nat) : Bool := inS o w || inS w o
def addWord (ws : List (List Nat)) (w : List Nat) : List (List Nat) := if (ws.filter (clash w)).isEmpty then ws ++ [w] else ws
def words0 (sides : Int) (signs : List Nat) : List (List Nat) → List Int → List (List Nat)
  | ws, [] => ws
  | ws, x :: xs => words0 sides signs (addWord ws (wordOf sides signs x)) xs
def turned (sides : Int) (signs w : List Nat) : List Nat := w.map fun c => ltr signs ((Txt.find (S signs) (S [c]) + 1).fmod sides)
def closeW (sides : Int) (signs : List Nat) : List (List Nat) → List (List Nat)
  | [w] => [w, turned sides signs w]
  | ws => ws
def wordsOf (sides : Int) (signs : List Nat) (xs : List Int) : List (List Nat) := closeW sides signs (words0 sides signs [] xs)

/-- texts taken to texts -/
def liftS (g : List Nat → Option D) : Itm → Option D
  | .one (.str x) => g x
  | _ => none
theorem liftS_map (g : List Nat → Option D) (l : List (List Nat)) : ((l.map D.str).map Itm.one).filterMap (liftS g) = l.filterMap g := by
  induction l with
  | nil => rfl
  | cons i l ih =>
    rw [List.map_cons, List.map_cons]
    cases h : g i with
    | none => rw [List.filterMap_cons_none (by show g i = none; exact h), List.filterMap_cons_none h]; exact ih
    | some j => rw [List.filterMap_cons_some (by show g i = some j; exact h), List.filterMap_cons_some h, ih]
theorem fm_filter (p : List Nat → Bool) (l : List (List Nat)) : l.filterMap (fun x => if p x = true then some (D.str x) else none) = (l.filter p).map D.str := by
  induction l with
  | nil => rfl
  | cons x l ih =>
    cases h : p x with
    | true => rw [List.filterMap_cons_some (b := D.str x) (by simp [h]), List.filter_cons_of_pos h, List.map_cons, ih]
    | false => rw [List.filterMap_cons_none (by simp [h]), List.filter_cons_of_neg (by rw [h]; decide), ih]
/-- numbers taken to anything -/
def liftN (g : Int → D) : Itm → Option D
  | .one (.int i) => some (g i)
  | _ => none
theorem liftN_map (g : Int → D) (l : List Int) : (l.map fun i => Itm.one (.int i)).filterMap (liftN g) = l.map g := by
  induction l with
  | nil => rfl
  | cons i l ih =>
    rw [List.map_cons, List.map_cons, ← ih]
    exact List.filterMap_cons_some (f := liftN g) (a := .one (.int i)) (b := g i) rfl
theorem flat_ones (l : List Nat) : (l.map fun c => [c]).flatten = l := by
  induction l with
  | nil => rfl
  | cons c l ih => rw [List.map_cons, List.flatten_cons, ih]; rfl
theorem flat_signs {α : Type} (l : List α) (f : α → Nat) : ((l.map fun k => D.str [f k]).map txt).flatten = l.map f := by
  rw [List.map_map, ← flat_ones (l.map f), List.map_map]; rfl

theorem liftS_signs (h : Nat → D) (w : List Nat) : ((Mine.signs w).map Itm.one).filterMap (liftS fun x => match x with | [c] => some (h c) | _ => none) = w.map h := by
  induction w with
  | nil => rfl
  | cons c w ih =>
    rw [List.map_cons, ← ih]
    exact List.filterMap_cons_some (a := Itm.one (.str [c])) (b := h c) rfl

section
variable {Γ : Cx} {n : Nat} {fm : Fm} {σ σ' : List (Option Sl)} {pos : Pos} {Φ : Out → Prop}
set_option maxHeartbeats 2000000

theorem Ev.noList : Ev Γ n fm σ (.List [] pos) (.own []) := Ev.list (ds := []) EvAs.nil
theorem fmod_lt {a b : Int} (hb : 0 < b) : 0 ≤ a.fmod b ∧ a.fmod b < b := ⟨Int.fmod_nonneg_of_pos a hb, Int.fmod_lt_of_pos a hb⟩
theorem ltr_at {signs : List Nat} {sides i : Int} (hl : signs.length = 3) (hs : sides ≤ 3) (h : 0 ≤ i ∧ i < sides) : signs[(if i < 0 then i + signs.length else i).toNat]? = some (ltr signs i) := by
  rw [if_neg (by omega)]
  unfold ltr
  have : i.toNat < signs.length := by omega
  rw [List.getD_eq_getElem?_getD, List.getElem?_eq_getElem this]; rfl

theorem walk_words (B : Bs Γ) (sides : Int) (signs : List Nat) (xs : List Int) (hs : sides = 2 ∨ sides = 3) (hl : signs.length = 3) (hx : xs.length ≤ 100) :
    Fn Γ 23 fWords ([D.list (xs.map D.int), D.int sides, D.str signs].map Ar.d) (.own ((wordsOf sides signs xs).map D.str)) := by
  have hs3 : sides ≤ 3 := by omega
  have hs0 : 0 < sides := by omega
  have hna : sides.natAbs < 2 ^ 64 := by omega
  refine Fn.mk (ps := ["numbers", "sides", "signs"]) (ns := ["numbers", "sides", "signs", "words", "x", "size", "word"]) (by kernel_rfl) (binds_three fun _ _ _ _ _ _ => by kernel_rfl) rfl (slots_of _ 4) (n := 20) (fun env => ?_) 23
  refine Ex.seq (Ex1.assign Ev.noList (.there (.there (.there .here)))) ?_
  refine Ex.each (EvIt.list (EvA.nm .here)) (fun ts σ => ∃ ys ws o1 o2 o3, ts = (ys.map D.int).map Itm.one ∧ σ = [some (.fr (.list (xs.map D.int))), some (.fr (.int sides)), some (.fr (.str signs)), some (.own (ws.map D.str)), o1, o2, o3] ∧ words0 sides signs ws ys = words0 sides signs [] xs ∧ (∀ w ∈ ws, 2 ≤ w.length ∧ w.length ≤ 3) ∧ ws.length + ys.length ≤ 100)
    ⟨xs, [], none, none, none, rfl, rfl, rfl, fun w hw => (by cases hw), by simpa using hx⟩ ?_ ?_
  · rintro t ts σ ⟨ys, ws, o1, o2, o3, e1, rfl, e3, e4, e5⟩
    cases ys with
    | nil => cases e1
    | cons x ys =>
      cases e1
      refine ⟨_, .one (.there (.there (.there (.there .here)))) (.inl rfl), ?_⟩
      have hz : 2 ≤ szOf sides x ∧ szOf sides x ≤ 3 := by
        unfold szOf
        have := fmod_lt (a := x) (b := 2) (by decide)
        split <;> omega
      have hwl : (wordOf sides signs x).length = (szOf sides x).toNat := by unfold wordOf; rw [List.length_map, rangeIs_length]
      refine Ex.seq (Ex1.assign (sl := .fr (.int (szOf sides x))) (Ev.ifexp (c := sides == 2) (Tr.cmp (EvA.nm (.there .here)) (EvA.d Ev.cint) op_eq) (fun h => ?s1) (fun h => ?s2)) (.there (.there (.there (.there (.there .here)))))) ?_
      case s1 => exact Ev.to (Ev.bin (EvA.d Ev.cint) (EvA.d (Ev.bin (EvA.nm (.there (.there (.there (.there .here))))) (EvA.d Ev.cint) (op_mod (by decide)))) op_add) (by rw [szOf, if_pos h])
      case s2 => exact Ev.to Ev.cint (by rw [szOf, if_neg (by rw [h]; decide)])
      refine Ex.seq (Ex1.assign (sl := .fr (.str (wordOf sides signs x))) (Ev.to (Ev.smeth (x := []) (EvA.raw (EvA.d (Ev.cstr (y := []) rfl))) (EvAs.cons (EvA.o (Ev.comp (its := (rangeIs 0 1 (szOf sides x).toNat).map fun i => Itm.one (.int i)) (ts := ["k"]) (frs := ["signs", "x", "sides"]) (liftN fun k => D.str [ltr signs (letI' sides x k)])
        (EvIt.range1 (k := (szOf sides x).toNat) (by kernel_rfl) B.range (EvA.to (EvA.nm (.there (.there (.there (.there (.there .here)))))) (by rw [Int.toNat_of_nonneg (by omega)])) (by omega)) (.cons (.there (.there .here)) (.cons (.there (.there (.there (.there .here)))) (.cons (.there .here) .nil))) (by kernel_rfl) ?tg ?cb ?sz)) EvAs.nil) F.slot_str_join (op_join ?j1 ?j2 ?j3) (by kernel_rfl)) ?jn) (.there (.there (.there (.there (.there (.there .here))))))) ?_
      case tg =>
        intro t ht
        obtain ⟨i, _, rfl⟩ := List.mem_map.mp ht
        exact ⟨.one, rfl⟩
      case sz => rw [List.length_map, rangeIs_length]; omega
      case cb =>
        intro t ht e
        obtain ⟨k, hk, rfl⟩ := List.mem_map.mp ht
        obtain ⟨i, hi, rfl⟩ := rangeIs_mem hk
        have hp : (0 : Int) < sides ^ ((0 : Int) + i * 1).toNat := Int.pow_pos hs0
        have hp2 : sides ^ ((0 : Int) + i * 1).toNat ≤ 27 := by
          have hi3 : ((0 : Int) + i * 1).toNat ≤ 2 := by omega
          rcases hs with rfl | rfl <;> (generalize ((0 : Int) + i * 1).toNat = m at hi3 ⊢; match m, hi3 with | 0, _ => decide | 1, _ => decide | 2, _ => decide)
        refine ⟨true, .nil, fun _ => ⟨_, rfl, Ev.sign (EvA.raw (EvA.nm (.there .here))) (EvA.d (Ev.bin (EvA.d (Ev.bin (EvA.d (Ev.bin (EvA.nm (.there (.there .here))) (EvA.d Ev.cint) (op_fdiv (by decide) (PyProof.noPylong_small (by decide))))) (EvA.d (Ev.bin (EvA.nm (.there (.there (.there .here)))) (EvA.nm .here) (op_pow (by omega) (by omega) hna))) (op_fdiv (by omega) (PyProof.noPylong_small (by omega))))) (EvA.nm (.there (.there (.there .here)))) (op_mod (by omega)))) (ltr_at hl hs3 (fmod_lt hs0)) ?_ (by omega)⟩, fun h => by cases h⟩
        have := fmod_lt (a := (x.fdiv 2).fdiv (sides ^ ((0 : Int) + i * 1).toNat)) hs0
        omega
      case j1 =>
        rw [liftN_map]
        intro d hd
        obtain ⟨k, _, rfl⟩ := List.mem_map.mp hd
        rfl
      case j2 => rw [liftN_map, List.length_map, rangeIs_length]; omega
      case j3 => rw [liftN_map, flat_signs, List.length_map, rangeIs_length]; omega
      case jn => rw [liftN_map, flat_signs]; rfl
      have hw2 : 2 ≤ (wordOf sides signs x).length ∧ (wordOf sides signs x).length ≤ 3 := by rw [hwl]; omega
      rw [words0] at e3
      have e5' : ws.length + 1 + ys.length ≤ 100 := by simp only [List.length_cons] at e5; omega
      refine Ex.last (Ex1.if_ (c := (ws.filter (clash (wordOf sides signs x))).isEmpty) (Tr.to (Tr.cmp (EvA.o (Ev.comp (its := (ws.map D.str).map Itm.one) (ts := ["one"]) (frs := ["word"]) (liftS fun o => if clash (wordOf sides signs x) o = true then some (D.str o) else none)
        (EvIt.own (EvA.own (.there (.there (.there .here))) (by kernel_rfl))) (.cons (.there (.there (.there (.there (.there (.there .here)))))) .nil) (by kernel_rfl) ?tg2 ?cb2 ?sz2)) (EvA.o Ev.noList) op_eqnil) ?tq) (fun h => ?_) (fun h => ?_))
      case tg2 =>
        intro t ht
        obtain ⟨d, hd, rfl⟩ := List.mem_map.mp ht
        obtain ⟨o, _, rfl⟩ := List.mem_map.mp hd
        exact ⟨.one, rfl⟩
      case sz2 => rw [List.length_map, List.length_map]; omega
      case tq => rw [liftS_map, fm_filter, List.isEmpty_map]
      case cb2 =>
        intro t ht e
        obtain ⟨d, hd, rfl⟩ := List.mem_map.mp ht
        obtain ⟨o, ho, rfl⟩ := List.mem_map.mp hd
        refine ⟨_, .one (Tr.or2 (Tr.cmp (EvA.raw (EvA.nm .here)) (EvA.raw (EvA.nm (.there .here))) op_in) (fun _ => Tr.cmp (EvA.raw (EvA.nm (.there .here))) (EvA.raw (EvA.nm .here)) op_in)), fun h => ⟨_, ?_, Ev.nm .here⟩, fun h => ?_⟩
        · show (if clash _ o = true then some (D.str o) else none) = _
          exact if_pos h
        · show (if clash _ o = true then some (D.str o) else none) = _
          exact if_neg (by unfold clash; rw [h]; decide)
      · refine Ex.last ((Ex1.append (.there (.there (.there .here))) (Ev.nm (.there (.there (.there (.there (.there (.there .here))))))) (.there (.there (.there .here))) (by rw [List.length_map]; omega) (by kernel_rfl)).mono ?_)
        rintro o rfl
        refine ⟨ys, ws ++ [wordOf sides signs x], _, _, _, rfl, by rw [List.map_append]; rfl, ?_, fun w hw => ?_, by simp only [List.length_append, List.length_cons, List.length_nil]; omega⟩
        · rw [← e3, addWord, if_pos h]
        · rcases List.mem_append.mp hw with hw | hw
          · exact e4 w hw
          · rw [List.mem_singleton.mp hw]; exact hw2
      · refine Ex.nil ⟨ys, ws, _, _, _, rfl, rfl, ?_, e4, by omega⟩
        rw [← e3, addWord, if_neg (by rw [h]; decide)]
  · rintro σ ⟨ys, ws, o1, o2, o3, e1, rfl, e3, e4, e5⟩
    cases ys with
    | cons y ys => cases e1
    | nil =>
      rw [words0] at e3
      have hws : wordsOf sides signs xs = closeW sides signs ws := by unfold wordsOf; rw [← e3]
      rw [hws]
      refine Ex.seq (σ' := [some (.fr (.list (xs.map D.int))), some (.fr (.int sides)), some (.fr (.str signs)), some (.own ((closeW sides signs ws).map D.str)), o1, o2, o3]) (Ex1.if_ (c := ws.length == 1) (Tr.to (Tr.cmp (EvA.d (Ev.bcall (by kernel_rfl) B.len (by kernel_rfl) (EvAs.cons (EvA.own (.there (.there (.there .here))) (by kernel_rfl)) EvAs.nil) (op_len (by rw [List.length_map]; omega)))) (EvA.d Ev.cint) op_eq) ?_) (fun h => ?_) (fun h => ?_)) ?_
      · rw [List.length_map]
        cases hq : ws.length == 1 with
        | true => have : ws.length = 1 := by simpa using hq
                  rw [this]; rfl
        | false =>
          have : ws.length ≠ 1 := by simpa using hq
          simp only [beq_eq_false_iff_ne, ne_eq]
          omega
      · have : ws.length = 1 := by simpa using h
        match ws, this with
        | [w], _ =>
          have hw := e4 w (by simp)
          refine Ex.last ((Ex1.append (.there (.there (.there .here))) (Ev.to (sl' := .fr (.str (turned sides signs w))) (Ev.smeth (x := []) (EvA.raw (EvA.d (Ev.cstr (y := []) rfl))) (EvAs.cons (EvA.o (Ev.comp (its := (Mine.signs w).map Itm.one) (ts := ["sign"]) (frs := ["signs", "sides"]) (liftS fun x => match x with | [c] => some (D.str [ltr signs ((Txt.find (S signs) (S [c]) + 1).fmod sides)]) | _ => none)
            (EvIt.text (EvA.raw (EvA.d (Ev.item (EvA.own (.there (.there (.there .here))) (by kernel_rfl)) (EvA.d Ev.cint) rfl (by simp) (by simp))))) (.cons (.there (.there .here)) (.cons (.there .here) .nil)) (by kernel_rfl) ?tg3 ?cb3 ?sz3)) EvAs.nil) F.slot_str_join (op_join ?k1 ?k2 ?k3) (by kernel_rfl)) ?kn) (.there (.there (.there .here))) (by simp) (by kernel_rfl)).mono ?_)
          case tg3 =>
            intro t ht
            obtain ⟨d, hd, rfl⟩ := List.mem_map.mp ht
            obtain ⟨c, _, rfl⟩ := List.mem_map.mp hd
            exact ⟨.one, rfl⟩
          case sz3 => rw [List.length_map, List.length_map]; omega
          case cb3 =>
            intro t ht e
            obtain ⟨d, hd, rfl⟩ := List.mem_map.mp ht
            obtain ⟨c, _, rfl⟩ := List.mem_map.mp hd
            refine ⟨true, .nil, fun _ => ⟨_, rfl, Ev.sign (EvA.raw (EvA.nm (.there .here))) (EvA.d (Ev.bin (EvA.d (Ev.bin (EvA.d (Ev.smeth (EvA.raw (EvA.nm (.there .here))) (EvAs.cons (EvA.raw (EvA.nm .here)) EvAs.nil) F.slot_str_find op_find (by kernel_rfl))) (EvA.d Ev.cint) op_add)) (EvA.nm (.there (.there .here))) (op_mod (by omega)))) (ltr_at hl hs3 (fmod_lt hs0)) ?_ (by omega)⟩, fun h => by cases h⟩
            have := fmod_lt (a := (Txt.find (S signs) (S [c]) + 1)) hs0
            omega
          case k1 =>
            rw [liftS_signs]
            intro d hd
            obtain ⟨k, _, rfl⟩ := List.mem_map.mp hd
            rfl
          case k2 => rw [liftS_signs, List.length_map]; omega
          case k3 => rw [liftS_signs, flat_signs, List.length_map]; omega
          case kn => rw [liftS_signs, flat_signs]; rfl
          rintro o rfl
          rfl
      · refine Ex.nil ?_
        have : ws.length ≠ 1 := by simpa using h
        match ws, this with
        | [], _ => rfl
        | [w], h => exact absurd rfl h
        | w :: w' :: ws, _ => rfl
      · exact Ex.last (Ex1.retOwn (.there (.there (.there .here))) rfl (by kernel_rfl))
end
end Mine
end
section
namespace Mine
def headsFor (k : Nat) : List (List Nat) → List (List Nat) → List (List Nat)
  | hs, [] => hs
  | hs, w :: ws => headsFor k (if (decide (k ≤ w.length) && !(hs.any (· == w.take k))) = true then hs ++ [w.take k] else hs) ws
def headsGo (words : List (List Nat)) : List (List Nat) → List Nat → List (List Nat)
  | hs, [] => hs
  | hs, k :: ks => headsGo words (headsFor k hs words) ks
def headsOf (words : List (List Nat)) : List (List Nat) := headsGo words [] [3, 2, 1, 0]
def statesOf (words heads : List (List Nat)) : List (List Nat) := heads.reverse.filter fun h => !(words.any (· == h))
def row0 (sides : Int) (words states : List (List Nat)) (st : List Nat) : List Int := (states.map fun o => if (o == st) = true then sides else 0) ++ (words.map fun _ => 0) ++ [sides]
def bump (n : Nat) (row : List Int) (p : Nat) : Option (List Int) :=
  match row[p]? with
  | some v => some (row.set p (if decide ((p : Int) < n) = true then v - 1 else v + 1))
  | none => none
def goRow (words heads states : List (List Nat)) (st : List Nat) : List Nat → List Int → Option (List Int)
  | [], row => some row
  | c :: cs, row => match heads.find? (fun hd => ellB hd (st ++ [c])) with
    | none => none
    | some hd => match idx hd 0 (states ++ words) with
      | none => none
      | some p => match bump states.length row p with
        | none => none
        | some row => goRow words heads states st cs row
def goRows (sides : Int) (signs : List Nat) (words heads states : List (List Nat)) : List (List Nat) → Option (List (List Int))
  | [] => some []
  | st :: sts => match goRow words heads states st (signs.take sides.toNat) (row0 sides words states st) with
    | none => none
    | some r => match goRows sides signs words heads states sts with
      | none => none
      | some rs => some (r :: rs)
def stepsOf (sides : Int) (signs : List Nat) (words : List (List Nat)) : Option (List (List Int)) :=
  goRows sides signs words (headsOf words) (statesOf words (headsOf words)) (statesOf words (headsOf words))

section
variable {Γ : Cx} {n : Nat} {fm : Fm} {σ σ' : List (Option Sl)} {pos : Pos} {Φ : Out → Prop}
set_option maxHeartbeats 2000000

theorem headsFor_len (k : Nat) : ∀ (ws hs : List (List Nat)), (headsFor k hs ws).length ≤ hs.length + ws.length
  | [], hs => by simp [headsFor]
  | w :: ws, hs => by
    rw [headsFor]
    refine Nat.le_trans (headsFor_len k ws _) ?_
    rw [List.length_cons]
    split <;> simp <;> omega
theorem any_txt (x : List Nat) (ds : List (List Nat)) : (ds.map D.str).any (fun d => txt d == x) = ds.any (· == x) := by
  rw [List.any_map]; rfl
theorem txts_ok (ds : List (List Nat)) : ∀ d ∈ ds.map D.str, isTxt d = true := by
  intro d hd
  obtain ⟨x, _, rfl⟩ := List.mem_map.mp hd
  rfl

theorem walk_steps (B : Bs Γ) (G : Gs Γ) (H : HasA Γ) (F : Fs Γ) (sides : Int) (signs : List Nat) (words : List (List Nat)) (rs : List (List Int)) (hs : sides = 2 ∨ sides = 3) (hl : signs.length = 3) (hw : words.length ≤ 100) (hwl : ∀ w ∈ words, w.length ≤ 100)
    (hok : ∀ hd ∈ headsOf words, ∀ th, th.length ≤ 1000 → ellOk hd th = true) (hst : ∀ st ∈ statesOf words (headsOf words), st.length ≤ 100) (h : stepsOf sides signs words = some rs) :
    Fn Γ 43 fSteps ([D.list (words.map D.str), D.int sides, D.str signs].map Ar.d) (.own (tabl rs)) := by
  obtain ⟨aAfter, FAfter⟩ := F.after
  obtain ⟨aConcat, FConcat⟩ := F.concat
  obtain ⟨aIndex, FIndex⟩ := F.index
  obtain ⟨aLt, FLt⟩ := F.lt
  obtain ⟨aSub, FSub⟩ := F.sub
  obtain ⟨aAdd, FAdd⟩ := F.add
  obtain ⟨aSet, FSet⟩ := F.set
  refine Fn.mk (ps := ["words", "sides", "signs"]) (ns := ["words", "sides", "signs", "heads", "size", "word", "states", "rows", "state", "row", "sign", "place"]) (by kernel_rfl) (binds_three fun _ _ _ _ _ _ => by kernel_rfl) rfl (slots_of _ 9) (n := 40) (fun env => ?_) 43
  refine Ex.seq (Ex1.assign Ev.noList (.there (.there (.there .here)))) ?_
  refine Ex.each (its := ([3, 2, 1, 0] : List Nat).map fun (k : Nat) => Itm.one (.int ((k : Nat) : Int))) (EvIt.range3 (a := 3) (b := -1) (k := 4) (by kernel_rfl) B.range (EvA.d Ev.cint) (EvA.d (Ev.neg (EvA.d Ev.cint))) (EvA.d (Ev.neg (EvA.d Ev.cint))) (by decide))
    (fun ts σ => ∃ ks hs o1 o2, ts = (ks.map fun (k : Nat) => Itm.one (.int ((k : Nat) : Int))) ∧ σ = [some (.fr (.list (words.map D.str))), some (.fr (.int sides)), some (.fr (.str signs)), some (.own (hs.map D.str)), o1, o2, none, none, none, none, none, none] ∧ headsGo words hs ks = headsOf words ∧ hs.length + ks.length * words.length ≤ 1000)
    ⟨[3, 2, 1, 0], [], none, none, rfl, rfl, rfl, by show 0 + 4 * _ ≤ _; omega⟩ ?_ ?_
  · rintro t ts σ ⟨ks, hd0, o1, o2, e1, rfl, e3, e4⟩
    cases ks with
    | nil => cases e1
    | cons k ks =>
      cases e1
      refine ⟨_, .one (.there (.there (.there (.there .here)))) (.inl rfl), ?_⟩
      rw [headsGo] at e3
      have e4' : hd0.length + words.length + ks.length * words.length ≤ 1000 := by
        rw [List.length_cons, Nat.add_mul, Nat.one_mul] at e4; omega
      refine Ex.each (EvIt.list (EvA.nm .here)) (fun ts σ => ∃ ws hs o2, ts = (ws.map D.str).map Itm.one ∧ σ = [some (.fr (.list (words.map D.str))), some (.fr (.int sides)), some (.fr (.str signs)), some (.own (hs.map D.str)), some (.fr (.int k)), o2, none, none, none, none, none, none] ∧ headsFor k hs ws = headsFor k hd0 words ∧ hs.length + ws.length ≤ hd0.length + words.length ∧ (∀ w ∈ ws, w ∈ words))
        ⟨words, hd0, o2, rfl, rfl, rfl, by omega, fun w h => h⟩ ?_ ?_
      · rintro t ts σ ⟨ws, hs', o2, f1, rfl, f3, f4, f5⟩
        cases ws with
        | nil => cases f1
        | cons w ws =>
          cases f1
          have hwl' := hwl w (f5 w List.mem_cons_self)
          refine ⟨_, .one (.there (.there (.there (.there (.there .here))))) (.inl rfl), ?_⟩
          rw [headsFor] at f3
          have lw : hs'.length + 1 + ws.length ≤ hd0.length + words.length := by simp only [List.length_cons] at f4; omega
          refine Ex.last (Ex1.if_ (c := decide (k ≤ w.length) && !(hs'.any (· == w.take k))) (Tr.to (Tr.and2 (Tr.cmp (EvA.d (Ev.bcall (by kernel_rfl) B.len (by kernel_rfl) (EvAs.cons (EvA.raw (EvA.nm (.there (.there (.there (.there (.there .here))))))) EvAs.nil) (op_slen (by omega)))) (EvA.nm (.there (.there (.there (.there .here))))) op_ge)
            (fun _ => Tr.cmp (EvA.raw (EvA.d (Ev.scut (EvA.nm (.there (.there (.there (.there (.there .here)))))) .none (.some (EvA.nm (.there (.there (.there (.there .here)))))) (by omega)))) (EvA.own (.there (.there (.there .here))) (by kernel_rfl)) (op_notinl (txts_ok _)))) ?_) (fun h => ?_) (fun h => ?_))
          · rw [any_txt, cut_take]
            congr 1
            simp only [Int.ofNat_le]
          · refine Ex.last ((Ex1.append (d := .str (w.take k)) (.there (.there (.there .here))) (Ev.to (Ev.scut (EvA.nm (.there (.there (.there (.there (.there .here)))))) .none (.some (EvA.nm (.there (.there (.there (.there .here)))))) (by omega)) (by rw [cut_take])) (.there (.there (.there .here))) (by rw [List.length_map]; omega) (by kernel_rfl)).mono ?_)
            rintro o rfl
            refine ⟨ws, hs' ++ [w.take k], _, rfl, by rw [List.map_append]; rfl, ?_, by simp only [List.length_append, List.length_cons, List.length_nil]; omega, fun w' hw' => f5 w' (List.mem_cons_of_mem _ hw')⟩
            rw [← f3, if_pos h]
          · refine Ex.nil ⟨ws, hs', _, rfl, rfl, ?_, by omega, fun w' hw' => f5 w' (List.mem_cons_of_mem _ hw')⟩
            rw [← f3, if_neg (by rw [h]; decide)]
      · rintro σ ⟨ws, hs', o2, f1, rfl, f3, f4, f5⟩
        cases ws with
        | cons y ys => cases f1
        | nil =>
          rw [headsFor] at f3
          refine Ex.nil ⟨ks, hs', _, _, rfl, rfl, ?_, ?_⟩
          · rw [f3]; exact e3
          · have : hs'.length ≤ hd0.length + words.length := by simpa using f4
            omega
  · rintro σ ⟨ks, hd0, o1, o2, e1, rfl, e3, e4⟩
    cases ks with
    | cons y ys => cases e1
    | nil =>
    rw [headsGo] at e3
    have hlen : hd0.length ≤ 1000 := by simpa using e4
    unfold stepsOf at h
    rw [← e3] at h hok hst
    clear e3 e1 e4
    generalize hss : statesOf words hd0 = ss at h hst
    have hssl : ss.length ≤ 1000 := by
      rw [← hss]; unfold statesOf
      refine Nat.le_trans (List.length_filter_le _ _) ?_
      rw [List.length_reverse]; exact hlen
    have hs3 : (sides.toNat : Int) = sides := Int.toNat_of_nonneg (by omega)
    refine Ex.seq (σ' := [some (.fr (.list (words.map D.str))), some (.fr (.int sides)), some (.fr (.str signs)), some (.own (hd0.map D.str)), o1, o2, some (.own (ss.map D.str)), none, none, none, none, none])
      ((Ex1.assignComp (its := (hd0.reverse.map D.str).map Itm.one) (ts := ["head"]) (frs := ["words"]) (liftS fun x => if (!(words.any (· == x))) = true then some (D.str x) else none)
        (EvIt.own (EvA.to (EvA.o (Ev.lrev (EvA.own (.there (.there (.there .here))) (by kernel_rfl)) (EvA.d (Ev.neg (EvA.d Ev.cint))) (by rw [List.length_map]; omega))) (by rw [List.map_reverse]))) (.cons .here .nil) (by kernel_rfl) ?tg ?cb ?sz (.there (.there (.there (.there (.there (.there .here)))))) (by kernel_rfl) (by kernel_rfl) (by kernel_rfl)).mono ?cv) ?_
    case tg =>
      intro t ht
      obtain ⟨d, hd, rfl⟩ := List.mem_map.mp ht
      obtain ⟨x, _, rfl⟩ := List.mem_map.mp hd
      exact ⟨.one, rfl⟩
    case sz => rw [List.length_map, List.length_map, List.length_reverse]; omega
    case cv =>
      rintro o rfl
      rw [liftS_map, fm_filter, ← hss]; rfl
    case cb =>
      intro t ht e
      obtain ⟨d, hd, rfl⟩ := List.mem_map.mp ht
      obtain ⟨x, _, rfl⟩ := List.mem_map.mp hd
      refine ⟨!(words.any (· == x)), .one (Tr.to (Tr.cmp (EvA.raw (EvA.nm .here)) (EvA.l (EvA.nm (.there .here))) (op_notinl (txts_ok _))) (by rw [any_txt])), fun h => ⟨_, ?_, Ev.nm .here⟩, fun h => ?_⟩
      · show (if (!(words.any (· == x))) = true then some (D.str x) else none) = _
        exact if_pos h
      · show (if (!(words.any (· == x))) = true then some (D.str x) else none) = _
        exact if_neg (by rw [h]; decide)
    refine Ex.seq (Ex1.assign Ev.noList (.there (.there (.there (.there (.there (.there (.there .here)))))))) ?_
    refine Ex.frz (.there (.there (.there .here))) (.there (.there (.there .here))) ?_
    refine Ex.frz (.there (.there (.there (.there (.there (.there .here)))))) (.there (.there (.there (.there (.there (.there .here)))))) ?_
    refine Ex.each (EvIt.list (EvA.nm (.there (.there (.there (.there (.there (.there .here)))))))) (fun ts σ => ∃ sts done o8 o9 o10 o11, ts = (sts.map D.str).map Itm.one ∧
        σ = [some (.fr (.list (words.map D.str))), some (.fr (.int sides)), some (.fr (.str signs)), some (.fr (.list (hd0.map D.str))), o1, o2, some (.fr (.list (ss.map D.str))), some (.own (tabl done)), o8, o9, o10, o11] ∧
        (∃ more, goRows sides signs words hd0 ss sts = some more ∧ done ++ more = rs) ∧ (∀ st ∈ sts, st ∈ ss) ∧ done.length + sts.length ≤ ss.length)
      ⟨ss, [], none, none, none, none, rfl, rfl, ⟨rs, h, rfl⟩, fun st h => h, by simp⟩ ?_ ?_
    · rintro t ts σ ⟨sts, done, o8, o9, o10, o11, e1, rfl, ⟨more, e3, e4⟩, e5, e6⟩
      cases sts with
      | nil => cases e1
      | cons st sts =>
      cases e1
      refine ⟨_, .one (.there (.there (.there (.there (.there (.there (.there (.there .here)))))))) (.inl rfl), ?_⟩
      have hstl := hst st (e5 st List.mem_cons_self)
      rw [goRows] at e3
      cases hg : goRow words hd0 ss st (signs.take sides.toNat) (row0 sides words ss st) with
      | none => rw [hg] at e3; cases e3
      | some rw1 =>
      rw [hg] at e3
      simp only at e3
      cases hg2 : goRows sides signs words hd0 ss sts with
      | none => rw [hg2] at e3; cases e3
      | some more2 =>
      rw [hg2] at e3
      cases e3
      have hr0 : (row0 sides words ss st).length = ss.length + words.length + 1 := by
        unfold row0; simp only [List.length_append, List.length_map, List.length_cons, List.length_nil]
      refine Ex.seq (Ex1.assign (sl := .own (nums (row0 sides words ss st))) (Ev.to (Ev.bin (EvA.o (Ev.bin (EvA.o (Ev.comp (its := (ss.map D.str).map Itm.one) (ts := ["one"]) (frs := ["sides", "state"]) (liftS fun o => some (D.int (if (o == st) = true then sides else 0))) (EvIt.list (EvA.nm (.there (.there (.there (.there (.there (.there .here)))))))) (.cons (.there .here) (.cons (.there (.there (.there (.there (.there (.there (.there (.there .here)))))))) .nil)) (by kernel_rfl) ?tg1 ?cb1 ?sz1))
        (EvA.o (Ev.comp (its := (words.map D.str).map Itm.one) (ts := ["word"]) (frs := []) (liftS fun _ => some (D.int 0)) (EvIt.list (EvA.nm .here)) .nil (by kernel_rfl) ?tg2 ?cb2 ?sz2)) (op_ladd ?sz3))) (EvA.o (Ev.list (EvAs.d (Ev.nm (.there .here)) (ds := []) EvAs.nil) (by simp))) (op_ladd ?sz4)) ?cv2) (.there (.there (.there (.there (.there (.there (.there (.there (.there .here)))))))))) ?_
      case tg1 =>
        intro t ht
        obtain ⟨d, hd, rfl⟩ := List.mem_map.mp ht
        obtain ⟨x, _, rfl⟩ := List.mem_map.mp hd
        exact ⟨.one, rfl⟩
      case tg2 =>
        intro t ht
        obtain ⟨d, hd, rfl⟩ := List.mem_map.mp ht
        obtain ⟨x, _, rfl⟩ := List.mem_map.mp hd
        exact ⟨.one, rfl⟩
      case sz1 => rw [List.length_map, List.length_map]; omega
      case sz2 => rw [List.length_map, List.length_map]; omega
      case sz3 =>
        have := List.length_filterMap_le (liftS fun o => some (D.int (if (o == st) = true then sides else 0))) ((ss.map D.str).map Itm.one)
        have := List.length_filterMap_le (liftS fun _ => some (D.int 0)) ((words.map D.str).map Itm.one)
        simp only [List.length_map] at *
        omega
      case sz4 =>
        have := List.length_filterMap_le (liftS fun o => some (D.int (if (o == st) = true then sides else 0))) ((ss.map D.str).map Itm.one)
        have := List.length_filterMap_le (liftS fun _ => some (D.int 0)) ((words.map D.str).map Itm.one)
        simp only [List.length_map, List.length_append, List.length_cons, List.length_nil] at *
        omega
      case cv2 =>
        rw [liftS_map, liftS_map, List.filterMap_eq_map', List.filterMap_eq_map']
        unfold row0 nums
        simp only [List.map_append, List.map_map, List.map_cons, List.map_nil]
        rfl
      case cb1 =>
        intro t ht e
        obtain ⟨d, hd, rfl⟩ := List.mem_map.mp ht
        obtain ⟨x, _, rfl⟩ := List.mem_map.mp hd
        refine ⟨true, .nil, fun _ => ⟨_, rfl, Ev.ifexp (c := x == st) (Tr.cmp (EvA.raw (EvA.nm .here)) (EvA.raw (EvA.nm (.there (.there .here)))) op_seq) (fun h => ?_) (fun h => ?_)⟩, fun h => by cases h⟩
        · exact Ev.to (Ev.nm (.there .here)) (by rw [if_pos h])
        · exact Ev.to Ev.cint (by rw [if_neg (by rw [h]; decide)])
      case cb2 =>
        intro t ht e
        obtain ⟨d, hd, rfl⟩ := List.mem_map.mp ht
        obtain ⟨x, _, rfl⟩ := List.mem_map.mp hd
        exact ⟨true, .nil, fun _ => ⟨_, rfl, Ev.cint⟩, fun h => by cases h⟩
      refine Ex.each (its := (Mine.signs (signs.take sides.toNat)).map Itm.one) (EvIt.text (EvA.raw (EvA.d (Ev.to (Ev.scut (EvA.nm (.there (.there .here))) .none (.some (EvA.nm (.there .here))) (by omega)) (by rw [← hs3, cut_take, hs3])))))
        (fun ts σ => ∃ cs row o10 o11, ts = (Mine.signs cs).map Itm.one ∧
          σ = [some (.fr (.list (words.map D.str))), some (.fr (.int sides)), some (.fr (.str signs)), some (.fr (.list (hd0.map D.str))), o1, o2, some (.fr (.list (ss.map D.str))), some (.own (tabl done)), some (.fr (.str st)), some (.own (nums row)), o10, o11] ∧
          goRow words hd0 ss st cs row = some rw1 ∧ row.length = ss.length + words.length + 1)
        ⟨_, _, o10, o11, rfl, rfl, hg, hr0⟩ ?_ ?_
      · rintro t ts σ ⟨cs, row, o10, o11, f1, rfl, f3, f4⟩
        cases cs with
        | nil => cases f1
        | cons c cs =>
        cases f1
        refine ⟨_, .one (.there (.there (.there (.there (.there (.there (.there (.there (.there (.there .here)))))))))) (.inl rfl), ?_⟩
        rw [goRow] at f3
        cases g1 : hd0.find? (fun hd => ellB hd (st ++ [c])) with
        | none => rw [g1] at f3; cases f3
        | some hd =>
        rw [g1] at f3; simp only at f3
        cases g2 : idx hd 0 (ss ++ words) with
        | none => rw [g2] at f3; cases f3
        | some p =>
        rw [g2] at f3; simp only at f3
        cases g3 : row[p]? with
        | none => rw [bump, g3] at f3; cases f3
        | some v =>
        rw [bump, g3] at f3; simp only at f3
        have hp : p < row.length := (List.getElem?_eq_some_iff.mp g3).1
        refine Ex.seq (Ex1.assign (sl := .fr (.int p)) (Ev.fcall FIndex (by kernel_rfl) (by kernel_rfl) (by kernel_rfl) (EvAs.cons (EvA.d (Ev.frz (Ev.to (Ev.bin (EvA.l (EvA.nm (.there (.there (.there (.there (.there (.there .here)))))))) (EvA.l (EvA.nm .here)) (op_ladd (by rw [List.length_map, List.length_map]; omega))) (by rw [← List.map_append]))))
          (EvAs.cons (EvA.d (Ev.fcall FAfter (by kernel_rfl) (by kernel_rfl) (by kernel_rfl) (EvAs.cons (EvA.d (Ev.fcall FConcat (by kernel_rfl) (by kernel_rfl) (by kernel_rfl) (EvAs.cons (EvA.raw (EvA.nm (.there (.there (.there (.there (.there (.there (.there (.there .here)))))))))) (EvAs.cons (EvA.raw (EvA.nm (.there (.there (.there (.there (.there (.there (.there (.there (.there (.there .here)))))))))))) EvAs.nil)) (walk_concat B H st [c] (by simp only [List.length_cons, List.length_nil]; omega))))
            (EvAs.cons (EvA.nm (.there (.there (.there .here)))) EvAs.nil)) (walk_after B G H F (st ++ [c]) hd0 hd (fun hd' hm => hok hd' hm _ (by simp only [List.length_append, List.length_cons, List.length_nil]; omega)) g1))) EvAs.nil)) (walk_index B (ss ++ words) hd p g2)) (.there (.there (.there (.there (.there (.there (.there (.there (.there (.there (.there .here)))))))))))) ?_
        refine Ex.last ((Ex1.callO (as := [.int p, .int (if decide ((p : Int) < ss.length) = true then v - 1 else v + 1)]) FSet (by kernel_rfl) (by kernel_rfl) (by kernel_rfl) (.there (.there (.there (.there (.there (.there (.there (.there (.there .here))))))))) (by kernel_rfl)
          (EvAs.cons (EvA.nm (.there (.there (.there (.there (.there (.there (.there (.there (.there (.there (.there .here)))))))))))) (EvAs.cons (EvA.d (Ev.ifexp (c := decide ((p : Int) < ss.length)) (Tr.val (Ev.fcall FLt (by kernel_rfl) (by kernel_rfl) (by kernel_rfl) (EvAs.cons (EvA.nm (.there (.there (.there (.there (.there (.there (.there (.there (.there (.there (.there .here)))))))))))) (EvAs.cons (EvA.d (Ev.to (Ev.bcall (by kernel_rfl) B.len (by kernel_rfl) (EvAs.cons (EvA.l (EvA.nm (.there (.there (.there (.there (.there (.there .here)))))))) EvAs.nil) (op_len (by rw [List.length_map]; omega))) (by rw [List.length_map]))) EvAs.nil)) (walk_lt _ _))) (fun h => ?ha) (fun h => ?hb))) EvAs.nil))
          (walk_set (nums row) p _ (by rw [List.length_map]; exact hp) (by rw [List.length_map]; omega)) (.there (.there (.there (.there (.there (.there (.there (.there (.there .here))))))))) (by decide)).mono ?cv3)
        case ha =>
          refine Ev.to (Ev.fcall FSub (by kernel_rfl) (by kernel_rfl) (by kernel_rfl) (EvAs.cons (EvA.d (Ev.item (d := .int v) (EvA.own (.there (.there (.there (.there (.there (.there (.there (.there (.there .here))))))))) (by kernel_rfl)) (EvA.nm (.there (.there (.there (.there (.there (.there (.there (.there (.there (.there (.there .here)))))))))))) ?_ (by omega) (by rw [List.length_map]; omega))) (EvAs.cons (EvA.d Ev.cint) EvAs.nil)) (walk_sub v 1)) (by rw [if_pos h])
          rw [if_neg (by omega), Int.toNat_natCast, List.getElem?_map, g3]; rfl
        case hb =>
          refine Ev.to (Ev.fcall FAdd (by kernel_rfl) (by kernel_rfl) (by kernel_rfl) (EvAs.cons (EvA.d (Ev.item (d := .int v) (EvA.own (.there (.there (.there (.there (.there (.there (.there (.there (.there .here))))))))) (by kernel_rfl)) (EvA.nm (.there (.there (.there (.there (.there (.there (.there (.there (.there (.there (.there .here)))))))))))) ?_ (by omega) (by rw [List.length_map]; omega))) (EvAs.cons (EvA.d Ev.cint) EvAs.nil)) (walk_add v 1)) (by rw [if_neg (by rw [h]; decide)])
          rw [if_neg (by omega), Int.toNat_natCast, List.getElem?_map, g3]; rfl
        case cv3 =>
          rintro o rfl
          have ht : nums (row.set p (if decide ((p : Int) < ss.length) = true then v - 1 else v + 1)) = (nums row).set p (D.int (if decide ((p : Int) < ss.length) = true then v - 1 else v + 1)) := by unfold nums; rw [List.map_set]
          exact ⟨cs, row.set p (if decide ((p : Int) < ss.length) = true then v - 1 else v + 1), _, _, rfl, by rw [ht], f3, by rw [List.length_set]; exact f4⟩
      · rintro σ ⟨cs, row, o10, o11, f1, rfl, f3, f4⟩
        cases cs with
        | cons c cs => cases f1
        | nil =>
        rw [goRow] at f3
        cases f3
        refine Ex.frz (.there (.there (.there (.there (.there (.there (.there (.there (.there .here))))))))) (.there (.there (.there (.there (.there (.there (.there (.there (.there .here))))))))) ?_
        refine Ex.last ((Ex1.append (d := .list (nums rw1)) (.there (.there (.there (.there (.there (.there (.there .here))))))) (Ev.nm (.there (.there (.there (.there (.there (.there (.there (.there (.there .here)))))))))) (.there (.there (.there (.there (.there (.there (.there .here))))))) (by rw [List.length_map]; omega) (by kernel_rfl)).mono ?_)
        rintro o rfl
        have ht : tabl (done ++ [rw1]) = tabl done ++ [D.list (nums rw1)] := by simp [tabl]
        refine ⟨sts, done ++ [rw1], _, _, _, _, rfl, by rw [ht], ⟨more2, hg2, by rw [List.append_assoc]; exact e4⟩, fun s hs => e5 s (List.mem_cons_of_mem _ hs), ?_⟩
        simp only [List.length_append, List.length_cons, List.length_nil] at e6 ⊢
        omega
    · rintro σ ⟨sts, done, o8, o9, o10, o11, e1, rfl, ⟨more, e3, e4⟩, e5, e6⟩
      cases sts with
      | cons st sts => cases e1
      | nil =>
      rw [goRows] at e3
      cases e3
      rw [List.append_nil] at e4
      subst e4
      exact Ex.last (Ex1.retOwn (.there (.there (.there (.there (.there (.there (.there .here))))))) rfl (by kernel_rfl))
end
end Mine
end
section
namespace Mine
def downs : Nat → List Nat
  | 0 => []
  | m + 1 => (m + 1) :: downs m
def ups : Nat → Nat → List Nat
  | _, 0 => []
  | a, k + 1 => a :: ups (a + 1) k
theorem downs_is (m : Nat) : rangeIs (m : Int) (-1) m = (downs m).map fun (k : Nat) => (k : Int) := by
  induction m with
  | zero => rfl
  | succ m ih =>
    rw [rangeIs, downs, List.map_cons, ← ih]
    congr 2
    push_cast; omega
theorem ups_is (a k : Nat) : rangeIs (a : Int) 1 k = (ups a k).map fun (k : Nat) => (k : Int) := by
  induction k generalizing a with
  | zero => rfl
  | succ k ih =>
    rw [rangeIs, ups, List.map_cons, ← ih]
    rfl
theorem downs_mem {m j : Nat} (h : j ∈ downs m) : 1 ≤ j ∧ j ≤ m := by
  induction m with
  | zero => cases h
  | succ m ih =>
    rcases List.mem_cons.mp h with rfl | h
    · omega
    · have := ih h; omega
theorem ups_mem {a k i : Nat} (h : i ∈ ups a k) : a ≤ i ∧ i < a + k := by
  induction k generalizing a with
  | zero => cases h
  | succ k ih =>
    rcases List.mem_cons.mp h with rfl | h
    · omega
    · have := ih h; omega
def elim (a b : Int) (ri rj : List Int) : List Int := List.zipWith (fun x y => a * x - b * y) ri rj
def solveAt (j i : Nat) (rs : List (List Int)) : Option (List (List Int)) :=
  match rs[i]?, rs[j]? with
  | some ri, some rj => match ri[j]?, rj[j]? with
    | some b, some a => if (b != 0) = true then (if (decide (Builtin.Int.intBits a ≤ 64) && decide (Builtin.Int.intBits b ≤ 64)) = true then some (rs.set i (elim a b ri rj)) else none) else some rs
    | _, _ => none
  | _, _ => none
def solveI (j : Nat) : List Nat → List (List Int) → Option (List (List Int))
  | [], rs => some rs
  | i :: is, rs => match solveAt j i rs with
    | none => none
    | some rs => solveI j is rs
def solveJ : List Nat → List (List Int) → Option (List (List Int))
  | [], rs => some rs
  | j :: js, rs => match solveI j (ups 0 j) rs with
    | none => none
    | some rs => solveJ js rs
def solvedOf (rs : List (List Int)) : Option (List (List Int)) := solveJ (downs (rs.length - 1)) rs
theorem solveAt_len {j i : Nat} {rs rs' : List (List Int)} (h : solveAt j i rs = some rs') : rs'.length = rs.length := by
  unfold solveAt at h
  split at h
  · split at h
    · split at h
      · split at h
        · cases h; rw [List.length_set]
        · cases h
      · cases h; rfl
    · cases h
  · cases h

/-- pairs of numbers taken to numbers -/
def liftZ (g : Int → Int → Int) : Itm → Option D
  | .two (.int x) (.int y) => some (.int (g x y))
  | _ => none
theorem liftZ_map (g : Int → Int → Int) : ∀ (xs ys : List Int), (List.zipWith Itm.two (nums xs) (nums ys)).filterMap (liftZ g) = nums (List.zipWith g xs ys)
  | [], _ => by simp
  | _ :: _, [] => by simp
  | x :: xs, y :: ys => by
    have ih := liftZ_map g xs ys
    show List.filterMap (liftZ g) (Itm.two (.int x) (.int y) :: List.zipWith Itm.two (nums xs) (nums ys)) = _
    rw [List.zipWith_cons_cons]
    show _ = D.int (g x y) :: nums (List.zipWith g xs ys)
    rw [← ih]
    exact List.filterMap_cons_some (f := liftZ g) (a := Itm.two (.int x) (.int y)) rfl
theorem zip_mem {xs ys : List Int} {t : Itm} (h : t ∈ List.zipWith Itm.two (nums xs) (nums ys)) : ∃ x y, t = .two (.int x) (.int y) := by
  induction xs generalizing ys with
  | nil => simp at h
  | cons x xs ih =>
    cases ys with
    | nil => simp at h
    | cons y ys =>
      rcases List.mem_cons.mp (show t ∈ Itm.two (.int x) (.int y) :: List.zipWith Itm.two (nums xs) (nums ys) from h) with h | h
      · exact ⟨x, y, h⟩
      · exact ih h

section
variable {Γ : Cx} {n : Nat} {fm : Fm} {σ σ' : List (Option Sl)} {pos : Pos} {Φ : Out → Prop}
set_option maxHeartbeats 2000000
theorem tabl_get {rs : List (List Int)} {i : Nat} {r : List Int} (h : rs[i]? = some r) : (tabl rs)[(if (i : Int) < 0 then (i : Int) + (tabl rs).length else i).toNat]? = some (.list (nums r)) := by
  rw [if_neg (by omega), Int.toNat_natCast, List.getElem?_map, h]; rfl
theorem nums_get {r : List Int} {i : Nat} {v : Int} (h : r[i]? = some v) : (nums r)[(if (i : Int) < 0 then (i : Int) + (nums r).length else i).toNat]? = some (.int v) := by
  rw [if_neg (by omega), Int.toNat_natCast, List.getElem?_map, h]; rfl

theorem EvIt.to {c : Bool} {e : Expr} {its its' : List Itm} (h : EvIt Γ c n fm σ e its) (q : its = its') : EvIt Γ c n fm σ e its' := q ▸ h
theorem not_pin {x y : Str} {ns : List Str} (h : x ≠ y) : (x :: ns).head? ≠ some y := fun e => h (Option.some.inj e)
theorem walk_solved (B : Bs Γ) (F : Fs Γ) (rs rs' : List (List Int)) (r0 : List Int) (hn : 1 ≤ rs.length ∧ rs.length ≤ 1000) (hw : ∀ r ∈ rs, r.length ≤ 1000) (h : solvedOf rs = some rs') (h0 : rs'[0]? = some r0) :
    FnO Γ 43 fSolved (tabl rs) [.int rs.length] (tabl rs') (.list (nums r0)) := by
  obtain ⟨aSub, FSub⟩ := F.sub
  obtain ⟨aMul, FMul⟩ := F.mul
  refine FnO.mk (x := "rows") (ps := ["size"]) (ns := ["size", "j", "i"]) (σ₀ := [some (.fr (.int rs.length)), none, none]) (by kernel_rfl) (binds_two fun _ _ _ _ _ => by kernel_rfl) rfl (slots_of [.int rs.length] 2) (n := 40) (fun env b => ?_) 43
  have hsub : ((rs.length : Int) - 1) = ((rs.length - 1 : Nat) : Int) := by omega
  refine Ex.each (its := (downs (rs.length - 1)).map fun (k : Nat) => Itm.one (.int (k : Int))) (EvIt.to (EvIt.range3 (a := ((rs.length - 1 : Nat) : Int)) (b := 0) (k := rs.length - 1) (by kernel_rfl) B.range (EvA.d (Ev.to (Ev.bin (EvA.nm (.there .here)) (EvA.d Ev.cint) op_sub) (by rw [← hsub]))) (EvA.d Ev.cint) (EvA.d (Ev.neg (EvA.d Ev.cint))) (by omega)) (by rw [downs_is, List.map_map]; rfl))
    (fun ts σ => ∃ js cur o2 o3, ts = (js.map fun (k : Nat) => Itm.one (.int (k : Int))) ∧ σ = [some (.own (tabl cur)), some (.fr (.int rs.length)), o2, o3] ∧ solveJ js cur = some rs' ∧ cur.length = rs.length ∧ (∀ j ∈ js, 1 ≤ j ∧ j ≤ 1000) ∧ (∀ r ∈ cur, r.length ≤ 1000))
    ⟨downs (rs.length - 1), rs, none, none, rfl, rfl, h, rfl, fun j hj => (by have := downs_mem hj; omega), hw⟩ ?_ ?_
  · rintro t ts σ ⟨js, cur0, o2, o3, e1, rfl, e3, e4, e5, e6⟩
    cases js with
    | nil => cases e1
    | cons j js =>
    cases e1
    have hj := e5 j List.mem_cons_self
    refine ⟨_, .one (.there (.there .here)) (.inr (not_pin (by decide))), ?_⟩
    rw [solveJ] at e3
    cases hI : solveI j (ups 0 j) cur0 with
    | none => rw [hI] at e3; cases e3
    | some cur1 =>
    rw [hI] at e3; simp only at e3
    refine Ex.each (its := (ups 0 j).map fun (k : Nat) => Itm.one (.int (k : Int))) (EvIt.to (EvIt.range1 (k := j) (by kernel_rfl) B.range (EvA.nm (.there (.there .here))) (by omega)) (by rw [show (0 : Int) = ((0 : Nat) : Int) from rfl, ups_is, List.map_map]; rfl))
      (fun ts σ => ∃ is cur o3, ts = (is.map fun (k : Nat) => Itm.one (.int (k : Int))) ∧ σ = [some (.own (tabl cur)), some (.fr (.int rs.length)), some (.fr (.int j)), o3] ∧ solveI j is cur = some cur1 ∧ cur.length = rs.length ∧ (∀ r ∈ cur, r.length ≤ 1000))
      ⟨_, cur0, o3, rfl, rfl, hI, e4, e6⟩ ?_ ?_
    · rintro t ts σ ⟨is, cur, o3, f1, rfl, f3, f4, f5⟩
      cases is with
      | nil => cases f1
      | cons i is =>
      cases f1
      refine ⟨_, .one (.there (.there (.there .here))) (.inr (not_pin (by decide))), ?_⟩
      rw [solveI] at f3
      cases hA : solveAt j i cur with
      | none => rw [hA] at f3; cases f3
      | some cur2 =>
      rw [hA] at f3; simp only at f3
      have hl2 := solveAt_len hA
      cases hri : cur[i]? with
      | none => rw [solveAt, hri] at hA; cases hA
      | some ri =>
      cases hrj : cur[j]? with
      | none => rw [solveAt, hri, hrj] at hA; cases hA
      | some rj =>
      cases hb : ri[j]? with
      | none => rw [solveAt, hri, hrj] at hA; simp only [hb] at hA; cases hA
      | some bb =>
      cases ha : rj[j]? with
      | none => rw [solveAt, hri, hrj] at hA; simp only [hb, ha] at hA; cases hA
      | some aa =>
      rw [solveAt, hri, hrj] at hA
      simp only [hb, ha] at hA
      have sz : (tabl cur).length ≤ 100000 := by rw [List.length_map]; omega
      have lri : (nums ri).length ≤ 100000 := by rw [List.length_map]; have := f5 ri (List.mem_of_getElem? hri); omega
      have lrj : (nums rj).length ≤ 100000 := by rw [List.length_map]; have := f5 rj (List.mem_of_getElem? hrj); omega
      have hi1 : i < cur.length := (List.getElem?_eq_some_iff.mp hri).1
      refine Ex.last (Ex1.if_ (c := bb != 0) (Tr.cmp (EvA.d (Ev.item (EvA.l (EvA.d (Ev.item (EvA.own .here (by kernel_rfl)) (EvA.nm (.there (.there (.there .here)))) (tabl_get hri) (by omega) sz))) (EvA.nm (.there (.there .here))) (nums_get hb) (by omega) lri)) (EvA.d Ev.cint) op_ne) (fun hc => ?_) (fun hc => ?_))
      · rw [if_pos hc] at hA
        by_cases hbits : (decide (Builtin.Int.intBits aa ≤ 64) && decide (Builtin.Int.intBits bb ≤ 64)) = true
        · rw [if_pos hbits] at hA
          cases hA
          obtain ⟨ba, bbt⟩ := Bool.and_eq_true_iff.mp hbits
          have ba := of_decide_eq_true ba
          have bbt := of_decide_eq_true bbt
          refine Ex.last ((Ex1.setItem (d := .list (nums (elim aa bb ri rj))) .here (Ev.to (Ev.frz (Ev.comp (its := List.zipWith Itm.two (nums ri) (nums rj)) (ts := ["x", "y"]) (frs := ["i", "j", "rows"]) (liftZ fun x y => aa * x - bb * y)
            (EvIt.zip (by kernel_rfl) B.zip (EvA.d (Ev.item (EvA.own .here (by kernel_rfl)) (EvA.nm (.there (.there (.there .here)))) (tabl_get hri) (by omega) sz)) (EvA.d (Ev.item (EvA.own .here (by kernel_rfl)) (EvA.nm (.there (.there .here))) (tabl_get hrj) (by omega) sz)))
            (.cons (.there (.there (.there .here))) (.cons (.there (.there .here)) (.cons .here .nil))) (by kernel_rfl) ?tg ?cb ?sz)) ?cv) (EvA.nm (.there (.there (.there .here)))) .here (by rw [List.length_map]; exact hi1) sz (by kernel_rfl)).mono ?fin)
          case tg =>
            intro t ht
            obtain ⟨x, y, rfl⟩ := zip_mem ht
            exact ⟨.two, rfl⟩
          case sz =>
            rw [List.length_zipWith]
            exact Nat.le_trans (Nat.min_le_left _ _) lri
          case cv => rw [liftZ_map]; rfl
          case cb =>
            intro t ht e
            obtain ⟨x, y, rfl⟩ := zip_mem ht
            refine ⟨true, .nil, fun _ => ⟨_, rfl, Ev.fcall FSub (by kernel_rfl) (by kernel_rfl) (by kernel_rfl) (EvAs.cons (EvA.d (Ev.fcall FMul (by kernel_rfl) (by kernel_rfl) (by kernel_rfl) (EvAs.cons (EvA.d (Ev.item (EvA.l (EvA.d (Ev.item (EvA.own (.there (.there (.there (.there .here)))) (by kernel_rfl)) (EvA.nm (.there (.there (.there .here)))) (tabl_get hrj) (by omega) sz))) (EvA.nm (.there (.there (.there .here)))) (nums_get ha) (by omega) lrj)) (EvAs.cons (EvA.nm .here) EvAs.nil)) (walk_mul aa x (IntMulOk.of_left ba))))
              (EvAs.cons (EvA.d (Ev.fcall FMul (by kernel_rfl) (by kernel_rfl) (by kernel_rfl) (EvAs.cons (EvA.d (Ev.item (EvA.l (EvA.d (Ev.item (EvA.own (.there (.there (.there (.there .here)))) (by kernel_rfl)) (EvA.nm (.there (.there .here))) (tabl_get hri) (by omega) sz))) (EvA.nm (.there (.there (.there .here)))) (nums_get hb) (by omega) lri)) (EvAs.cons (EvA.nm (.there .here)) EvAs.nil)) (walk_mul bb y (IntMulOk.of_left bbt)))) EvAs.nil)) (walk_sub _ _)⟩, fun h => by cases h⟩
          case fin =>
            rintro o rfl
            have ht : tabl (cur.set i (elim aa bb ri rj)) = (tabl cur).set i (.list (nums (elim aa bb ri rj))) := by unfold tabl; rw [List.map_set]
            refine ⟨is, cur.set i (elim aa bb ri rj), _, rfl, by rw [ht], f3, by rw [List.length_set]; exact f4, fun r hr => ?_⟩
            rcases List.mem_or_eq_of_mem_set hr with hr | rfl
            · exact f5 r hr
            · unfold elim; rw [List.length_zipWith]
              exact Nat.le_trans (Nat.min_le_left _ _) (f5 ri (List.mem_of_getElem? hri))
        · rw [if_neg hbits] at hA; cases hA
      · rw [if_neg (by rw [hc]; decide)] at hA
        cases hA
        exact Ex.nil ⟨is, cur, _, rfl, rfl, f3, f4, f5⟩
    · rintro σ ⟨is, cur, o3, f1, rfl, f3, f4, f5⟩
      cases is with
      | cons i is => cases f1
      | nil =>
      rw [solveI] at f3
      cases f3
      exact Ex.nil ⟨js, cur1, _, _, rfl, rfl, e3, f4, fun j hj => e5 j (List.mem_cons_of_mem _ hj), f5⟩
  · rintro σ ⟨js, cur, o2, o3, e1, rfl, e3, e4, e5, e6⟩
    cases js with
    | cons j js => cases e1
    | nil =>
    rw [solveJ] at e3
    cases e3
    refine Ex.last (Ex1.ret (Ev.item (EvA.own .here (by kernel_rfl)) (EvA.d Ev.cint) (tabl_get (i := 0) h0) (by omega) (by rw [List.length_map]; omega)) (.inr rfl) (fun b P h => ⟨"rows", _, rfl, rfl, ?_⟩))
    cases h; rfl
end
end Mine
end
section
namespace Mine
def driveP : Nat → Sre.M → Option Sre.M
  | 0, _ => none
  | k + 1, m => match (m.runFor 4).outcome with
    | some _ => some (m.runFor 4)
    | none => driveP k (m.runFor 4)
/-- where a search finds -/
def findR (code : Array Nat) (x : List Nat) (start : Nat) (must : Bool) : Option (Option (Nat × Nat)) :=
  match driveP 400 (Sre.forSearch code x.toArray 0 start x.length must) with
  | none => none
  | some m => match m.outcome with
    | some .matched => some (some (m.start, m.handed))
    | some .failed => some none
    | _ => none
def piece (x : List Nat) (b e : Nat) : List Nat := (x.take e).drop b
def subGo (code : Array Nat) (x y : List Nat) : Nat → Nat → Bool → List (List Nat) → Option (List (List Nat))
  | 0, _, _, _ => none
  | k + 1, at_, must, acc => match findR code x at_ must with
    | none => none
    | some none => some (if at_ < x.length then acc ++ [piece x at_ x.length] else acc)
    | some (some (b, e)) => subGo code x y k e (e == b) ((if at_ < b then acc ++ [piece x at_ b] else acc) ++ [y])
def subR (code : Array Nat) (x y : List Nat) : Option (List Nat) := (subGo code x y 60 0 false []).map List.flatten
def code1 : Array Nat := #[14, 4, 0, 1, 1, 6, 1, 16, 46, 1]
def code2 : Array Nat := #[14, 9, 4, 1, 2, 16, 10, 16, 13, 0, 7, 7, 16, 13, 16, 10, 15, 18, 5, 16, 10, 15, 13, 11, 16, 13, 5, 5, 0, 16, 10, 1, 15, 2, 0, 1]
end Mine
end
section
open PySem.Flt (IsPattern PatRec)
namespace Mine
namespace RP
theorem slot_sub : Slot "re.Pattern" "sub" "re.Pattern.sub" :=
  .of (owner := "re.Pattern") (n := "sub") (by rw [typeLookup_type, builtinLookup_eq_fast]; kernel_rfl) (by decide +kernel) (by decide +kernel) (by decide +kernel)
    (by first | exact .inl (by decide +kernel) | exact .inr (by decide +kernel)) (by rw [isSubtype_type]; kernel_rfl)
theorem plainAttrs : PlainAttrs "re.Pattern" :=
  ⟨⟨"object.__getattribute__", by rw [typeLookup_type, builtinLookup_eq_fast]; kernel_rfl, by decide +kernel⟩, by rw [typeLookup_type, builtinLookup_eq_fast]; kernel_rfl⟩
theorem ty_sub : typeOf (.builtin "re.Pattern.sub") = pure (.type "method_descriptor") := by kernel_rfl
theorem entry_sub : entryFor table "re.Pattern.sub" = some Builtin.«re.Pattern.sub» := entryFor_of_tree (by kernel_rfl)
theorem entry_loop : entryFor table "re.Pattern.sub.loop" = some Builtin.«re.Pattern.sub.loop» := entryFor_of_tree (by kernel_rfl)
theorem args_sub (a b c : Value) : argsOk "re.Pattern.sub" ⟨[a, b, c], []⟩ := by unfold argsOk; kernel_rfl
theorem plain_loop : plainId "re.Pattern.sub.loop" = true := by decide +kernel
theorem no_call : typeLookup (.type "str") "__call__" = pure none := by rw [typeLookup_type, builtinLookup_eq_fast]; kernel_rfl
end RP
open Builtin.Re in
theorem drive_ok {M : Model} {A : Around} {E : Value → Shared → Prop} {s : Shared} {Q : Sre.M → Shared → Prop} {m' : Sre.M} (hq : Q m' s) : ∀ (k t : Nat) (m : Sre.M), k ≤ t → driveP k m = some m' → wpAny M A (reDrive t m) Q E s
  | 0, t, m, _, h => by cases h
  | k + 1, 0, m, hk, _ => by omega
  | k + 1, t + 1, m, hk, h => by
    rw [driveP] at h
    show wpAny M A (if (m.runFor 4).outcome.isSome then pure (m.runFor 4) else do rule "sre.turn"; reDrive t (m.runFor 4)) Q E s
    cases ho : (m.runFor 4).outcome with
    | some o =>
      rw [ho] at h
      cases h
      exact wpAny_pure hq
    | none =>
      rw [ho] at h
      exact wpAny_bind (wpAny_rule (drive_ok hq k t _ (by omega) h))
open Builtin.Re in
theorem wpAny_rules {M : Model} {A : Around} {E : Value → Shared → Prop} {s : Shared} {m : Sre.M} {Q : PUnit → Shared → Prop} (h : Q ⟨⟩ s) : ∀ l : List Nat, wpAny M A (forIn l PUnit.unit (fun i _ => if m.seen.has i = true then do rule (Sre.names.getD i ""); pure (ForInStep.yield PUnit.unit) else pure (ForInStep.yield PUnit.unit))) Q E s
  | [] => by rw [List.forIn_nil]; exact wpAny_pure h
  | i :: l => by
    rw [List.forIn_cons]
    split
    · exact wpAny_bind (wpAny_bind (wpAny_rule (wpAny_pure (wpAny_rules h l))))
    · exact wpAny_bind (wpAny_pure (wpAny_rules h l))
open Builtin.Re in
theorem run_ok {M : Model} {A : Around} {E : Value → Shared → Prop} {s : Shared} {m m' : Sre.M} {Q : Option Sre.M → Shared → Prop} {k : Nat} (hk : k ≤ 2 ^ 64) (h : driveP k m = some m')
    (hq : (∃ (_ : m'.outcome = some .matched), Q (some m') s) ∨ (∃ (_ : m'.outcome = some .failed), Q none s)) : wpAny M A (reRunToEnd m) Q E s := by
  unfold reRunToEnd
  refine wpAny_bind (drive_ok (Q := fun m₁ s₁ => wpAny M A _ _ _ s₁) ?_ k (2 ^ 64) m hk h)
  refine wpAny_bind (wpAny_rules ?_ _)
  rcases hq with ⟨e, q⟩ | ⟨e, q⟩
  · rw [e]; exact wpAny_pure q
  · rw [e]; exact wpAny_pure q
open Builtin.Re in
theorem next_ok {M : Model} {A : Around} {E : Value → Shared → Prop} {s : Shared} {t : ReTarget} {start : Nat} {must : Bool} {x : List Nat} {Q : Option Sre.M → Shared → Prop} {o : Option (Nat × Nat)} (ht : t.text = x.toArray) (hl : t.lim = x.length) (hg : t.groups = 0)
    (h : findR t.code x start must = some o) (hq : match o with | none => Q none s | some (b, e) => ∀ m : Sre.M, m.start = b → m.handed = e → Q (some m) s) : wpAny M A (reNextFound t start must) Q E s := by
  unfold findR at h
  unfold reNextFound
  rw [ht, hl, hg]
  split at h
  · cases h
  · rename_i m hm
    refine run_ok (k := 400) (by decide) hm ?_
    split at h
    · rename_i ho
      cases h
      exact .inl ⟨ho, hq _ rfl rfl⟩
    · rename_i ho
      cases h
      exact .inr ⟨ho, hq⟩
    · cases h
section
variable {M : Model} {A : Around} {E : Value → Shared → Prop} {s : Shared}
open Builtin.Re in
theorem target_ok {a : Addr} {r : PatRec} {x : List Nat} {t : Tok} {Q : ReTarget → Shared → Prop} (hp : IsPattern s.heap a r) (hk : r.kind = 0)
    (h : ∀ tg : ReTarget, tg.code = r.code.toArray → tg.text = x.toArray → tg.kind = 0 → tg.groups = r.groups → tg.lim = x.length → Q tg s) : wpAny M A (reWholeTarget (.ref a) (.str (S x) t)) Q E s := by
  obtain ⟨fs, T, ws, n, h1, h2, h3, h4, h5, h6⟩ := hp
  unfold reWholeTarget
  refine wpAny_bind (wpAny_fieldsOf h1 rfl ?_)
  refine wpAny_bind (wpAny_of_eq (a := (x.toArray, 0)) rfl ?_)
  dsimp only
  rw [h4, hk]
  rw [if_neg (by decide), if_neg (by decide)]
  refine wpAny_bind (wpAny_of_eq (a := ()) rfl ?_)
  rw [h2]
  unfold reRawItems
  refine wpAny_bind (wpAny_bind (wpAny_seqItems h5 rfl (wpAny_pure ?_)))
  refine wpAny_pure (h _ ?_ rfl rfl h3 ?_)
  · show ((ws.map reRawOf).map (·.toNat)) = r.code.toArray
    rw [← h6]
  · show x.toArray.size = _
    simp
end
end Mine
end
section
open PySem.Flt (IsPattern PatRec)
namespace Mine
theorem piece_extract (x : List Nat) (b e : Nat) : x.toArray.extract b e = (piece x b e).toArray := by
  unfold piece
  rw [List.extract_toArray, List.extract_eq_drop_take]
  congr 1
  rw [List.drop_take]
section
variable {Γ : Cx} {n : Nat} {A : Around} {W W₀ : Wd} {s s₀ : Shared}
open Builtin.Re in
/-- a piece is put behind the others -/
theorem push_piece {l : Addr} {x : List Nat} {b e : Nat} {vs : List Value} {m : Nat} {ps : List (List Nat)} {Q : Unit → Shared → Prop} {E : Value → Shared → Prop} (hx : x.length ≤ 1000) (hp : ps.length ≤ 1000)
    (P : PS Γ W₀ s₀ W s) (hl₀ : s₀.heap.get? l = none) (hG : W.G l = none) (hl : s.heap.get? l = some (lsObj vs m)) (hr : RepL W vs (ps.map D.raw))
    (k : ∀ s' vs' m', PS Γ W₀ s₀ W s' → s'.heap.get? l = some (lsObj vs' m') → RepL W vs' ((ps ++ [piece x b e]).map D.raw) → Q () s') :
    wpAny (model Γ.prog Γ.w) A (reSlice x.toArray 0 b e) (fun v s₁ => wpAny (model Γ.prog Γ.w) A (updateSeq l (·.push v)) Q E s₁) E s := by
  have hvl : vs.length = ps.length := by rw [hr.length, List.length_map]
  show wpAny _ _ (mkStr ⟨x.toArray.extract b e⟩) _ _ _
  refine wpAny_mkStr ?_ ?_
  · refine wpAny_updateSeq (s := { s with toks := s.toks + 1 }) hl rfl ?_ (by simp only [List.size_toArray]; rw [hvl]; exact Nat.le_trans hp (by decide)) (by simp only [Array.size_push, List.size_toArray]; rw [hvl]; exact Nat.succ_le_succ (Nat.le_trans hp (by decide)))
    have hs := (Heap.SameBut.update s.heap l (Obj.mapSeq (·.push (.str ⟨x.toArray.extract b e⟩ s.toks))) : Heap.SameBut l s.heap _)
    have hn : (s.heap.update l (Obj.mapSeq (·.push (.str ⟨x.toArray.extract b e⟩ s.toks)))).get? l = some (lsObj (vs ++ [.str ⟨x.toArray.extract b e⟩ s.toks]) (m + 1)) := by
      rw [Heap.get?_update_self _ hl (by rw [Obj.mapSeq_push_plain]; rfl), Obj.mapSeq_push_plain]
      simp
    refine k _ _ _ (P.psw (l := [l]) (fun b hb => by rw [List.mem_singleton.mp hb]; exact hl₀) (PSw.off (wr := [l]) (tk := s.toks + 1) P.st (fun b hb => by rw [List.mem_singleton.mp hb]; exact hG) (one_off hs) (Nat.le_succ _))) hn ?_
    rw [List.map_append]
    refine hr.append (.one ?_)
    rw [piece_extract]
    exact .raw _ _
  · show (x.toArray.extract b e).size ≤ sizeLine
    rw [piece_extract]
    simp only [List.size_toArray, piece, List.length_drop, List.length_take]
    exact Nat.le_trans (by omega : _ ≤ 1000) (by decide)
theorem push_repl {l : Addr} {y : List Nat} {u : Tok} {vs : List Value} {m : Nat} {ps : List (List Nat)} {Q : Unit → Shared → Prop} {E : Value → Shared → Prop} (hp : ps.length ≤ 1000)
    (P : PS Γ W₀ s₀ W s) (hl₀ : s₀.heap.get? l = none) (hG : W.G l = none) (hl : s.heap.get? l = some (lsObj vs m)) (hr : RepL W vs (ps.map D.raw))
    (k : ∀ s' vs' m', PS Γ W₀ s₀ W s' → s'.heap.get? l = some (lsObj vs' m') → RepL W vs' ((ps ++ [y]).map D.raw) → Q () s') :
    wpAny (model Γ.prog Γ.w) A (updateSeq l (·.push (.str (S y) u))) Q E s := by
  have hvl : vs.length = ps.length := by rw [hr.length, List.length_map]
  refine wpAny_updateSeq hl rfl ?_ (by simp only [List.size_toArray]; rw [hvl]; exact Nat.le_trans hp (by decide)) (by simp only [Array.size_push, List.size_toArray]; rw [hvl]; exact Nat.succ_le_succ (Nat.le_trans hp (by decide)))
  have hs := (Heap.SameBut.update s.heap l (Obj.mapSeq (·.push (.str (S y) u))) : Heap.SameBut l s.heap _)
  have hn : (s.heap.update l (Obj.mapSeq (·.push (.str (S y) u)))).get? l = some (lsObj (vs ++ [.str (S y) u]) (m + 1)) := by
    rw [Heap.get?_update_self _ hl (by rw [Obj.mapSeq_push_plain]; rfl), Obj.mapSeq_push_plain]
    simp
  refine k _ _ _ (P.psw (l := [l]) (fun b hb => by rw [List.mem_singleton.mp hb]; exact hl₀) (PSw.off (wr := [l]) (tk := s.toks) P.st (fun b hb => by rw [List.mem_singleton.mp hb]; exact hG) (one_off hs) (Nat.le_refl _))) hn ?_
  rw [List.map_append]
  exact hr.append (.one (.raw _ _))

theorem subGo_len {code : Array Nat} {x y : List Nat} : ∀ (k st : Nat) (must : Bool) (acc out : List (List Nat)), subGo code x y k st must acc = some out → acc.length ≤ out.length
  | 0, _, _, _, _, h => by cases h
  | k + 1, st, must, acc, out, h => by
    rw [subGo] at h
    split at h
    · cases h
    · cases h
      split <;> simp
    · have := subGo_len k _ _ _ _ h
      split at this <;> simp at this <;> omega

open Builtin.Re in
theorem loop_ok {a l : Addr} {r : PatRec} {x y : List Nat} {t u : Tok} (hx : x.length ≤ 1000) (hpat : IsPattern Γ.bs a r) (hk : r.kind = 0) (hg : r.groups = 0) (hA : AOk (n + 1) A) (hl₀ : s₀.heap.get? l = none) {out : List (List Nat)} (hout : out.length ≤ 1000) (hflat : out.flatten.length ≤ 100000) :
    ∀ (k st : Nat) (must : Bool) (ps : List (List Nat)) (cn : Int) (s : Shared) (W : Wd) (vs : List Value) (m : Nat), PS Γ W₀ s₀ W s → W.G l = none → s.heap.get? l = some (lsObj vs m) → RepL W vs (ps.map D.raw) → subGo r.code.toArray x y k st must ps = some out →
      codeAny (model Γ.prog Γ.w) A (.builtin "re.Pattern.sub.loop" ⟨[.ref a, .str (S x) t, .str (S y) u, rawInt 0, rawInt 0, rawInt cn, rawInt st, rawInt st, .bool must, .ref l, .bool false], []⟩)
        (fun r s' => match r with | .ok (.ret v) => ∃ W', PS Γ W₀ s₀ W' s' ∧ Rep W' v (.raw out.flatten) | _ => False) s
  | 0, _, _, _, _, _, _, _, _, _, _, _, _, h => by cases h
  | k + 1, st, must, ps, cn, s, W, vs, m, P, hG, hl, hr, h => by
    have hps := subGo_len _ _ _ _ _ h
    rw [subGo] at h
    refine codeAny_builtin RP.entry_loop ?_
    rw [Around.under_plainId RP.plain_loop]
    unfold Builtin.«re.Pattern.sub.loop»
    dsimp only [rawInt]
    refine wpAny_bind (target_ok (hpat.keeps P.st.keepB) hk fun tg c1 c2 c3 c4 c5 => ?_)
    have e0 : ((0 : Int) == 0) = true := rfl
    have e1 : ((0 : Int) != 0 && decide (cn ≥ 0)) = false := rfl
    simp only [e0, e1, if_true, Bool.false_eq_true, if_false, Int.toNat_natCast]
    refine wpAny_bind (wpAny_of_eq (a := ()) rfl ?_)
    cases hf : findR r.code.toArray x st must with
    | none => rw [hf] at h; cases h
    | some o =>
    rw [hf] at h
    refine wpAny_bind (next_ok c2 c5 (c4.trans hg) (c1 ▸ hf) ?_)
    cases o with
    | some be =>
      obtain ⟨b, e⟩ := be
      intro mm hb he
      dsimp only at h ⊢
      rw [c2, c3, hb, he]
      have go : ∀ (s₁ : Shared) (ps₁ : List (List Nat)) (vs₁ : List Value) (m₁ : Nat), PS Γ W₀ s₀ W s₁ → s₁.heap.get? l = some (lsObj vs₁ m₁) → RepL W vs₁ (ps₁.map D.raw) → subGo r.code.toArray x y k e (e == b) (ps₁ ++ [y]) = some out → ∀ (T : Sem Fin), T = (do
          let item ← pure (Value.str (S y) u)
          if (item != Value.none) = true then do
            updateSeq l fun x => x.push item
            again (Code.builtin "re.Pattern.sub.loop" { pos := [Value.ref a, Value.str (S x) t, Value.str (S y) u, Value.int 0 0, Value.int 0 0, Value.int (cn + 1) 0, Value.int (↑e) 0, Value.int (↑e) 0, Value.bool (e == b), Value.ref l, Value.bool false] })
          else again (Code.builtin "re.Pattern.sub.loop" { pos := [Value.ref a, Value.str (S x) t, Value.str (S y) u, Value.int 0 0, Value.int 0 0, Value.int (cn + 1) 0, Value.int (↑e) 0, Value.int (↑e) 0, Value.bool (e == b), Value.ref l, Value.bool false] })) →
          wpAny (model Γ.prog Γ.w) A.in1 T (fun fin s' => match fin with | .done f => (match (Except.ok f : Result) with | .ok (.ret v) => ∃ W', PS Γ W₀ s₀ W' s' ∧ Rep W' v (.raw out.flatten) | _ => False) | .again c' => c'.quiet = true ∧ codeAny (model Γ.prog Γ.w) A c' (fun r s' => match r with | .ok (.ret v) => ∃ W', PS Γ W₀ s₀ W' s' ∧ Rep W' v (.raw out.flatten) | _ => False) s') (fun e s' => False) s₁ := by
        intro s₁ ps₁ vs₁ m₁ P₁ l₁ r₁ h₁ T hT
        subst hT
        have hps₁ := subGo_len _ _ _ _ _ h₁
        rw [List.length_append] at hps₁
        refine wpAny_bind (wpAny_pure ?_)
        rw [if_pos (show (Value.str (S y) u != Value.none) = true from rfl)]
        refine wpAny_bind (push_repl (by omega) P₁ hl₀ hG l₁ r₁ fun s₂ vs₂ m₂ P₂ l₂ r₂ => ?_)
        refine wpAny_pure ⟨plainId_quiet RP.plain_loop _, ?_⟩
        exact loop_ok hx hpat hk hg hA hl₀ hout hflat k e (e == b) (ps₁ ++ [y]) (cn + 1) s₂ W vs₂ m₂ P₂ hG l₂ r₂ h₁
      by_cases hlt : st < b
      · rw [if_pos hlt] at h ⊢
        have hps1 : ps.length ≤ 1000 := by omega
        refine wpAny_bind (wpAny_mono (push_piece (Q := fun _ s₂ => wpAny (model Γ.prog Γ.w) A.in1 _ _ _ s₂) hx hps1 P hl₀ hG hl hr fun s₁ vs₁ m₁ P₁ l₁ r₁ => wpAny_weak (go s₁ _ vs₁ m₁ P₁ l₁ r₁ h _ rfl)) (fun v s₁ q => wpAny_bind q) fun _ _ q => q)
      · rw [if_neg hlt] at h ⊢
        exact wpAny_weak (go s ps vs m P hl hr h _ rfl)
    | none =>
      dsimp only at h ⊢
      rw [c2, c3, c5]
      have go : ∀ (s₁ : Shared) (ps₁ : List (List Nat)) (vs₁ : List Value) (m₁ : Nat), PS Γ W₀ s₀ W s₁ → s₁.heap.get? l = some (lsObj vs₁ m₁) → RepL W vs₁ (ps₁.map D.raw) → ps₁ = out → ∀ (T : Sem Fin), T = (do
          let joiner ← reSlice x.toArray 0 0 0
          let z ← seqItems? (Value.ref l)
          if (z.getD #[]).isEmpty = true then do
              let z ← pure joiner
              ret z
            else do
              let z ← call (Value.builtin (if (0 == 0) = true then "str.join" else "bytes.join")) [joiner, Value.ref l]
              ret z) →
          wpAny (model Γ.prog Γ.w) A.in1 T (fun fin s' => match fin with | .done f => (match (Except.ok f : Result) with | .ok (.ret v) => ∃ W', PS Γ W₀ s₀ W' s' ∧ Rep W' v (.raw out.flatten) | _ => False) | .again c' => c'.quiet = true ∧ codeAny (model Γ.prog Γ.w) A c' (fun r s' => match r with | .ok (.ret v) => ∃ W', PS Γ W₀ s₀ W' s' ∧ Rep W' v (.raw out.flatten) | _ => False) s') (fun e s' => False) s₁ := by
        intro s₁ ps₁ vs₁ m₁ P₁ l₁ r₁ h₁ T hT
        subst hT
        subst h₁
        have hlen : vs₁.length = ps₁.length := by rw [r₁.length, List.length_map]
        refine wpAny_bind ?_
        show wpAny _ _ (mkStr ⟨x.toArray.extract 0 0⟩) _ _ _
        have he : x.toArray.extract 0 0 = ([] : List Nat).toArray := by rw [piece_extract]; simp [piece]
        rw [he]
        refine wpAny_mkStr ?_ (by show 0 ≤ sizeLine; exact Nat.zero_le _)
        refine wpAny_bind (wpAny_seqItems (s := { s₁ with toks := s₁.toks + 1 }) l₁ rfl ?_)
        have P₂ : PS Γ W₀ s₀ W { s₁ with toks := s₁.toks + 1 } := P₁.trans (.tk P₁.st (Nat.le_succ _))
        cases ps₁ with
        | nil =>
          have : vs₁ = [] := by cases vs₁ with | nil => rfl | cons a b => simp at hlen
          subst this
          rw [if_pos (by rfl)]
          exact wpAny_bind (wpAny_pure (wpAny_pure ⟨W, P₂, .raw [] _⟩))
        | cons p1 ps₁ =>
          have hne : ((some vs₁.toArray).getD #[]).isEmpty = false := by
            cases vs₁ with
            | nil => simp at hlen
            | cons a b => rfl
          rw [if_neg (by rw [hne]; decide), if_pos (show ((0 : Nat) == 0) = true from rfl)]
          have htx : ((p1 :: ps₁).map D.raw).map txt = p1 :: ps₁ := by
            rw [List.map_map]; exact List.map_id _
          refine wpAny_bind ((op_joinr (Γ := Γ) (n := n) (ds := (p1 :: ps₁).map D.raw) (fun d hd => by
            obtain ⟨z, _, rfl⟩ := List.mem_map.mp hd; rfl) (by rw [htx]; exact hflat) A.in1 W _ [.str ⟨([] : List Nat).toArray⟩ s₁.toks, .ref l] hA.in1 P₂.st (.cons (.raw [] _) (.cons ⟨l, vs₁, m₁, rfl, l₁, r₁⟩ .nil))).use fun v W' s' x' p' => wpAny_pure ⟨W', P₂.trans x', ?_⟩)
          rw [htx] at p'
          exact p'
      simp only [Option.some.injEq] at h
      by_cases hlt : st < x.length
      · rw [if_pos hlt] at h ⊢
        have hps1 : ps.length ≤ 1000 := by omega
        refine wpAny_bind (wpAny_mono (push_piece (Q := fun _ s₂ => wpAny (model Γ.prog Γ.w) A.in1 _ _ _ s₂) hx hps1 P hl₀ hG hl hr fun s₁ vs₁ m₁ P₁ l₁ r₁ => wpAny_weak (go s₁ _ vs₁ m₁ P₁ l₁ r₁ h _ rfl)) (fun v s₁ q => wpAny_bind q) fun _ _ q => q)
      · rw [if_neg hlt] at h ⊢
        exact wpAny_weak (go s ps vs m P hl hr h _ rfl)

/-- «p.sub(y, x)» -/
theorem op_sub_re {a : Addr} {r : PatRec} {x y out : List Nat} (hx : x.length ≤ 1000) (hy : y.contains 92 = false) (hpat : IsPattern Γ.bs a r) (hk : r.kind = 0) (hg : r.groups = 0) (hlen : ∀ o, subGo r.code.toArray x y 60 0 false [] = some o → o.length ≤ 1000 ∧ o.flatten.length ≤ 100000) (h : subR r.code.toArray x y = some out) :
    ∀ A W s t u, AOk (n + 4) A → St Γ W s → Pr Γ A W s (call (.builtin "re.Pattern.sub") [.ref a, .str (S y) u, .str (S x) t]) (fun v W' s' => Rep W' v (.raw out)) := by
  intro A W s t u hA st
  unfold subR at h
  cases hgo : subGo r.code.toArray x y 60 0 false [] with
  | none => rw [hgo] at h; cases h
  | some o =>
  rw [hgo] at h
  cases h
  obtain ⟨l1, l2⟩ := hlen o hgo
  have hT : s.TypeIs (.ref a) "re.Pattern" := by
    obtain ⟨fs, T, ws, n, h1, _⟩ := hpat.keeps st.keepB
    exact ⟨_, h1, rfl⟩
  refine wpAny_call (codeAny_call_builtin RP.slot_sub.plain RP.entry_sub (RP.slot_sub.check _ _ _ _ _ _ _ _ hT (RP.args_sub _ _ _) ?_))
  show wpAny _ _ (Builtin.Re.reSubstitute "re.Pattern.sub" "sub" false _) _ _ _
  unfold Builtin.Re.reSubstitute
  dsimp only
  refine wpAny_bind (wpAny_of_eq (a := [some (.str (S y) u), some (.str (S x) t), none]) (by rfl) ?_)
  dsimp only
  refine wpAny_bind (wpAny_pure ?_)
  refine wpAny_bind (wpAny_specialOf (typeIs_str _ _ _) RP.no_call ?_)
  rw [if_neg (show ¬ (none : Option Value).isSome = true from Bool.false_ne_true)]
  refine wpAny_bind (wpAny_of_eq (a := some (S y)) rfl ?_)
  dsimp only
  refine wpAny_bind (wpAny_pure ?_)
  rw [if_neg (show ¬ (none : Option Value).isSome = true from Bool.false_ne_true)]
  have hy' : (!(S y).cps.contains 92) = true := by
    show (!y.toArray.contains 92) = true
    rw [List.contains_toArray, hy]; rfl
  rw [if_pos hy']
  refine wpAny_bind (wpAny_pure ?_)
  dsimp only
  refine wpAny_bind (wpAny_holding (target_ok (hpat.keeps st.keepB) hk fun tg _ _ _ _ _ => ?_))
  rw [if_neg (by decide)]
  obtain ⟨f1, f2⟩ := fresh_size st (a := s.heap.objs.size) (Nat.le_refl _)
  refine wpAny_bind (wpAny_newList ?_)
  refine wpAny_pure ⟨plainId_quiet RP.plain_loop _, ?_⟩
  refine codeAny_mono (loop_ok (Γ := Γ) (n := n) (W₀ := W) (s₀ := s) hx hpat hk hg (hA.mono (by omega)) f1 l1 l2 60 0 false [] 0 _ W [] 0 (.ext (tk := s.toks) st (fun b o e => Heap.get?_push_of_some _ e) (Nat.le_refl _)) f2 (Heap.get?_push_size _ rfl) .nil hgo) (fun r s' q => ?_)
  cases r with
  | ok f =>
    cases f with
    | ret v => exact q
    | _ => exact q.elim
  | error e => exact q.elim
end
end Mine
end
section
open PySem.Flt (IsPattern PatRec)
namespace Mine
theorem piece_len (x : List Nat) (b e : Nat) : (piece x b e).length ≤ x.length := by
  unfold piece; rw [List.length_drop, List.length_take]; omega
theorem subGo_bound {code : Array Nat} {x y : List Nat} (hy : y.length ≤ 500) (hx : x.length ≤ 500) : ∀ (k st : Nat) (must : Bool) (acc out : List (List Nat)), subGo code x y k st must acc = some out → (∀ p ∈ acc, p.length ≤ 500) → out.length ≤ acc.length + 2 * k ∧ ∀ p ∈ out, p.length ≤ 500
  | 0, _, _, _, _, h, _ => by cases h
  | k + 1, st, must, acc, out, h, ha => by
    rw [subGo] at h
    split at h
    · cases h
    · cases h
      split
      · refine ⟨by simp; omega, fun p hp => ?_⟩
        rcases List.mem_append.mp hp with hp | hp
        · exact ha p hp
        · rw [List.mem_singleton.mp hp]; exact Nat.le_trans (piece_len _ _ _) hx
      · exact ⟨by omega, ha⟩
    · rename_i b e _
      have ha' : ∀ p ∈ (if st < b then acc ++ [piece x st b] else acc) ++ [y], p.length ≤ 500 := by
        intro p hp
        rcases List.mem_append.mp hp with hp | hp
        · split at hp
          · rcases List.mem_append.mp hp with hp | hp
            · exact ha p hp
            · rw [List.mem_singleton.mp hp]; exact Nat.le_trans (piece_len _ _ _) hx
          · exact ha p hp
        · rw [List.mem_singleton.mp hp]; exact hy
      obtain ⟨h1, h2⟩ := subGo_bound hy hx k _ _ _ _ h ha'
      refine ⟨?_, h2⟩
      split at h1 <;> simp at h1 <;> omega
theorem flat_bound (m : Nat) : ∀ (l : List (List Nat)), (∀ p ∈ l, p.length ≤ m) → l.flatten.length ≤ l.length * m
  | [], _ => by simp
  | p :: l, h => by
    have h1 := h p List.mem_cons_self
    have h2 := flat_bound m l fun q hq => h q (List.mem_cons_of_mem _ hq)
    rw [List.flatten_cons, List.length_append, List.length_cons, Nat.add_mul, Nat.one_mul]
    omega
structure Ps (Γ : Cx) : Prop where
  p1 : ∃ a, Γ.mg ("_twin_re_1" : Str) = some (.ref a) ∧ IsPattern Γ.bs a ⟨"_twin_re_1", code1.toList, 0, 0⟩
  p2 : ∃ a, Γ.mg ("_twin_re_2" : Str) = some (.ref a) ∧ IsPattern Γ.bs a ⟨"_twin_re_2", code2.toList, 0, 0⟩
section
variable {Γ : Cx} {n : Nat} {fm : Fm} {σ σ' : List (Option Sl)} {pos : Pos} {Φ : Out → Prop}
set_option maxHeartbeats 1000000

theorem Ev.resub {px : Str} {np apos : Pos} {e1 e2 : Expr} {a : Addr} {r : PatRec} {x y out : List Nat} (hk : fm.sc.names.lookup px = some .globalImplicit) (hv : Γ.mg px = some (.ref a)) (hd : (px == ("__debug__" : Str)) = false) (hpat : IsPattern Γ.bs a r) (hkk : r.kind = 0) (hg : r.groups = 0)
    (h1 : EvA Γ (n + 4) fm σ e1 (.d (.raw y))) (h2 : EvA Γ (n + 4) fm σ e2 (.d (.raw x))) (hx : x.length ≤ 500) (hyl : y.length ≤ 500) (hy : y.contains 92 = false) (h : subR r.code.toArray x y = some out)
    (hb : ∀ env, attributeBase (.Name px np) ("sub" : Str) env (eval (.Name px np) env) = eval (.Name px np) env := by intro; rfl)
    (hc : ∀ env, (((backTo pos (starEach [e1, e2] env)).all fun x => !x.fst) && ((backToKw pos (keywordEach [] env)).all fun x => x.fst.isSome) && decide ((([e1, e2] : List Expr).length + ([] : List Keyword).length + if ([] : List Keyword).isEmpty = true then 0 else 1) < 30)) = true := by intro; rfl)
    (hl : (apos.endLine == pos.line) = true := by rfl)
    (he : ∀ env, starEach [e1, e2] env = (false, eval e1 env) :: starEach [e2] env := by intro; rfl) (he' : ∀ env, starEach [e2] env = (false, eval e2 env) :: starEach [] env := by intro; rfl) (hp : ([e2].all fun e => match e with | .Starred .. => false | _ => true) = true := by rfl) :
    Ev Γ (n + 4) fm σ (.Call (.Attribute (.Name px np) ("sub" : Str) apos) [e1, e2] [] pos) (.fr (.raw out)) := by
  intro A W s hA R
  refine wpAny_Call_method (hb _) (hc _) hl RP.plainAttrs RP.slot_sub RP.ty_sub (load_glob R hk hv ?_ hd)
  obtain ⟨fs, T, ws, nn, g1, _⟩ := hpat.keeps R.st.keepB
  refine ⟨⟨_, g1, rfl⟩, fun b hb => by cases hb; exact ⟨_, g1, rfl⟩, ?_⟩
  refine callWith_method1 ((EvAs.cons h1 (EvAs.cons h2 EvAs.nil he') he A W s _ hA R).use fun vs W₂ s₂ x₂ p₂ => ?_) (he _) (starsPlain hp)
  obtain ⟨v, u, rfl, q1, q2⟩ := p₂.two
  cases q1 with
  | raw y t =>
  cases q2 with
  | raw x t' =>
  refine (op_sub_re (Γ := Γ) (n := n) (by omega) hy hpat hkk hg (fun o ho => ?_) h A W₂ s₂ t' t hA x₂.st).use fun r W₃ s₃ x₃ p₃ => ⟨W₃, x₂.trans x₃, p₃⟩
  obtain ⟨b1, b2⟩ := subGo_bound hyl hx 60 0 false [] o ho (fun p hp => by cases hp)
  have b3 := flat_bound 500 o b2
  simp only [List.length_nil, Nat.zero_add] at b1
  have : o.length * 500 ≤ 120 * 500 := Nat.mul_le_mul_right 500 b1
  exact ⟨by omega, by omega⟩

theorem walk_quote (G : Gs Γ) (P : Ps Γ) (x mid out : List Nat) (hx : x.length ≤ 500) (hm : mid.length ≤ 500) (h2 : subR code2 x [13, 10] = some mid) (h1 : subR code1 mid [46, 46] = some out) :
    Fn Γ 23 fQuote ([D.raw x].map Ar.d) (.fr (.raw out)) := by
  obtain ⟨a1, g1, p1⟩ := P.p1
  obtain ⟨a2, g2, p2⟩ := P.p2
  obtain ⟨tc, gc⟩ := G.crlf
  refine Fn.mk (ps := ["data"]) (ns := ["data"]) (by kernel_rfl) (binds_one fun _ _ _ _ => by kernel_rfl) rfl (slots_of _ 0) (n := 20) (fun env => ?_) 23
  exact Ex.last (Ex1.ret (Ev.resub (n := 16) (by kernel_rfl) g1 (by kernel_rfl) p1 rfl rfl (EvA.raw (EvA.d (Ev.cstr (y := [46, 46]) rfl))) (EvA.d (Ev.resub (n := 16) (by kernel_rfl) g2 (by kernel_rfl) p2 rfl rfl (EvA.d (Ev.globStr (y := [13, 10]) (by kernel_rfl) gc (by kernel_rfl))) (EvA.nm .here) hx (by decide) (by decide) h2)) hm (by decide) (by decide) h1) rfl)
end
end Mine
end
section
namespace Mine
namespace RX
open PySem.Sre PySem.Sre.M
/-- the machine comes to rest in n steps, with this result -/
def Runs : Nat → M → Option (Nat × Nat) → Prop
  | 0, m, r => match r with
    | some (b, e) => m.outcome = some .matched ∧ m.start = b ∧ m.handed = e
    | none => m.outcome = some .failed
  | n + 1, m, r => Runs n m.step r
theorem step_rest {m : M} (h : m.outcome.isSome = true) : m.step = m := by
  unfold M.step; rw [if_pos h]
theorem Runs.stepE {n : Nat} {m : M} {r : Option (Nat × Nat)} {F : Sre.Seen → M} (h : ∃ se, m.step = F se) (k : ∀ se, Runs n (F se) r) : Runs (n + 1) m r := by
  obtain ⟨se, h⟩ := h
  show Runs n m.step r
  rw [h]; exact k se
theorem runFor_step (n : Nat) (m : M) : m.runFor (n + 1) = m.step.runFor n := by
  rw [M.runFor]
  split
  next h =>
    rw [step_rest h]
    cases n with
    | zero => rfl
    | succ n => rw [M.runFor, if_pos h]
  next h => rfl
theorem runFor_four (m : M) : m.runFor 4 = m.step.step.step.step := by
  rw [runFor_step, runFor_step, runFor_step, runFor_step]; rfl
theorem Runs.rest {r : Option (Nat × Nat)} : ∀ {n : Nat} {m : M}, Runs n m r → m.outcome.isSome = true → Runs 0 m r
  | 0, m, h, _ => h
  | n + 1, m, h, e => by
    have h : Runs n m.step r := h
    rw [step_rest e] at h
    exact Runs.rest h e
theorem Runs.some {n : Nat} {m : M} {r : Option (Nat × Nat)} (h : Runs 0 m r) : m.outcome.isSome = true := by
  unfold Runs at h
  match r, h with
  | Option.some (b, e), h => rw [h.1]; rfl
  | none, h => rw [h]; rfl
theorem Runs.more {r : Option (Nat × Nat)} : ∀ {n : Nat} {m : M}, Runs n m r → Runs (n + 1) m r
  | 0, m, h => by
    show Runs 0 m.step r
    rw [step_rest (Runs.some (n := 0) h)]; exact h
  | n + 1, m, h => by
    show Runs (n + 1) m.step r
    exact Runs.more (n := n) h
theorem Runs.le {r : Option (Nat × Nat)} {m : M} {n : Nat} (h : Runs n m r) : ∀ k, Runs (n + k) m r
  | 0 => h
  | k + 1 => (Runs.le h k).more
theorem Runs.drive {r : Option (Nat × Nat)} : ∀ (k : Nat) {m : M}, Runs (4 * k) m r → ∃ m', driveP (k + 1) m = Option.some m' ∧ Runs 0 m' r
  | 0, m, h => by
    have hs := Runs.some (n := 0) h
    have e : m.runFor 4 = m := by rw [runFor_four, step_rest hs, step_rest hs, step_rest hs, step_rest hs]
    refine ⟨m, ?_, h⟩
    rw [driveP, e]
    cases ho : m.outcome with
    | none => rw [ho] at hs; cases hs
    | some o => rfl
  | k + 1, m, h => by
    have h4 : Runs (4 * k) (m.runFor 4) r := by
      rw [runFor_four]
      exact h
    rw [driveP]
    cases ho : (m.runFor 4).outcome with
    | none => exact Runs.drive k h4
    | some o => exact ⟨_, rfl, h4.rest (by rw [ho]; rfl)⟩
theorem Runs.find {code : Array Nat} {x : List Nat} {s n : Nat} {must : Bool} {r : Option (Nat × Nat)} (h : Runs n (Sre.forSearch code x.toArray 0 s x.length must) r) (hn : n ≤ 1500) : findR code x s must = Option.some r := by
  have h' := h.le (1596 - n)
  rw [show n + (1596 - n) = 4 * 399 by omega] at h'
  obtain ⟨m', e, h0⟩ := h'.drive 399
  unfold findR
  rw [show 400 = 399 + 1 from rfl, e]
  unfold Runs at h0
  match r, h0 with
  | Option.some (b, e), h => obtain ⟨h1, h2, h3⟩ := h; dsimp only; rw [h1, h2, h3]
  | none, h => dsimp only; rw [h]
/-- steps that hold for any machine -/
theorem step_lit {m : M} (ho : m.outcome = none) (ha : m.answer = none) (hpc : m.pc < m.code.size) (hop : ops[m.word 0]? = Option.some .LITERAL) :
    m.step = if m.pos < m.lim ∧ m.text.getD m.pos 0 = m.code.getD (m.pc + 1) 0 then { m with seen := m.seen.add (m.word 0), pc := m.pc + 2, pos := m.pos + 1 } else { m with seen := m.seen.add (m.word 0), answer := Option.some false } := by
  have hw : ops[m.code.getD m.pc 0]? = Option.some .LITERAL := hop
  unfold M.step
  rw [ho, ha]
  simp only [Option.isSome_none, Bool.false_eq_true, if_false, if_pos hpc]
  unfold M.exec
  rw [hop]
  dsimp only
  by_cases hp : m.pos < m.lim
  · rw [if_neg (by omega)]
    unfold accepts itemWidth
    rw [hw]
    dsimp only
    by_cases hc : m.text.getD m.pos 0 = m.code.getD (m.pc + 1) 0
    · rw [if_pos ⟨hp, hc⟩, hc]
      rw [beq_self_eq_true]
      dsimp only
      rw [ha, ho]
    · rw [if_neg (fun h => hc h.2), beq_eq_false_iff_ne.mpr hc]
      dsimp only [M.say]
      rw [ho]
  · rw [if_pos (by omega), if_neg (fun h => hp h.1)]
    dsimp only [M.say]
    rw [ho]

theorem step_yes {m : M} (h : m.pos < m.lim ∧ m.text.getD m.pos 0 = m.code.getD (m.pc + 1) 0) (ho : m.outcome = none) (ha : m.answer = none) (hpc : m.pc < m.code.size) (hop : ops[m.word 0]? = Option.some .LITERAL) :
    m.step = { m with seen := m.seen.add (m.word 0), pc := m.pc + 2, pos := m.pos + 1 } := (step_lit ho ha hpc hop).trans (if_pos h)
theorem step_no {m : M} (h : ¬ (m.pos < m.lim ∧ m.text.getD m.pos 0 = m.code.getD (m.pc + 1) 0)) (ho : m.outcome = none) (ha : m.answer = none) (hpc : m.pc < m.code.size) (hop : ops[m.word 0]? = Option.some .LITERAL) :
    m.step = { m with seen := m.seen.add (m.word 0), answer := Option.some false } := (step_lit ho ha hpc hop).trans (if_neg h)
/-- a machine in the midst of a search -/
def St (code : Array Nat) (x : List Nat) (s0 pc pos hd : Nat) (om : Bool) (fr : List Sre.Frame) (w : Nat) (ans : Option Bool) (se : Sre.Seen) : M :=
  { code := code, text := x.toArray, lim := x.length, start := s0, lastStart := x.length, pc := pc, pos := pos, handed := hd, outermost := om, marks := #[], frames := fr, weight := w, answer := ans, seen := se }
def nx (pc s : Nat) (om : Bool) : Sre.Frame := { wait := .nextStart, pc := pc, pos := s, outermost := om }
theorem drop_at {x l : List Nat} {s c : Nat} (h : x.drop s = c :: l) : s < x.length ∧ x.toArray.getD s 0 = c ∧ x.drop (s + 1) = l := by
  have hl : s < x.length := by
    by_cases hs : s < x.length
    · exact hs
    · rw [List.drop_eq_nil_of_le (by omega)] at h; cases h
  rw [List.drop_eq_getElem_cons hl] at h
  injection h with h1 h2
  refine ⟨hl, ?_, h2⟩
  rw [Array.getD_eq_getD_getElem?, List.getElem?_toArray, List.getElem?_eq_getElem hl, ← h1]; rfl
theorem drop_nil {x : List Nat} {s : Nat} (h : x.drop s = []) : x.length ≤ s := List.drop_eq_nil_iff.mp h
def find1 : Nat → Nat → List Nat → Option (Nat × Nat)
  | _, _, [] => none
  | prev, s, c :: l => if prev = 10 ∧ c = 46 then Option.some (s, s + 1) else find1 c (s + 1) l
theorem at1 (x : List Nat) (s hd : Nat) (om : Bool) (se : Sre.Seen) : (St code1 x s 5 s hd om [nx 5 s om] 1 none se).step = if (s == 0 || x.toArray.getD (s - 1) 0 == 10) = true then St code1 x s 7 s hd om [nx 5 s om] 1 none ((se.add 6).add 44) else St code1 x s 5 s hd om [nx 5 s om] 1 (Option.some false) ((se.add 6).add 44) := by
  kernel_rfl
theorem next1 {x : List Nat} {s0 s pc pos hd : Nat} {om om' : Bool} {se : Sre.Seen} (h : s < x.length) : (St code1 x s0 pc pos hd om [nx 5 s om'] 1 (Option.some false) se).step = St code1 x (s + 1) 5 (s + 1) (s + 1) false [nx 5 (s + 1) false] 1 none se := by
  have : (St code1 x s0 pc pos hd om [nx 5 s om'] 1 (Option.some false) se).step = if s < x.length then St code1 x (s + 1) 5 (s + 1) (s + 1) false [nx 5 (s + 1) false] 1 none se else St code1 x s0 5 s hd om' [] 0 (Option.some false) se := by kernel_rfl
  rw [this, if_pos h]
theorem last1 {x : List Nat} {s0 s pc pos hd : Nat} {om om' : Bool} {se : Sre.Seen} (h : x.length ≤ s) : Runs 2 (St code1 x s0 pc pos hd om [nx 5 s om'] 1 (Option.some false) se) none := by
  have : (St code1 x s0 pc pos hd om [nx 5 s om'] 1 (Option.some false) se).step = if s < x.length then St code1 x (s + 1) 5 (s + 1) (s + 1) false [nx 5 (s + 1) false] 1 none se else St code1 x s0 5 s hd om' [] 0 (Option.some false) se := by kernel_rfl
  show (St code1 x s0 pc pos hd om [nx 5 s om'] 1 (Option.some false) se).step.step.outcome = Option.some .failed
  rw [this, if_neg (by omega)]
  kernel_rfl
theorem found1 {x : List Nat} {s hd : Nat} {om : Bool} {se : Sre.Seen} (h : s < x.length) (hc : x.toArray.getD s 0 = 46) : Runs 4 (St code1 x s 7 s hd om [nx 5 s om] 1 none se) (Option.some (s, s + 1)) := by
  refine Runs.stepE (F := fun se => St code1 x s 9 (s + 1) hd om [nx 5 s om] 1 none se) ⟨se.add 16, ?_⟩ fun se => ?_
  · exact (step_yes (m := St code1 x s 7 s hd om [nx 5 s om] 1 none se) ⟨h, hc⟩ rfl rfl (show 7 < 10 by decide) rfl).trans (by kernel_rfl)
  refine Runs.stepE (F := fun se => St code1 x s 9 (s + 1) (s + 1) om [nx 5 s om] 1 (Option.some true) se) ⟨se.add 1, ?_⟩ fun se => ?_
  · cases om <;> kernel_rfl
  refine Runs.stepE (F := fun se => St code1 x s 5 s (s + 1) om [] 0 (Option.some true) se) ⟨se, ?_⟩ fun se => ?_
  · kernel_rfl
  exact ⟨by kernel_rfl, rfl, rfl⟩
theorem miss1 {x : List Nat} {s hd : Nat} {om : Bool} {se : Sre.Seen} {r : Option (Nat × Nat)} {n : Nat} (hc : ¬ (s < x.length ∧ x.toArray.getD s 0 = 46)) (k : ∀ se, Runs n (St code1 x s 7 s hd om [nx 5 s om] 1 (Option.some false) se) r) : Runs (n + 1) (St code1 x s 7 s hd om [nx 5 s om] 1 none se) r := by
  refine Runs.stepE (F := fun se => St code1 x s 7 s hd om [nx 5 s om] 1 (Option.some false) se) ⟨se.add 16, ?_⟩ k
  exact (step_no (m := St code1 x s 7 s hd om [nx 5 s om] 1 none se) hc rfl rfl (show 7 < 10 by decide) rfl).trans (by kernel_rfl)
/-- a try at a place, then the rest -/
theorem try1 {x l : List Nat} {s hd prev : Nat} {om : Bool} {se : Sre.Seen} (hl : x.drop s = l) (hp : (s == 0 || x.toArray.getD (s - 1) 0 == 10) = decide (prev = 10)) : Runs (5 * l.length + 5) (St code1 x s 5 s hd om [nx 5 s om] 1 none se) (find1 prev s l) := by
  induction l generalizing s hd prev om se with
  | nil =>
    have hs := drop_nil hl
    show Runs 4 (M.step _) none
    rw [at1, hp]
    by_cases hb : prev = 10
    · rw [if_pos (by rw [decide_eq_true hb])]
      exact miss1 (n := 3) (by omega) fun se => (last1 hs).more
    · rw [if_neg (by rw [decide_eq_false hb]; decide)]
      exact (last1 hs).le 2
  | cons c l ih =>
    obtain ⟨h1, h2, h3⟩ := drop_at hl
    have hp' : (s + 1 == 0 || x.toArray.getD (s + 1 - 1) 0 == 10) = decide (c = 10) := by
      rw [Nat.add_sub_cancel, h2]
      by_cases e : c = 10
      · rw [e]; rfl
      · rw [decide_eq_false e, beq_eq_false_iff_ne.mpr e, beq_eq_false_iff_ne.mpr (by omega)]; rfl
    rw [find1]
    rw [show 5 * (c :: l).length + 5 = (5 * l.length + 5) + 1 + 1 + 1 + 1 + 1 by rw [List.length_cons]; omega]
    refine Runs.stepE (F := fun se' => if prev = 10 then St code1 x s 7 s hd om [nx 5 s om] 1 none se' else St code1 x s 5 s hd om [nx 5 s om] 1 (Option.some false) se') ⟨(se.add 6).add 44, ?_⟩ fun se => ?_
    · rw [at1, hp]
      by_cases hb : prev = 10
      · rw [if_pos (by rw [decide_eq_true hb]), if_pos hb]
      · rw [if_neg (by rw [decide_eq_false hb]; decide), if_neg hb]
    by_cases hb : prev = 10
    · rw [if_pos hb]
      by_cases hc : c = 46
      · rw [if_pos ⟨hb, hc⟩]
        have := (found1 (hd := hd) (om := om) (se := se) h1 (h2.trans hc)).le (5 * l.length + 5)
        rw [show 4 + (5 * l.length + 5) = (5 * l.length + 5) + 1 + 1 + 1 + 1 by omega] at this
        exact this
      · rw [if_neg (fun h => hc h.2)]
        refine miss1 (fun h => hc (h2.symm.trans h.2)) fun se => ?_
        refine Runs.stepE (F := fun se => St code1 x (s + 1) 5 (s + 1) (s + 1) false [nx 5 (s + 1) false] 1 none se) ⟨se, next1 h1⟩ fun se => ?_
        exact (ih (om := false) (se := se) (hd := s + 1) h3 hp').more.more
    · rw [if_neg hb, if_neg (fun h => hb h.1)]
      refine Runs.stepE (F := fun se => St code1 x (s + 1) 5 (s + 1) (s + 1) false [nx 5 (s + 1) false] 1 none se) ⟨se, next1 h1⟩ fun se => ?_
      exact (ih (om := false) (se := se) (hd := s + 1) h3 hp').more.more.more
theorem findR1 {x : List Nat} {s prev : Nat} (hx : x.length ≤ 250) (hp : (s == 0 || x.toArray.getD (s - 1) 0 == 10) = decide (prev = 10)) : findR code1 x s false = Option.some (find1 prev s (x.drop s)) := by
  have e : Sre.forSearch code1 x.toArray 0 s x.length false = if (decide (s > x.length) || decide (x.length - s < 1)) = true then { St code1 x s 5 s s true [] 0 (Option.some false) (({} : Sre.Seen).add 14) with lastStart := 0 } else St code1 x s 5 s s true [nx 5 s true] 1 none (({} : Sre.Seen).add 14) := by kernel_rfl
  by_cases hs : x.length ≤ s
  · rw [List.drop_eq_nil_of_le hs]
    refine Runs.find (n := 1) ?_ (by omega)
    rw [e, if_pos (by rw [decide_eq_true (show x.length - s < 1 by omega), Bool.or_true])]
    show _ = _
    kernel_rfl
  · have := try1 (hd := s) (om := true) (se := ({} : Sre.Seen).add 14) (rfl : x.drop s = x.drop s) hp
    refine Runs.find (n := 5 * (x.drop s).length + 5) ?_ (by rw [List.length_drop]; omega)
    rw [e, if_neg (by rw [decide_eq_false (show ¬ s > x.length by omega), decide_eq_false (show ¬ x.length - s < 1 by omega)]; decide)]
    exact this
end RX
end Mine
end
section
namespace Mine
namespace RX
open PySem.Sre PySem.Sre.M
def find2 : Nat → List Nat → Option (Nat × Nat)
  | _, [] => none
  | s, c :: l => if c = 10 then Option.some (s, s + 1) else if c = 13 then (if l.head? = Option.some 10 then Option.some (s, s + 2) else Option.some (s, s + 1)) else find2 (s + 1) l
/-- where an end of line stands -/
def endAt : Nat → List Nat → Option Nat
  | _, [] => none
  | s, c :: l => if c = 10 ∨ c = 13 then Option.some s else endAt (s + 1) l
theorem set2 (c : Nat) (se : Sre.Seen) : ∃ se', inSet code2 c code2.size 5 true se = .ok (decide (c = 10 ∨ c = 13), se') := by
  have e : inSet code2 c code2.size 5 true se = if (c == 10) = true then .ok (true, se.add 16) else if (c == 13) = true then .ok (true, (se.add 16).add 16) else .ok (false, ((se.add 16).add 16).add 0) := by kernel_rfl
  rw [e]
  by_cases h1 : c = 10
  · rw [if_pos (by rw [h1]; rfl), decide_eq_true (.inl h1)]; exact ⟨_, rfl⟩
  · rw [if_neg (by rw [beq_eq_false_iff_ne.mpr h1]; decide)]
    by_cases h2 : c = 13
    · rw [if_pos (by rw [h2]; rfl), decide_eq_true (.inr h2)]; exact ⟨_, rfl⟩
    · rw [if_neg (by rw [beq_eq_false_iff_ne.mpr h2]; decide), decide_eq_false (fun h => h.elim h1 h2)]; exact ⟨_, rfl⟩
theorem admit2 {m : M} {x : List Nat} (hc : m.code = code2) (ht : m.text = x.toArray) (hlim : m.lim = x.length) : ∀ (l : List Nat) (k s : Nat) (se : Sre.Seen), x.drop s = l → l.length < k → ∃ se', admitted m k s se = .ok (endAt s l, se')
  | l, 0, s, se, _, h => by omega
  | [], k + 1, s, se, hl, h => by
    rw [admitted, if_pos (by rw [hlim]; exact drop_nil hl)]
    exact ⟨_, rfl⟩
  | c :: l, k + 1, s, se, hl, h => by
    obtain ⟨h1, h2, h3⟩ := drop_at hl
    rw [admitted, if_neg (by rw [hlim]; omega), hc, ht, h2]
    obtain ⟨se', e⟩ := set2 c se
    rw [e]
    by_cases hd : c = 10 ∨ c = 13
    · rw [decide_eq_true hd, endAt, if_pos hd]; exact ⟨_, rfl⟩
    · rw [decide_eq_false hd, endAt, if_neg hd]
      exact admit2 hc ht hlim l k (s + 1) se' h3 (by rw [List.length_cons] at h; omega)
def nb (pc s : Nat) : Sre.Frame := { wait := .nextBranch, pc := pc, pos := s, outermost := true }
theorem br2 (x : List Nat) (s hd : Nat) (se : Sre.Seen) : (St code2 x s 10 s hd true [nx 10 s true] 1 none se).step = St code2 x s 12 s s true [nb 11 s, nx 10 s true] 2 none (se.add 7) := by kernel_rfl
theorem alt2 (x : List Nat) (s pc pos hd : Nat) (se : Sre.Seen) : (St code2 x s pc pos hd true [nb 11 s, nx 10 s true] 2 (Option.some false) se).step = St code2 x s 19 s s true [nb 18 s, nx 10 s true] 2 none se := by kernel_rfl
theorem alt3 (x : List Nat) (s pc pos hd : Nat) (se : Sre.Seen) : (St code2 x s pc pos hd true [nb 18 s, nx 10 s true] 2 (Option.some false) se).step = St code2 x s 24 s s true [nb 23 s, nx 10 s true] 2 none se := by kernel_rfl
theorem win2 (x : List Nat) (s pos hd pc : Nat) (se : Sre.Seen) : Runs 4 (St code2 x s 35 pos hd true [nb pc s, nx 10 s true] 2 none se) (Option.some (s, pos)) := by
  refine Runs.stepE (F := fun se => St code2 x s 35 pos pos true [nb pc s, nx 10 s true] 2 (Option.some true) se) ⟨se.add 1, by kernel_rfl⟩ fun se => ?_
  refine Runs.stepE (F := fun se => St code2 x s pc s pos true [nx 10 s true] 1 (Option.some true) se) ⟨se, by kernel_rfl⟩ fun se => ?_
  refine Runs.stepE (F := fun se => St code2 x s 10 s pos true [] 0 (Option.some true) se) ⟨se, by kernel_rfl⟩ fun se => ?_
  exact ⟨by kernel_rfl, rfl, rfl⟩
theorem end_find {x : List Nat} : ∀ (l : List Nat) (s : Nat), x.drop s = l → match endAt s l with
    | none => find2 s l = none
    | Option.some s' => ∃ c l', x.drop s' = c :: l' ∧ (c = 10 ∨ c = 13) ∧ find2 s l = find2 s' (c :: l')
  | [], s, _ => rfl
  | c :: l, s, hl => by
    obtain ⟨_, _, h3⟩ := drop_at hl
    by_cases hd : c = 10 ∨ c = 13
    · rw [endAt, if_pos hd]; exact ⟨c, l, hl, hd, rfl⟩
    · rw [endAt, if_neg hd, find2, if_neg (fun h => hd (.inl h)), if_neg (fun h => hd (.inr h))]
      exact end_find l (s + 1) h3
theorem ten2 {x : List Nat} {s : Nat} {se : Sre.Seen} (h : s < x.length) (hc : x.toArray.getD s 0 = 10) : Runs 9 (St code2 x s 10 s s true [nx 10 s true] 1 none se) (Option.some (s, s + 1)) := by
  refine Runs.stepE ⟨_, br2 x s s se⟩ fun se => ?_
  refine Runs.stepE (F := fun se => St code2 x s 12 s s true [nb 11 s, nx 10 s true] 2 (Option.some false) se) ⟨se.add 16, ?_⟩ fun se => ?_
  · exact (step_no (m := St code2 x s 12 s s true [nb 11 s, nx 10 s true] 2 none se) (fun k => absurd (hc.symm.trans k.2) (show ¬ 10 = 13 by decide)) rfl rfl (show 12 < 36 by decide) rfl).trans (by kernel_rfl)
  refine Runs.stepE ⟨_, alt2 x s 12 s s se⟩ fun se => ?_
  refine Runs.stepE (F := fun se => St code2 x s 21 (s + 1) s true [nb 18 s, nx 10 s true] 2 none se) ⟨se.add 16, ?_⟩ fun se => ?_
  · exact (step_yes (m := St code2 x s 19 s s true [nb 18 s, nx 10 s true] 2 none se) ⟨h, hc⟩ rfl rfl (show 19 < 36 by decide) rfl).trans (by kernel_rfl)
  refine Runs.stepE (F := fun se => St code2 x s 35 (s + 1) s true [nb 18 s, nx 10 s true] 2 none se) ⟨se.add 15, by kernel_rfl⟩ fun se => ?_
  exact win2 x s (s + 1) s 18 se
theorem both2 {x : List Nat} {s : Nat} {se : Sre.Seen} (h : s < x.length) (hc : x.toArray.getD s 0 = 13) (h' : s + 1 < x.length) (hc' : x.toArray.getD (s + 1) 0 = 10) : Runs 8 (St code2 x s 10 s s true [nx 10 s true] 1 none se) (Option.some (s, s + 2)) := by
  refine Runs.stepE ⟨_, br2 x s s se⟩ fun se => ?_
  refine Runs.stepE (F := fun se => St code2 x s 14 (s + 1) s true [nb 11 s, nx 10 s true] 2 none se) ⟨se.add 16, ?_⟩ fun se => ?_
  · exact (step_yes (m := St code2 x s 12 s s true [nb 11 s, nx 10 s true] 2 none se) ⟨h, hc⟩ rfl rfl (show 12 < 36 by decide) rfl).trans (by kernel_rfl)
  refine Runs.stepE (F := fun se => St code2 x s 16 (s + 2) s true [nb 11 s, nx 10 s true] 2 none se) ⟨se.add 16, ?_⟩ fun se => ?_
  · exact (step_yes (m := St code2 x s 14 (s + 1) s true [nb 11 s, nx 10 s true] 2 none se) ⟨h', hc'⟩ rfl rfl (show 14 < 36 by decide) rfl).trans (by kernel_rfl)
  refine Runs.stepE (F := fun se => St code2 x s 35 (s + 2) s true [nb 11 s, nx 10 s true] 2 none se) ⟨se.add 15, by kernel_rfl⟩ fun se => ?_
  exact win2 x s (s + 2) s 11 se
def lk (s : Nat) : Sre.Frame := { wait := .lookNot, pc := 26, pos := s, outermost := true }
theorem cr2 {x : List Nat} {s : Nat} {se : Sre.Seen} (h : s < x.length) (hc : x.toArray.getD s 0 = 13) (hc' : ¬ (s + 1 < x.length ∧ x.toArray.getD (s + 1) 0 = 10)) : Runs 15 (St code2 x s 10 s s true [nx 10 s true] 1 none se) (Option.some (s, s + 1)) := by
  refine Runs.stepE ⟨_, br2 x s s se⟩ fun se => ?_
  refine Runs.stepE (F := fun se => St code2 x s 14 (s + 1) s true [nb 11 s, nx 10 s true] 2 none se) ⟨se.add 16, ?_⟩ fun se => ?_
  · exact (step_yes (m := St code2 x s 12 s s true [nb 11 s, nx 10 s true] 2 none se) ⟨h, hc⟩ rfl rfl (show 12 < 36 by decide) rfl).trans (by kernel_rfl)
  refine Runs.stepE (F := fun se => St code2 x s 14 (s + 1) s true [nb 11 s, nx 10 s true] 2 (Option.some false) se) ⟨se.add 16, ?_⟩ fun se => ?_
  · exact (step_no (m := St code2 x s 14 (s + 1) s true [nb 11 s, nx 10 s true] 2 none se) hc' rfl rfl (show 14 < 36 by decide) rfl).trans (by kernel_rfl)
  refine Runs.stepE ⟨_, alt2 x s 14 (s + 1) s se⟩ fun se => ?_
  refine Runs.stepE (F := fun se => St code2 x s 19 s s true [nb 18 s, nx 10 s true] 2 (Option.some false) se) ⟨se.add 16, ?_⟩ fun se => ?_
  · exact (step_no (m := St code2 x s 19 s s true [nb 18 s, nx 10 s true] 2 none se) (fun k => absurd (hc.symm.trans k.2) (show ¬ 13 = 10 by decide)) rfl rfl (show 19 < 36 by decide) rfl).trans (by kernel_rfl)
  refine Runs.stepE ⟨_, alt3 x s 19 s s se⟩ fun se => ?_
  refine Runs.stepE (F := fun se => St code2 x s 26 (s + 1) s true [nb 23 s, nx 10 s true] 2 none se) ⟨se.add 16, ?_⟩ fun se => ?_
  · exact (step_yes (m := St code2 x s 24 s s true [nb 23 s, nx 10 s true] 2 none se) ⟨h, hc⟩ rfl rfl (show 24 < 36 by decide) rfl).trans (by kernel_rfl)
  refine Runs.stepE (F := fun se => St code2 x s 29 (s + 1) (s + 1) false [lk (s + 1), nb 23 s, nx 10 s true] 3 none se) ⟨se.add 5, by kernel_rfl⟩ fun se => ?_
  refine Runs.stepE (F := fun se => St code2 x s 29 (s + 1) (s + 1) false [lk (s + 1), nb 23 s, nx 10 s true] 3 (Option.some false) se) ⟨se.add 16, ?_⟩ fun se => ?_
  · exact (step_no (m := St code2 x s 29 (s + 1) (s + 1) false [lk (s + 1), nb 23 s, nx 10 s true] 3 none se) hc' rfl rfl (show 29 < 36 by decide) rfl).trans (by kernel_rfl)
  refine Runs.stepE (F := fun se => St code2 x s 32 (s + 1) (s + 1) true [nb 23 s, nx 10 s true] 2 none se) ⟨se, by kernel_rfl⟩ fun se => ?_
  refine Runs.stepE (F := fun se => St code2 x s 35 (s + 1) (s + 1) true [nb 23 s, nx 10 s true] 2 none se) ⟨se.add 15, by kernel_rfl⟩ fun se => ?_
  exact win2 x s (s + 1) (s + 1) 23 se
theorem go2 {x l : List Nat} {s c : Nat} {se : Sre.Seen} (hl : x.drop s = c :: l) (hc : c = 10 ∨ c = 13) : Runs 15 (St code2 x s 10 s s true [nx 10 s true] 1 none se) (find2 s (c :: l)) := by
  obtain ⟨h1, h2, h3⟩ := drop_at hl
  rw [find2]
  rcases hc with e | e
  · rw [if_pos e]; exact (ten2 h1 (h2.trans e)).le 6
  · rw [if_neg (by omega), if_pos e]
    by_cases hh : l.head? = Option.some 10
    · rw [if_pos hh]
      cases l with
      | nil => cases hh
      | cons d l =>
        obtain ⟨g1, g2, _⟩ := drop_at h3
        injection hh with hh
        exact (both2 h1 (h2.trans e) g1 (g2.trans hh)).le 7
    · rw [if_neg hh]
      refine cr2 h1 (h2.trans e) fun k => hh ?_
      cases l with
      | nil => have := drop_nil h3; omega
      | cons d l =>
        obtain ⟨g1, g2, _⟩ := drop_at h3
        rw [← g2, k.2]; rfl
theorem findR2 {x : List Nat} {s : Nat} : findR code2 x s false = Option.some (find2 s (x.drop s)) := by
  have e : Sre.forSearch code2 x.toArray 0 s x.length false = if (decide (s > x.length) || decide (x.length - s < 1)) = true then { St code2 x s 10 s s true [] 0 (Option.some false) (({} : Sre.Seen).add 14) with lastStart := 0 } else (St code2 x s 10 s s true [] 0 none (({} : Sre.Seen).add 14)).attemptFrom s true := by kernel_rfl
  by_cases hs : x.length ≤ s
  · rw [List.drop_eq_nil_of_le hs]
    refine Runs.find (n := 1) ?_ (by omega)
    rw [e, if_pos (by rw [decide_eq_true (show x.length - s < 1 by omega), Bool.or_true])]
    show _ = _
    kernel_rfl
  · obtain ⟨se, a⟩ := admit2 (m := St code2 x s 10 s s true [] 0 none (({} : Sre.Seen).add 14)) (x := x) rfl rfl rfl (x.drop s) (x.length + 1 - s) s (({} : Sre.Seen).add 14) rfl (by rw [List.length_drop]; omega)
    have hf : M.hasFirstSet (St code2 x s 10 s s true [] 0 none (({} : Sre.Seen).add 14)) = true := by kernel_rfl
    refine Runs.find (n := 15) ?_ (by omega)
    rw [e, if_neg (by rw [decide_eq_false (show ¬ s > x.length by omega), decide_eq_false (show ¬ x.length - s < 1 by omega)]; decide)]
    unfold M.attemptFrom
    rw [hf, if_neg (by decide)]
    rw [show admitted (St code2 x s 10 s s true [] 0 none (({} : Sre.Seen).add 14)) ((St code2 x s 10 s s true [] 0 none (({} : Sre.Seen).add 14)).lim + 1 - s) s (St code2 x s 10 s s true [] 0 none (({} : Sre.Seen).add 14)).seen = _ from a]
    have f := end_find (x.drop s) s rfl
    cases ha : endAt s (x.drop s) with
    | none =>
      rw [ha] at f
      rw [show find2 s (x.drop s) = none from f]
      refine Runs.le (n := 1) ?_ 14
      show _ = _
      kernel_rfl
    | some s' =>
      rw [ha] at f
      obtain ⟨c, l, hl, hc, f⟩ := f
      rw [f]
      exact go2 (se := se) hl hc
end RX
end Mine
end
section
namespace Mine
abbrev Rw := Nat × Nat
def rowS (r : Rw) : List Nat := List.replicate r.1 46 ++ [48 + r.2]
def endS : Nat → List Nat
  | 0 => [10]
  | 1 => [13, 10]
  | _ => [13]
def kt (f : Nat → List Nat) : Nat → List Rw → List (List Nat)
  | _, [] => []
  | i, r :: L => (rowS r ++ f i) :: kt f (i + 1) L
def upR (L : List Rw) : List Rw := L.map fun r => (r.1 + 1, r.2)
def mailS (L : List Rw) : List Nat := (kt (fun _ => [13, 10]) 0 L).flatten
def crlf : List Nat := [13, 10]
/-- what the mail of kept rows needs -/
def goodL (L : List Rw) : Bool :=
  (List.range 3).all (fun t => let x := (kt (fun i => endS ((t + i) % 3)) 0 L).flatten
    decide (x.length ≤ 500) && (match subR code2 x crlf with
      | some mid => decide (mid.length ≤ 500) && (subR code1 mid [46, 46] == some (mailS (upR L)))
      | none => false)) && (splitS (mailS (upR L)) crlf == (upR L).map rowS ++ [[]]) && decide ((mailS (upR L)).length ≤ 500) && L.all (fun r => decide (r.1 ≤ 4) && decide (r.2 ≤ 2)) && decide (L.length ≤ 20)
def keepR (words : List (List Nat)) (c : Nat) (r : Rw) : Bool :=
  match words[r.2]? with
  | none => false
  | some bet => decide (r.1 - 1 < bet.length) && (bet[r.1 - 1]? == some c)
def newR (words : List (List Nat)) : List Rw := (List.range words.length).map fun g => (1, g)
def mailR (good : List Rw → Bool) (words : List (List Nat)) : List Nat → List Rw → Option (List Rw)
  | [], rows => some rows
  | c :: cs, rows => if good ((rows ++ newR words).filter (keepR words c)) = true then mailR good words cs (upR ((rows ++ newR words).filter (keepR words c))) else none
def payGo (sides : Int) : List Rw → List Int → Option (List Int)
  | [], paid => some paid
  | r :: rs, paid => match paid[r.2]? with
    | none => none
    | some v => payGo sides rs (paid.set r.2 (v + sides ^ (r.1 - 1)))
def payOf (good : List Rw → Bool) (sides : Int) (words : List (List Nat)) (past : List Nat) : Option (List Int) :=
  match mailR good words past [] with
  | none => none
  | some rows => payGo sides rows (words.map fun _ => 0)

theorem kt_snoc (f : Nat → List Nat) (L : List Rw) (r : Rw) : ∀ i, kt f i (L ++ [r]) = kt f i L ++ [rowS r ++ f (i + L.length)] := by
  induction L with
  | nil => intro i; rfl
  | cons q L ih =>
    intro i
    show _ :: kt f (i + 1) (L ++ [r]) = _
    rw [ih, List.length_cons, show i + 1 + L.length = i + (L.length + 1) by omega]
    rfl
theorem kt_congr {f g : Nat → List Nat} (h : ∀ i, f i = g i) : ∀ (L : List Rw) (i : Nat), kt f i L = kt g i L
  | [], _ => rfl
  | r :: L, i => by rw [kt, kt, h, kt_congr h L]
theorem kt_len (f : Nat → List Nat) : ∀ (L : List Rw) (i : Nat), (kt f i L).length = L.length
  | [], _ => rfl
  | r :: L, i => by rw [kt, List.length_cons, List.length_cons, kt_len f L]
theorem cnt_rep (k : Nat) (l : List Nat) : cnt 46 (List.replicate k 46 ++ l) = k + cnt 46 l := by
  induction k with
  | zero => simp
  | succ k ih =>
    rw [List.replicate_succ, List.cons_append, cnt, ih, if_pos (by decide)]
    push_cast; omega
theorem cnt_row {r : Rw} (h : r.2 ≤ 2) : cnt 46 (rowS r) = r.1 := by
  unfold rowS
  rw [cnt_rep]
  show (r.1 : Int) + ((if (48 + r.2 == 46) = true then 1 else 0) + 0) = _
  rw [if_neg (by simp; omega)]; omega
theorem rowS_len (r : Rw) : (rowS r).length = r.1 + 1 := by unfold rowS; simp
theorem rowS_last (r : Rw) : (rowS r)[(if (-1 : Int) < 0 then -1 + ((rowS r).length : Int) else -1).toNat]? = some (48 + r.2) := by
  rw [if_pos (by decide), rowS_len]
  have : (-1 + ((r.1 + 1 : Nat) : Int)).toNat = r.1 := by omega
  rw [this]
  unfold rowS
  rw [List.getElem?_append_right (by simp)]
  simp
theorem digit {g : Nat} (h : g ≤ 2) : PySem.intText? (S [48 + g]) = some (g : Int) := by
  match g, h with
  | 0, _ => decide +kernel
  | 1, _ => decide +kernel
  | 2, _ => decide +kernel
theorem end_at (total : Int) (i : Nat) : ((total + i).fmod 3).toNat = ((total.fmod 3).toNat + i) % 3 := by
  rw [Int.fmod_eq_emod_of_nonneg _ (by decide), Int.fmod_eq_emod_of_nonneg _ (by decide)]; omega
end Mine
end
section
namespace Mine
structure RowsOk (words : List (List Nat)) (rows : List Rw) : Prop where
  split : splitS (mailS rows) crlf = rows.map rowS ++ [[]]
  len : (mailS rows).length ≤ 500
  each : ∀ r ∈ rows, 1 ≤ r.1 ∧ r.1 ≤ 5 ∧ r.2 ≤ 2 ∧ r.2 < words.length
  few : rows.length ≤ 20
theorem rowsOk_nil (words : List (List Nat)) : RowsOk words [] := ⟨by decide +kernel, by decide, fun r hr => (by cases hr), by decide⟩
theorem goodL_facts {L : List Rw} (h : goodL L = true) {t : Nat} (ht : t < 3) : ∃ mid, (kt (fun i => endS ((t + i) % 3)) 0 L).flatten.length ≤ 500 ∧ subR code2 (kt (fun i => endS ((t + i) % 3)) 0 L).flatten crlf = some mid ∧ mid.length ≤ 500 ∧ subR code1 mid [46, 46] = some (mailS (upR L)) := by
  simp only [goodL, Bool.and_eq_true, List.all_eq_true] at h
  have h1 := h.1.1.1.1 t (by simpa using ht)
  simp only [Bool.and_eq_true, decide_eq_true_eq] at h1
  obtain ⟨a, b⟩ := h1
  split at b
  · rename_i mid hm
    simp only [Bool.and_eq_true, decide_eq_true_eq, beq_iff_eq] at b
    exact ⟨mid, a, hm, b.1, b.2⟩
  · cases b
theorem goodL_rows {L : List Rw} (h : goodL L = true) : splitS (mailS (upR L)) crlf = (upR L).map rowS ++ [[]] ∧ (mailS (upR L)).length ≤ 500 ∧ (∀ r ∈ L, r.1 ≤ 4 ∧ r.2 ≤ 2) ∧ L.length ≤ 20 := by
  simp only [goodL, Bool.and_eq_true, List.all_eq_true, decide_eq_true_eq, beq_iff_eq] at h
  exact ⟨h.1.1.1.2, h.1.1.2, fun r hr => h.1.2 r hr, h.2⟩
theorem rowsOk_up {words : List (List Nat)} {L : List Rw} (h : goodL L = true) (hw : ∀ r ∈ L, r.2 < words.length) : RowsOk words (upR L) := by
  obtain ⟨a, b, c, d⟩ := goodL_rows h
  refine ⟨a, b, fun r hr => ?_, by unfold upR; rw [List.length_map]; exact d⟩
  obtain ⟨q, hq, rfl⟩ := List.mem_map.mp hr
  have h1 := c q hq
  have h2 := hw q hq
  exact ⟨by show 1 ≤ q.1 + 1; omega, by show q.1 + 1 ≤ 5; omega, h1.2, h2⟩
section
variable {Γ : Cx} {n : Nat} {fm : Fm} {σ σ' : List (Option Sl)} {pos : Pos} {Φ : Out → Prop}
set_option maxHeartbeats 2000000
abbrev raws (rs : List Rw) : List D := rs.map fun r => D.raw (rowS r)

/-- the rows of the mail, split -/
theorem Ev.mailRows {x : Str} {np p1 p2 p3 p4 : Pos} {words : List (List Nat)} {rows : List Rw} {k1 k2 : Nat} {cp1 cp2 sp : Pos} (hm : EvA Γ n fm σ (.Name x np) (.d (.raw (mailS rows)))) (R : RowsOk words rows) (hl : (p1.endLine == p2.line) = true)  :
    Ev Γ n fm σ (.Subscript (.Call (.Attribute (.Name x np) ("split" : Str) p1) [.Constant (.str ("\r\n" : Str)) k1 cp1] [] p2) (.Slice none (some (.UnaryOp .USub (.Constant (.int 1) k2 cp2) p3)) none sp) p4) (.own (raws rows)) := by
  refine Ev.to (Ev.lcut (EvA.o (Ev.smeth hm (EvAs.cons (EvA.raw (EvA.d (Ev.cstr (y := crlf) rfl))) EvAs.nil) F.slot_str_split (op_split (by decide) (by have := R.len; omega)) (by kernel_rfl) (hl := hl))) .none (.some (EvA.d (Ev.neg (EvA.d Ev.cint)))) ?_) ?_
  · rw [R.split, List.length_map, List.length_append, List.length_map]; have := R.few; simp; omega
  · rw [cut_init, R.split, List.map_append, List.dropLast_append_of_ne_nil (by simp)]
    simp only [List.map_cons, List.map_nil, List.dropLast_singleton, List.append_nil, List.map_map]
    rfl
/-- the word's number at the end of a row -/
theorem Ev.rowNo (B : Bs Γ) {x : Str} {np np2 p1 p2 p3 : Pos} {k2 : Nat} {cp2 : Pos} {r : Rw} (hk : fm.sc.names.lookup ("int" : Str) = some .globalImplicit) (hm : EvA Γ n fm σ (.Name x np) (.d (.raw (rowS r)))) (h : r.2 ≤ 2) (h1 : r.1 ≤ 5) :
    Ev Γ n fm σ (.Call (.Name ("int" : Str) np2) [.Subscript (.Name x np) (.UnaryOp .USub (.Constant (.int 1) k2 cp2) p1) p2] [] p3) (.fr (.int r.2)) := by
  refine Ev.tcall hk B.int (by kernel_rfl) (EvAs.cons (EvA.raw (EvA.d (Ev.sign hm (EvA.d (Ev.neg (EvA.d Ev.cint))) (rowS_last r) ?_ ?_))) EvAs.nil) (op_int1 (digit h) (by simp))
  · rw [rowS_len]; omega
  · rw [rowS_len]; omega
theorem kt_flat_len (f : Nat → List Nat) (hf : ∀ i, (f i).length ≤ 2) : ∀ (L : List Rw) (i : Nat), (∀ r ∈ L, r.1 ≤ 5) → (kt f i L).flatten.length ≤ 8 * L.length
  | [], _, _ => by simp [kt]
  | r :: L, i, h => by
    have h1 := h r List.mem_cons_self
    have h2 := hf i
    have h3 := kt_flat_len f hf L (i + 1) fun q hq => h q (List.mem_cons_of_mem _ hq)
    rw [kt, List.flatten_cons, List.length_append, List.length_append, rowS_len, List.length_cons]
    omega
theorem endS_len (t : Nat) : (endS t).length ≤ 2 := by
  match t with
  | 0 => decide
  | 1 => decide
  | t + 2 => show 1 ≤ 2; decide

theorem walk_pay (B : Bs Γ) (G : Gs Γ) (P : Ps Γ) (FF : Fs Γ) (good : List Rw → Bool) (hgood : ∀ L, good L = true → goodL L = true) (past : List Nat) (words : List (List Nat)) (sides total : Int) (paid : List Int)
    (hp : past.length ≤ 1000) (hw : words.length ≤ 3) (hwl : ∀ w ∈ words, w.length ≤ 1000) (hs : sides.natAbs < 2 ^ 64) (h : payOf good sides words past = some paid) :
    Fn Γ 43 fPay ([D.str past, D.list (words.map D.str), D.int sides, D.int total].map Ar.d) (.own (nums paid)) := by
  obtain ⟨aSub, FSub⟩ := FF.sub
  obtain ⟨aAdd, FAdd⟩ := FF.add
  obtain ⟨aCnt, FCnt⟩ := FF.count
  obtain ⟨aGet, FGet⟩ := FF.get
  obtain ⟨aLt, FLt⟩ := FF.lt
  obtain ⟨aSet, FSet⟩ := FF.set
  obtain ⟨aQ, FQ⟩ := FF.quote
  unfold payOf at h
  cases hm : mailR good words past [] with
  | none => rw [hm] at h; cases h
  | some final =>
  rw [hm] at h
  simp only at h
  let f : Nat → List Nat := fun i => endS (((total.fmod 3).toNat + i) % 3)
  have hf : ∀ i, (f i).length ≤ 2 := fun i => endS_len _
  have ht3 : (total.fmod 3).toNat < 3 := by have := fmod_lt (a := total) (b := 3) (by decide); omega
  refine Fn.mk (ps := ["past", "words", "sides", "total"]) (ns := ["past", "words", "sides", "total", "mail", "toss", "kept", "row", "won", "bet", "paid"]) (by kernel_rfl) (binds_four fun _ _ _ _ _ _ _ => by kernel_rfl) rfl (slots_of _ 7) (n := 40) (fun env => ?_) 43
  refine Ex.seq (Ex1.assign (sl := .fr (.raw (mailS []))) (Ev.raw (Ev.cstr rfl)) (.there (.there (.there (.there .here))))) ?_
  refine Ex.each (EvIt.text (EvA.raw (EvA.nm .here))) (fun ts σ => ∃ cs rows o5 o6 o7 o8 o9 o10, ts = (Mine.signs cs).map Itm.one ∧ σ = [some (.fr (.str past)), some (.fr (.list (words.map D.str))), some (.fr (.int sides)), some (.fr (.int total)), some (.fr (.raw (mailS rows))), o5, o6, o7, o8, o9, o10] ∧ mailR good words cs rows = some final ∧ RowsOk words rows)
    ⟨past, [], none, none, none, none, none, none, rfl, rfl, hm, rowsOk_nil words⟩ ?_ ?_
  · rintro t ts σ ⟨cs, rows, o5, o6, o7, o8, o9, o10, e1, rfl, e3, e4⟩
    cases cs with
    | nil => cases e1
    | cons c cs =>
    cases e1
    refine ⟨_, .one (.there (.there (.there (.there (.there .here))))) (.inl rfl), ?_⟩
    rw [mailR] at e3
    by_cases hg : good ((rows ++ newR words).filter (keepR words c)) = true
    case neg => rw [if_neg hg] at e3; cases e3
    rw [if_pos hg] at e3
    have gl := hgood _ hg
    generalize hall : (rows ++ newR words).filter (keepR words c) = all at hg e3 gl
    have few := e4.few
    refine Ex.seq (Ex1.assign Ev.noList (.there (.there (.there (.there (.there (.there .here))))))) ?_
    have hnew : cut none (some (words.length : Int)) [D.raw [46, 48], D.raw [46, 49], D.raw [46, 50]] = raws (newR words) := by
      rw [cut_take]
      unfold newR raws
      generalize words.length = m at hw
      match m, hw with
      | 0, _ => rfl
      | 1, _ => rfl
      | 2, _ => rfl
      | 3, _ => rfl
    refine Ex.each (its := (raws (rows ++ newR words)).map Itm.one) (EvIt.list (EvA.d (Ev.frz (Ev.to (Ev.bin (EvA.o (Ev.mailRows (EvA.nm (.there (.there (.there (.there .here))))) e4 (by rfl))) (EvA.o (Ev.lcut (EvA.o (Ev.list (ds := [D.raw [46, 48], D.raw [46, 49], D.raw [46, 50]]) (EvAs.d (Ev.raw (Ev.cstr rfl)) (EvAs.d (Ev.raw (Ev.cstr rfl)) (EvAs.d (Ev.raw (Ev.cstr rfl)) (ds := []) EvAs.nil))) (by decide))) .none (.some (EvA.d (Ev.to (Ev.bcall (by kernel_rfl) B.len (by kernel_rfl) (EvAs.cons (EvA.l (EvA.nm (.there .here))) EvAs.nil) (op_len (by rw [List.length_map]; omega))) (by rw [List.length_map])))) (by decide))) (op_ladd ?_)) ?_))))
      (fun ts σ => ∃ rs L o7 o8 o9, ts = (raws rs).map Itm.one ∧ σ = [some (.fr (.str past)), some (.fr (.list (words.map D.str))), some (.fr (.int sides)), some (.fr (.int total)), some (.fr (.raw (mailS rows))), some (.fr (.str [c])), some (.own ((kt f 0 L).map D.raw)), o7, o8, o9, o10] ∧
        L ++ rs.filter (keepR words c) = all ∧ (∀ r ∈ rs, 1 ≤ r.1 ∧ r.1 ≤ 5 ∧ r.2 ≤ 2 ∧ r.2 < words.length) ∧ (∀ r ∈ L, r.2 < words.length ∧ r.1 ≤ 5) ∧ L.length + rs.length ≤ 23)
      ⟨rows ++ newR words, [], o7, o8, o9, rfl, rfl, hall, fun r hr => ?_, fun r hr => (by cases hr), ?_⟩ ?_ ?_
    · rw [hnew]
      unfold raws newR
      simp only [List.length_map, List.length_range]; omega
    · rw [hnew]; unfold raws; rw [List.map_append]
    · rcases List.mem_append.mp hr with hr | hr
      · exact e4.each r hr
      · obtain ⟨g, hg', rfl⟩ := List.mem_map.mp hr
        have := List.mem_range.mp hg'
        exact ⟨by show 1 ≤ 1; decide, by show 1 ≤ 5; decide, by show g ≤ 2; omega, this⟩
    · unfold newR; simp; omega
    · rintro t ts σ ⟨rs, L, o7, o8, o9, f1, rfl, f3, f4, f5, f6⟩
      cases rs with
      | nil => cases f1
      | cons r rs =>
      cases f1
      obtain ⟨r1, r2, r3, r4⟩ := f4 r List.mem_cons_self
      have f4' : ∀ q ∈ rs, 1 ≤ q.1 ∧ q.1 ≤ 5 ∧ q.2 ≤ 2 ∧ q.2 < words.length := fun q hq => f4 q (List.mem_cons_of_mem _ hq)
      have f6' : L.length + 1 + rs.length ≤ 23 := by simp only [List.length_cons] at f6; omega
      refine ⟨_, .one (.there (.there (.there (.there (.there (.there (.there .here))))))) (.inl rfl), ?_⟩
      obtain ⟨bet, hbet⟩ : ∃ bet, words[r.2]? = some bet := ⟨_, List.getElem?_eq_getElem r4⟩
      have hbl := hwl bet (List.mem_of_getElem? hbet)
      refine Ex.seq (Ex1.assign (sl := .fr (.int ((r.1 - 1 : Nat) : Int))) (Ev.to (Ev.fcall FSub (by kernel_rfl) (by kernel_rfl) (by kernel_rfl) (EvAs.cons (EvA.d (Ev.fcall FCnt (by kernel_rfl) (by kernel_rfl) (by kernel_rfl) (EvAs.cons (EvA.nm (.there (.there (.there (.there (.there (.there (.there .here)))))))) (EvAs.cons (EvA.d (Ev.cstr (y := [46]) rfl)) EvAs.nil)) (walk_count (rowS r) 46))) (EvAs.cons (EvA.d Ev.cint) EvAs.nil)) (walk_sub _ 1)) (by rw [cnt_row r3]; congr 2; omega)) (.there (.there (.there (.there (.there (.there (.there (.there .here))))))))) ?_
      refine Ex.seq (Ex1.assign (sl := .fr (.str bet)) (Ev.fcall FGet (by kernel_rfl) (by kernel_rfl) (by kernel_rfl) (EvAs.cons (EvA.nm (.there .here)) (EvAs.cons (EvA.d (Ev.rowNo B (by kernel_rfl) (EvA.nm (.there (.there (.there (.there (.there (.there (.there .here)))))))) r3 r2)) EvAs.nil)) (walk_get (words.map D.str) r.2 (.str bet) (by rw [List.getElem?_map, hbet]; rfl) (by rw [List.length_map]; omega))) (.there (.there (.there (.there (.there (.there (.there (.there (.there .here)))))))))) ?_
      have hkeep : keepR words c r = (decide (((r.1 - 1 : Nat) : Int) < bet.length) && (bet[r.1 - 1]? == some c)) := by
        unfold keepR; rw [hbet]; simp only [Int.ofNat_lt]
      refine Ex.last (Ex1.if_ (c := keepR words c r) (Tr.to (Tr.and2 (Tr.val (Ev.fcall FLt (by kernel_rfl) (by kernel_rfl) (by kernel_rfl) (EvAs.cons (EvA.nm (.there (.there (.there (.there (.there (.there (.there (.there .here))))))))) (EvAs.cons (EvA.d (Ev.bcall (by kernel_rfl) B.len (by kernel_rfl) (EvAs.cons (EvA.raw (EvA.nm (.there (.there (.there (.there (.there (.there (.there (.there (.there .here))))))))))) EvAs.nil) (op_slen (by omega)))) EvAs.nil)) (walk_lt _ _))) (fun hc => ?two)) hkeep.symm) (fun hc => ?yes) (fun hc => ?no))
      case two =>
        have hlt : r.1 - 1 < bet.length := by simpa using hc
        obtain ⟨ch, hch⟩ : ∃ ch, bet[r.1 - 1]? = some ch := ⟨_, List.getElem?_eq_getElem hlt⟩
        refine Tr.to (Tr.cmp (EvA.raw (EvA.d (Ev.fcall FGet (by kernel_rfl) (by kernel_rfl) (by kernel_rfl) (EvAs.cons (EvA.raw (EvA.nm (.there (.there (.there (.there (.there (.there (.there (.there (.there .here))))))))))) (EvAs.cons (EvA.nm (.there (.there (.there (.there (.there (.there (.there (.there .here))))))))) EvAs.nil)) (walk_gets bet (r.1 - 1) ch hch (by omega))))) (EvA.raw (EvA.nm (.there (.there (.there (.there (.there .here))))))) op_seq) ?_
        rw [hch]
        simp
      case yes =>
        rw [List.filter_cons_of_pos hc] at f3
        refine Ex.last ((Ex1.append (d := .raw (rowS r ++ f L.length)) (.there (.there (.there (.there (.there (.there .here)))))) (Ev.bin (EvA.nm (.there (.there (.there (.there (.there (.there (.there .here)))))))) (EvA.d (Ev.item (ds := [D.raw [10], D.raw [13, 10], D.raw [13]]) (EvA.o (Ev.list (ds := [D.raw [10], D.raw [13, 10], D.raw [13]]) (EvAs.d (Ev.raw (Ev.cstr rfl)) (EvAs.d (Ev.raw (Ev.cstr rfl)) (EvAs.d (Ev.raw (Ev.cstr rfl)) (ds := []) EvAs.nil))) (by decide))) (EvA.d (Ev.bin (EvA.d (Ev.bin (EvA.nm (.there (.there (.there .here)))) (EvA.d (Ev.to (Ev.bcall (by kernel_rfl) B.len (by kernel_rfl) (EvAs.cons (EvA.own (.there (.there (.there (.there (.there (.there .here)))))) (by kernel_rfl)) EvAs.nil) (op_len (by rw [List.length_map, kt_len]; omega))) (by rw [List.length_map, kt_len]))) op_add)) (EvA.d Ev.cint) (op_mod (by decide)))) (d := .raw (f L.length)) ?it ?it0 (by decide))) (op_sadd ?sz)) (.there (.there (.there (.there (.there (.there .here)))))) (by rw [List.length_map, kt_len]; omega) (by kernel_rfl)).mono ?fin)
        case it =>
          have hb := fmod_lt (a := total + (L.length : Int)) (b := 3) (by decide)
          rw [if_neg (by omega), end_at]
          show [D.raw [10], D.raw [13, 10], D.raw [13]][_]? = some (D.raw (endS (((total.fmod 3).toNat + L.length) % 3)))
          have : ((total.fmod 3).toNat + L.length) % 3 < 3 := Nat.mod_lt _ (by decide)
          generalize ((total.fmod 3).toNat + L.length) % 3 = m at this
          match m, this with
          | 0, _ => rfl
          | 1, _ => rfl
          | 2, _ => rfl
        case it0 =>
          have hb := fmod_lt (a := total + (L.length : Int)) (b := 3) (by decide)
          simp; omega
        case sz => rw [rowS_len]; have := hf L.length; omega
        case fin =>
          rintro o rfl
          have hk : (kt f 0 (L ++ [r])).map D.raw = (kt f 0 L).map D.raw ++ [D.raw (rowS r ++ f L.length)] := by rw [kt_snoc, List.map_append, Nat.zero_add]; rfl
          refine ⟨rs, L ++ [r], _, _, _, rfl, by rw [hk], by rw [List.append_assoc]; exact f3, f4', fun q hq => ?_, by simp only [List.length_append, List.length_cons, List.length_nil]; omega⟩
          rcases List.mem_append.mp hq with hq | hq
          · exact f5 q hq
          · rw [List.mem_singleton.mp hq]; exact ⟨r4, r2⟩
      case no =>
        rw [List.filter_cons_of_neg (by rw [hc]; decide)] at f3
        exact Ex.nil ⟨rs, L, _, _, _, rfl, rfl, f3, f4', f5, by omega⟩
    · rintro σ ⟨rs, L, o7, o8, o9, f1, rfl, f3, f4, f5, f6⟩
      cases rs with
      | cons r rs => cases f1
      | nil =>
      rw [List.filter_nil, List.append_nil] at f3
      subst f3
      obtain ⟨mid, g1, g2, g3, g4⟩ := goodL_facts gl ht3
      have htx : ((kt f 0 L).map D.raw).map txt = kt f 0 L := by rw [List.map_map]; exact List.map_id _
      refine Ex.last ((Ex1.assign (sl := .fr (.raw (mailS (upR L)))) (Ev.fcall FQ (by kernel_rfl) (by kernel_rfl) (by kernel_rfl) (EvAs.cons (EvA.d (Ev.to (sl' := .fr (.raw (kt f 0 L).flatten)) (Ev.smeth (x := []) (EvA.raw (EvA.d (Ev.cstr (y := []) rfl))) (EvAs.cons (EvA.own (.there (.there (.there (.there (.there (.there .here)))))) (by kernel_rfl)) EvAs.nil) F.slot_str_join (op_joinr (fun d hd => by
        obtain ⟨z, _, rfl⟩ := List.mem_map.mp hd; rfl) (by rw [htx]; exact Nat.le_trans g1 (by decide))) (by kernel_rfl)) (by rw [htx]))) EvAs.nil) (walk_quote G P _ mid _ g1 g3 g2 g4)) (.there (.there (.there (.there .here))))).mono ?_)
      rintro o rfl
      exact ⟨cs, upR L, _, _, _, _, _, _, rfl, rfl, e3, rowsOk_up gl fun r hr => (f5 r hr).1⟩
  · rintro σ ⟨cs, rows, o5, o6, o7, o8, o9, o10, e1, rfl, e3, e4⟩
    cases cs with
    | cons c cs => cases e1
    | nil =>
    rw [mailR] at e3
    cases e3
    refine Ex.seq (σ' := [some (.fr (.str past)), some (.fr (.list (words.map D.str))), some (.fr (.int sides)), some (.fr (.int total)), some (.fr (.raw (mailS final))), o5, o6, o7, o8, o9, some (.own (nums (words.map fun _ => 0)))])
      ((Ex1.assignComp (its := (words.map D.str).map Itm.one) (ts := ["word"]) (frs := []) (liftS fun _ => some (D.int 0)) (EvIt.list (EvA.nm (.there .here))) .nil (by kernel_rfl) ?tg ?cb ?sz (.there (.there (.there (.there (.there (.there (.there (.there (.there (.there .here)))))))))) (by kernel_rfl) (by kernel_rfl) (by kernel_rfl)).mono ?cv) ?_
    case tg =>
      intro t ht
      obtain ⟨d, hd, rfl⟩ := List.mem_map.mp ht
      obtain ⟨x, _, rfl⟩ := List.mem_map.mp hd
      exact ⟨.one, rfl⟩
    case sz => rw [List.length_map, List.length_map]; omega
    case cb =>
      intro t ht e
      obtain ⟨d, hd, rfl⟩ := List.mem_map.mp ht
      obtain ⟨x, _, rfl⟩ := List.mem_map.mp hd
      exact ⟨true, .nil, fun _ => ⟨_, rfl, Ev.cint⟩, fun h => by cases h⟩
    case cv =>
      rintro o rfl
      rw [liftS_map, List.filterMap_eq_map']
      unfold nums
      rw [List.map_map]; rfl
    refine Ex.each (its := (raws final).map Itm.one) (EvIt.list (EvA.d (Ev.frz (Ev.mailRows (EvA.nm (.there (.there (.there (.there .here))))) e4 (by rfl)))))
      (fun ts σ => ∃ rs cur o7, ts = (raws rs).map Itm.one ∧ σ = [some (.fr (.str past)), some (.fr (.list (words.map D.str))), some (.fr (.int sides)), some (.fr (.int total)), some (.fr (.raw (mailS final))), o5, o6, o7, o8, o9, some (.own (nums cur))] ∧ payGo sides rs cur = some paid ∧ (∀ r ∈ rs, 1 ≤ r.1 ∧ r.1 ≤ 5 ∧ r.2 ≤ 2 ∧ r.2 < words.length) ∧ cur.length ≤ 3)
      ⟨final, _, o7, rfl, rfl, h, e4.each, by rw [List.length_map]; exact hw⟩ ?_ ?_
    · rintro t ts σ ⟨rs, cur, o7, f1, rfl, f3, f4, f5⟩
      cases rs with
      | nil => cases f1
      | cons r rs =>
      cases f1
      obtain ⟨r1, r2, r3, r4⟩ := f4 r List.mem_cons_self
      refine ⟨_, .one (.there (.there (.there (.there (.there (.there (.there .here))))))) (.inl rfl), ?_⟩
      rw [payGo] at f3
      cases hv : cur[r.2]? with
      | none => rw [hv] at f3; cases f3
      | some v =>
      rw [hv] at f3
      simp only at f3
      have hlt : r.2 < cur.length := (List.getElem?_eq_some_iff.mp hv).1
      refine Ex.last ((Ex1.callO (as := [.int r.2, .int (v + sides ^ (r.1 - 1))]) FSet (by kernel_rfl) (by kernel_rfl) (by kernel_rfl) (.there (.there (.there (.there (.there (.there (.there (.there (.there (.there .here)))))))))) (by kernel_rfl)
        (EvAs.cons (EvA.d (Ev.rowNo B (by kernel_rfl) (EvA.nm (.there (.there (.there (.there (.there (.there (.there .here)))))))) r3 r2)) (EvAs.cons (EvA.d (Ev.fcall FAdd (by kernel_rfl) (by kernel_rfl) (by kernel_rfl) (EvAs.cons (EvA.d (Ev.item (d := .int v) (EvA.own (.there (.there (.there (.there (.there (.there (.there (.there (.there (.there .here)))))))))) (by kernel_rfl)) (EvA.d (Ev.rowNo B (by kernel_rfl) (EvA.nm (.there (.there (.there (.there (.there (.there (.there .here)))))))) r3 r2)) (nums_get hv) (by omega) (by rw [List.length_map]; omega)))
          (EvAs.cons (EvA.d (Ev.to (sl' := .fr (.int (sides ^ (r.1 - 1)))) (Ev.bin (EvA.nm (.there (.there .here))) (EvA.d (Ev.to (sl' := .fr (.int ((r.1 - 1 : Nat) : Int))) (Ev.fcall FSub (by kernel_rfl) (by kernel_rfl) (by kernel_rfl) (EvAs.cons (EvA.d (Ev.fcall FCnt (by kernel_rfl) (by kernel_rfl) (by kernel_rfl) (EvAs.cons (EvA.nm (.there (.there (.there (.there (.there (.there (.there .here)))))))) (EvAs.cons (EvA.d (Ev.cstr (y := [46]) rfl)) EvAs.nil)) (walk_count (rowS r) 46))) (EvAs.cons (EvA.d Ev.cint) EvAs.nil)) (walk_sub _ 1)) (by rw [cnt_row r3]; congr 2; omega))) (op_pow (by omega) (by omega) hs)) (by rw [Int.toNat_natCast]))) EvAs.nil)) (walk_add _ _))) EvAs.nil))
        (walk_set (nums cur) r.2 _ (by rw [List.length_map]; exact hlt) (by rw [List.length_map]; omega)) (.there (.there (.there (.there (.there (.there (.there (.there (.there (.there .here)))))))))) (by decide)).mono ?fin)
      case fin =>
        rintro o rfl
        have hk : nums (cur.set r.2 (v + sides ^ (r.1 - 1))) = (nums cur).set r.2 (.int (v + sides ^ (r.1 - 1))) := by unfold nums; rw [List.map_set]
        exact ⟨rs, _, _, rfl, by rw [hk], f3, fun q hq => f4 q (List.mem_cons_of_mem _ hq), by rw [List.length_set]; exact f5⟩
    · rintro σ ⟨rs, cur, o7, f1, rfl, f3, f4, f5⟩
      cases rs with
      | cons r rs => cases f1
      | nil =>
      rw [payGo] at f3
      cases f3
      exact Ex.last (Ex1.retOwn (.there (.there (.there (.there (.there (.there (.there (.there (.there (.there .here)))))))))) rfl (by kernel_rfl))
end
end Mine
end
section
namespace Mine
def numbersOf (xs : List Int) : List Int := (xs.take 3).map (fun x => x.fmod 1000000) ++ [9, 1, 6].drop ((xs.take 3).length)
def alphs : List (List Nat) := [[97, 98, 99], [97, 10, 42], [10, 32, 98], [42, 91, 92]]
def alphOf (total : Int) : List Nat := alphs.getD ((total.fdiv 2).fmod 4).toNat []
def sidesOf (total : Int) : Int := 2 + total.fmod 2
def payAll (good : List Rw → Bool) (sides : Int) (words : List (List Nat)) : List (List Nat) → Option (List (List Int))
  | [] => some []
  | w :: ws => match payOf good sides words w with
    | none => none
    | some p => match payAll good sides words ws with
      | none => none
      | some ps => some (p :: ps)
def duesOf (sides : Int) (words : List (List Nat)) : List (List Int) := words.map fun past => words.map fun w => due past w sides
def meanAt (ch : List Int) (paids : List (List Int)) (m : Nat) (i : Int) : Int := ((rangeIs 0 1 m).map fun k => ch.getD k.toNat 0 * (paids.getD k.toNat []).getD i.toNat 0).sum
def meansOf (ch : List Int) (paids : List (List Int)) (m : Nat) : List Int := (rangeIs 0 1 m).map fun i => meanAt ch paids m i
def lastI (r0 : List Int) : Int := r0.getD (r0.length - 1) 0
def lawOk (good : List Rw → Bool) (sides : Int) (signs : List Nat) (words : List (List Nat)) : Bool :=
  decide (1 ≤ words.length) && decide (words.length ≤ 3) && words.all (fun w => decide (w.length ≤ 100)) && (headsOf words).all (fun hd => !hd.contains 46 && decide (hd.length ≤ 100)) &&
  (match payAll good sides words words with
  | none => false
  | some paids => decide (paids = duesOf sides words) &&
    (match stepsOf sides signs words with
    | none => false
    | some rs => (match solvedOf rs with
      | none => false
      | some rs' => (match rs'[0]? with
        | none => false
        | some r0 => decide (0 < r0.getD 0 0) && decide ((r0.dropLast.drop rs.length).sum = r0.getD 0 0) && decide ((r0.dropLast.drop rs.length).length = words.length) && decide (1 ≤ rs.length) && decide (rs.length ≤ 1000) && decide (rs'.length = rs.length) && rs.all (fun r => decide (r.length ≤ 1000)) && (r0.dropLast.drop rs.length).all (fun x => decide (Builtin.Int.intBits x ≤ 64)) && decide (1 ≤ r0.length) && decide (r0.length ≤ 1000) &&
          decide (meansOf (r0.dropLast.drop rs.length) paids words.length = words.map fun _ => lastI r0)))))
theorem payAll_at {good : List Rw → Bool} {sides : Int} {words : List (List Nat)} : ∀ {ws : List (List Nat)} {ps : List (List Int)}, payAll good sides words ws = some ps → (∀ w ∈ ws, ∃ p, payOf good sides words w = some p) ∧ ws.filterMap (fun w => (payOf good sides words w).map fun p => D.list (nums p)) = tabl ps
  | [], ps, h => by cases h; exact ⟨fun w hw => (by cases hw), rfl⟩
  | w :: ws, ps, h => by
    rw [payAll] at h
    split at h
    · cases h
    · rename_i p hp
      split at h
      · cases h
      · rename_i qs hq
        cases h
        obtain ⟨a, b⟩ := payAll_at hq
        refine ⟨fun v hv => ?_, ?_⟩
        · rcases List.mem_cons.mp hv with rfl | hv
          · exact ⟨p, hp⟩
          · exact a v hv
        · rw [List.filterMap_cons_some (b := D.list (nums p)) (by rw [hp]; rfl), b]; rfl
theorem payAll_len {good : List Rw → Bool} {sides : Int} {words : List (List Nat)} : ∀ {ws : List (List Nat)} {ps : List (List Int)}, payAll good sides words ws = some ps → ps.length = ws.length
  | [], ps, h => by cases h; rfl
  | w :: ws, ps, h => by
    rw [payAll] at h
    split at h
    · cases h
    · split at h
      · cases h
      · rename_i qs hq
        cases h
        rw [List.length_cons, List.length_cons, payAll_len hq]
theorem sidesOf_two (total : Int) : sidesOf total = 2 ∨ sidesOf total = 3 := by
  unfold sidesOf
  have := fmod_lt (a := total) (b := 2) (by decide)
  omega
theorem alph_len (total : Int) : (alphOf total).length = 3 := by
  have h := fmod_lt (a := total.fdiv 2) (b := 4) (by decide)
  unfold alphOf
  have : ((total.fdiv 2).fmod 4).toNat < 4 := by omega
  generalize ((total.fdiv 2).fmod 4).toNat = m at this
  match m, this with
  | 0, _ => rfl
  | 1, _ => rfl
  | 2, _ => rfl
  | 3, _ => rfl
section
variable {Γ : Cx} {n : Nat} {fm : Fm} {σ σ' : List (Option Sl)} {pos : Pos} {Φ : Out → Prop}
set_option maxHeartbeats 2000000

theorem law_body (B : Bs Γ) (G : Gs Γ) (P : Ps Γ) (H : HasA Γ) (FF : Fs Γ) (good : List Rw → Bool) (hgood : ∀ L, good L = true → goodL L = true) (hell : ∀ hd : List Nat, hd.contains 46 = false → hd.length ≤ 100 → ∀ th : List Nat, th.length ≤ 1000 → ellOk hd th = true)
    (xs : List Int) (hx : xs.length ≤ 1000)
    (h : lawOk good (sidesOf (numbersOf xs).sum) (alphOf (numbersOf xs).sum) (wordsOf (sidesOf (numbersOf xs).sum) (alphOf (numbersOf xs).sum) (numbersOf xs)) = true) :
    ∀ env, Ex Γ 60 (F3 env fLaw.scope ["script", "drawn", "numbers", "total", "sides", "signs", "words", "paid", "rows", "solved", "chances", "means"]) ([D.list (nums xs)].map (fun d => some (Sl.fr d)) ++ List.replicate 11 none) fLaw.body (fun o => o = .ret (.fr (.bool true))) := by
  intro env
  obtain ⟨aWords, FWords⟩ := FF.words
  obtain ⟨aPay, FPay⟩ := FF.pay
  obtain ⟨aDue, FDue⟩ := FF.due
  obtain ⟨aSteps, FSteps⟩ := FF.steps
  obtain ⟨aSolved, FSolved⟩ := FF.solved
  obtain ⟨aGt, FGt⟩ := FF.gt
  obtain ⟨aMul, FMul⟩ := FF.mul
  have hsd := sidesOf_two (numbersOf xs).sum
  have hal := alph_len (numbersOf xs).sum
  have hnl : (numbersOf xs).length ≤ 10 := by
    unfold numbersOf
    rw [List.length_append, List.length_map, List.length_drop, List.length_take]
    simp only [List.length_cons, List.length_nil]
    omega
  generalize htot : (numbersOf xs).sum = total at *
  generalize hsides : sidesOf total = sides at *
  generalize hsigns : alphOf total = sgs at *
  generalize hwords : wordsOf sides sgs (numbersOf xs) = words at *
  simp only [lawOk, Bool.and_eq_true, decide_eq_true_eq, List.all_eq_true, Bool.not_eq_true'] at h
  obtain ⟨⟨⟨⟨w1, w2⟩, w3⟩, w4⟩, h⟩ := h
  split at h
  · cases h
  rename_i paids hpaids
  simp only [Bool.and_eq_true, decide_eq_true_eq] at h
  obtain ⟨hdue, h⟩ := h
  split at h
  · cases h
  rename_i rs hrs
  split at h
  · cases h
  rename_i rs' hrs'
  split at h
  · cases h
  rename_i r0 hr0
  simp only [Bool.and_eq_true, decide_eq_true_eq, List.all_eq_true] at h
  obtain ⟨⟨⟨⟨⟨⟨⟨⟨⟨⟨c1, c2⟩, c3⟩, c4⟩, c5⟩, c6⟩, c7⟩, c8⟩, c9⟩, c10⟩, c11⟩ := h
  obtain ⟨pp1, pp2⟩ := payAll_at hpaids
  have hna : sides.natAbs < 2 ^ 64 := by omega
  refine Ex.seq (σ' := [some (.fr (.list (nums xs))), some (.own (nums ((xs.take 3).map fun x => x.fmod 1000000))), none, none, none, none, none, none, none, none, none, none])
    ((Ex1.assignComp (its := (xs.take 3).map fun i => Itm.one (.int i)) (ts := ["x"]) (frs := []) (liftN fun i => .int (i.fmod 1000000)) (EvIt.to (EvIt.own (EvA.o (Ev.lcut (EvA.l (EvA.nm .here)) .none (.some (EvA.d Ev.cint)) (by rw [List.length_map]; omega)))) ?its) .nil (by kernel_rfl) ?tg ?cb ?sz (.there .here) (by kernel_rfl) (by kernel_rfl) (by kernel_rfl)).mono ?cv) ?_
  case its =>
    rw [show (3 : Int) = ((3 : Nat) : Int) from rfl, cut_take]
    unfold nums
    rw [← List.map_take, List.map_map]; rfl
  case tg =>
    intro t ht
    obtain ⟨i, _, rfl⟩ := List.mem_map.mp ht
    exact ⟨.one, rfl⟩
  case sz => rw [List.length_map, List.length_take]; omega
  case cb =>
    intro t ht e
    obtain ⟨i, _, rfl⟩ := List.mem_map.mp ht
    exact ⟨true, .nil, fun _ => ⟨_, rfl, Ev.bin (EvA.nm .here) (EvA.d Ev.cint) (op_mod (by decide))⟩, fun h => by cases h⟩
  case cv =>
    rintro o rfl
    rw [liftN_map]
    unfold nums
    rw [List.map_map]; rfl
  refine Ex.seq (Ex1.assign (sl := .fr (.list (nums (numbersOf xs)))) (Ev.frz (Ev.to (Ev.bin (EvA.own (.there .here) (by kernel_rfl)) (EvA.o (Ev.lcut (EvA.o (Ev.list (ds := [.int 9, .int 1, .int 6]) (EvAs.d Ev.cint (EvAs.d Ev.cint (EvAs.d Ev.cint (ds := []) EvAs.nil))) (by decide))) (.some (EvA.d (Ev.bcall (by kernel_rfl) B.len (by kernel_rfl) (EvAs.cons (EvA.own (.there .here) (by kernel_rfl)) EvAs.nil) (op_len (by rw [List.length_map, List.length_map, List.length_take]; omega))))) .none (by decide))) (op_ladd ?sa)) ?na)) (.there (.there .here))) ?_
  case sa =>
    rw [cut_drop, List.length_map, List.length_map, List.length_take, List.length_drop]
    simp only [List.length_cons, List.length_nil]; omega
  case na =>
    rw [cut_drop]
    unfold numbersOf nums
    rw [List.map_append, List.map_drop, List.length_map, List.length_map]
    rfl
  refine Ex.seq (Ex1.assign (sl := .fr (.int total)) (Ev.to (Ev.bcall (by kernel_rfl) B.sum (by kernel_rfl) (EvAs.cons (EvA.l (EvA.nm (.there (.there .here)))) EvAs.nil) op_sum) (by rw [htot])) (.there (.there (.there .here)))) ?_
  refine Ex.seq (Ex1.assign (sl := .fr (.int sides)) (Ev.to (Ev.bin (EvA.d Ev.cint) (EvA.d (Ev.bin (EvA.nm (.there (.there (.there .here)))) (EvA.d Ev.cint) (op_mod (by decide)))) op_add) (by rw [← hsides]; rfl)) (.there (.there (.there (.there .here))))) ?_
  refine Ex.seq (Ex1.assign (sl := .fr (.str sgs)) (Ev.item (ds := alphs.map D.str) (EvA.o (Ev.list (ds := alphs.map D.str) (EvAs.d (Ev.cstr rfl) (EvAs.d (Ev.cstr rfl) (EvAs.d (Ev.cstr rfl) (EvAs.d (Ev.cstr rfl) (ds := []) EvAs.nil)))) (by decide))) (EvA.d (Ev.bin (EvA.d (Ev.bin (EvA.nm (.there (.there (.there .here)))) (EvA.d Ev.cint) (op_fdiv (by decide) (PyProof.noPylong_small (by decide))))) (EvA.d Ev.cint) (op_mod (by decide)))) ?ai ?a0 (by decide)) (.there (.there (.there (.there (.there .here)))))) ?_
  case ai =>
    have hb := fmod_lt (a := total.fdiv 2) (b := 4) (by decide)
    rw [if_neg (by omega), List.getElem?_map, ← hsigns]
    unfold alphOf
    have : ((total.fdiv 2).fmod 4).toNat < 4 := by omega
    generalize ((total.fdiv 2).fmod 4).toNat = m at this
    match m, this with
    | 0, _ => rfl
    | 1, _ => rfl
    | 2, _ => rfl
    | 3, _ => rfl
  case a0 =>
    have hb := fmod_lt (a := total.fdiv 2) (b := 4) (by decide)
    rw [List.length_map]
    show -((4 : Nat) : Int) ≤ _
    omega
  refine Ex.seq (Ex1.assign (sl := .fr (.list (words.map D.str))) (Ev.frz (Ev.to (Ev.fcall FWords (by kernel_rfl) (by kernel_rfl) (by kernel_rfl) (EvAs.cons (EvA.nm (.there (.there .here))) (EvAs.cons (EvA.nm (.there (.there (.there (.there .here))))) (EvAs.cons (EvA.nm (.there (.there (.there (.there (.there .here)))))) EvAs.nil))) (walk_words B sides sgs (numbersOf xs) hsd hal (by omega))) (by rw [hwords]))) (.there (.there (.there (.there (.there (.there .here))))))) ?_
  -- paid
  refine Ex.seq (Ex1.assign (sl := .fr (.list (tabl paids))) (Ev.frz (Ev.to (Ev.comp (its := (words.map D.str).map Itm.one) (ts := ["past"]) (frs := ["words", "sides", "total"]) (liftS fun w => (payOf good sides words w).map fun p => D.list (nums p)) (EvIt.list (EvA.nm (.there (.there (.there (.there (.there (.there .here)))))))) (.cons (.there (.there (.there (.there (.there (.there .here)))))) (.cons (.there (.there (.there (.there .here)))) (.cons (.there (.there (.there .here))) .nil))) (by kernel_rfl) ?tg2 ?cb2 ?sz2) ?cv2)) (.there (.there (.there (.there (.there (.there (.there .here))))))) (fun env h => swaps_false h (by kernel_rfl))) ?_
  case tg2 =>
    intro t ht
    obtain ⟨d, hd, rfl⟩ := List.mem_map.mp ht
    obtain ⟨x, _, rfl⟩ := List.mem_map.mp hd
    exact ⟨.one, rfl⟩
  case sz2 => rw [List.length_map, List.length_map]; omega
  case cv2 => rw [liftS_map, pp2]
  case cb2 =>
    intro t ht e
    obtain ⟨d, hd, rfl⟩ := List.mem_map.mp ht
    obtain ⟨x, hx', rfl⟩ := List.mem_map.mp hd
    obtain ⟨p, hp⟩ := pp1 x hx'
    refine ⟨true, .nil, fun _ => ⟨.list (nums p), ?_, Ev.frz (Ev.fcall FPay (by kernel_rfl) (by kernel_rfl) (by kernel_rfl) (EvAs.cons (EvA.nm .here) (EvAs.cons (EvA.nm (.there .here)) (EvAs.cons (EvA.nm (.there (.there .here))) (EvAs.cons (EvA.nm (.there (.there (.there .here)))) EvAs.nil)))) (walk_pay B G P FF good hgood x words sides total p (by have := w3 x hx'; omega) w2 (fun w hw => by have := w3 w hw; omega) hna hp))⟩, fun h => by cases h⟩
    show (payOf good sides words x).map _ = _
    rw [hp]; rfl
  -- the due
  refine Ex.seq (Ex1.if_ (c := false) (Tr.to (Tr.cmp (EvA.l (EvA.nm (.there (.there (.there (.there (.there (.there (.there .here))))))))) (EvA.to (b := .l (tabl (duesOf sides words))) (EvA.o (Ev.comp (its := (words.map D.str).map Itm.one) (ts := ["past"]) (frs := ["words", "sides"]) (liftS fun past => some (D.list (nums (words.map fun w => due past w sides)))) (EvIt.list (EvA.nm (.there (.there (.there (.there (.there (.there .here)))))))) (.cons (.there (.there (.there (.there (.there (.there .here)))))) (.cons (.there (.there (.there (.there .here)))) .nil)) (by kernel_rfl) ?tg3 ?cb3 ?sz3)) ?cv3) op_netabl) ?dq) (fun h => by cases h) (fun _ => Ex.nil rfl)) ?_
  case tg3 =>
    intro t ht
    obtain ⟨d, hd, rfl⟩ := List.mem_map.mp ht
    obtain ⟨x, _, rfl⟩ := List.mem_map.mp hd
    exact ⟨.one, rfl⟩
  case sz3 => rw [List.length_map, List.length_map]; omega
  case cv3 =>
    rw [liftS_map, List.filterMap_eq_map']
    show Ar.l _ = Ar.l (tabl (duesOf sides words))
    unfold tabl duesOf
    rw [List.map_map]; rfl
  case dq => rw [hdue]; simp
  case cb3 =>
    intro t ht e
    obtain ⟨d, hd, rfl⟩ := List.mem_map.mp ht
    obtain ⟨x, hx', rfl⟩ := List.mem_map.mp hd
    refine ⟨true, .nil, fun _ => ⟨_, rfl, Ev.frz (Ev.to (Ev.comp (its := (words.map D.str).map Itm.one) (ts := ["word"]) (frs := ["past", "sides"]) (liftS fun w => some (D.int (due x w sides))) (EvIt.list (EvA.nm (.there .here))) (.cons .here (.cons (.there (.there .here)) .nil)) (by kernel_rfl) ?tg4 ?cb4 ?sz4) ?cv4)⟩, fun h => by cases h⟩
    case tg4 =>
      intro t ht
      obtain ⟨d, hd, rfl⟩ := List.mem_map.mp ht
      obtain ⟨y, _, rfl⟩ := List.mem_map.mp hd
      exact ⟨.one, rfl⟩
    case sz4 => rw [List.length_map, List.length_map]; omega
    case cv4 =>
      rw [liftS_map, List.filterMap_eq_map']
      unfold nums
      rw [List.map_map]; rfl
    case cb4 =>
      intro t ht e
      obtain ⟨d, hd, rfl⟩ := List.mem_map.mp ht
      obtain ⟨y, hy', rfl⟩ := List.mem_map.mp hd
      exact ⟨true, .nil, fun _ => ⟨_, rfl, Ev.fcall FDue (by kernel_rfl) (by kernel_rfl) (by kernel_rfl) (EvAs.cons (EvA.nm (.there .here)) (EvAs.cons (EvA.nm .here) (EvAs.cons (EvA.nm (.there (.there .here))) EvAs.nil))) (walk_due B x y sides (by have := w3 x hx'; omega) (by have := w3 y hy'; omega) hna)⟩, fun h => by cases h⟩
  -- the rows
  refine Ex.seq (Ex1.assign (sl := .own (tabl rs)) (Ev.fcall FSteps (by kernel_rfl) (by kernel_rfl) (by kernel_rfl) (EvAs.cons (EvA.nm (.there (.there (.there (.there (.there (.there .here))))))) (EvAs.cons (EvA.nm (.there (.there (.there (.there .here))))) (EvAs.cons (EvA.nm (.there (.there (.there (.there (.there .here)))))) EvAs.nil))) (walk_steps B G H FF sides sgs words rs hsd hal (by omega) w3 (fun hd hm => hell hd (w4 hd hm).1 (w4 hd hm).2) (fun st hm => by
    unfold statesOf at hm
    have := (List.mem_filter.mp hm).1
    exact (w4 st (List.mem_reverse.mp this)).2) hrs)) (.there (.there (.there (.there (.there (.there (.there (.there .here))))))))) ?_
  refine Ex.seq (Ex1.assignO (as := [.int rs.length]) FSolved (by kernel_rfl) (by kernel_rfl) (by kernel_rfl) (.there (.there (.there (.there (.there (.there (.there (.there .here)))))))) (by kernel_rfl) (EvAs.cons (EvA.d (Ev.to (Ev.bcall (by kernel_rfl) B.len (by kernel_rfl) (EvAs.cons (EvA.own (.there (.there (.there (.there (.there (.there (.there (.there .here)))))))) (by kernel_rfl)) EvAs.nil) (op_len (by rw [List.length_map]; omega))) (by rw [List.length_map]))) EvAs.nil) (walk_solved B FF rs rs' r0 ⟨c4, c5⟩ c7 hrs' hr0) (.there (.there (.there (.there (.there (.there (.there (.there .here)))))))) (.there (.there (.there (.there (.there (.there (.there (.there (.there .here)))))))))) ?_
  -- the chances
  generalize hch : r0.dropLast.drop rs.length = ch at *
  refine Ex.seq (Ex1.assign (sl := .fr (.list (nums ch))) (Ev.frz (Ev.to (Ev.lcut (EvA.l (EvA.nm (.there (.there (.there (.there (.there (.there (.there (.there (.there .here))))))))))) (.some (EvA.d (Ev.to (sl' := .fr (.int (rs.length : Int))) (Ev.bcall (by kernel_rfl) B.len (by kernel_rfl) (EvAs.cons (EvA.own (.there (.there (.there (.there (.there (.there (.there (.there .here)))))))) (by kernel_rfl)) EvAs.nil) (op_len (by rw [List.length_map]; omega))) (by rw [List.length_map, c6])))) (.some (EvA.d (Ev.neg (EvA.d Ev.cint)))) (by rw [List.length_map]; omega)) ?cc)) (.there (.there (.there (.there (.there (.there (.there (.there (.there (.there .here))))))))))) ?_
  case cc =>
    rw [cut_mid, ← hch]
    unfold nums
    rw [List.map_drop, ← List.map_dropLast]
  have hr00 : (nums r0)[(if (0 : Int) < 0 then (0 : Int) + ((nums r0).length : Int) else 0).toNat]? = some (.int (r0.getD 0 0)) := by
    match r0, c9 with
    | x :: r, _ => rfl
  have lr0 : (nums r0).length ≤ 100000 := by rw [List.length_map]; omega
  refine Ex.seq (Ex1.if_ (c := false) (Tr.to (Tr.or2 (Tr.not (Tr.val (Ev.fcall FGt (by kernel_rfl) (by kernel_rfl) (by kernel_rfl) (EvAs.cons (EvA.d (Ev.item (d := .int (r0.getD 0 0)) (EvA.l (EvA.nm (.there (.there (.there (.there (.there (.there (.there (.there (.there .here))))))))))) (EvA.d Ev.cint) hr00 (by omega) lr0)) (EvAs.cons (EvA.d Ev.cint) EvAs.nil)) (walk_gt _ _))))
    (fun _ => Tr.cmp (EvA.d (Ev.bcall (by kernel_rfl) B.sum (by kernel_rfl) (EvAs.cons (EvA.l (EvA.nm (.there (.there (.there (.there (.there (.there (.there (.there (.there (.there .here)))))))))))) EvAs.nil) op_sum)) (EvA.d (Ev.item (d := .int (r0.getD 0 0)) (EvA.l (EvA.nm (.there (.there (.there (.there (.there (.there (.there (.there (.there .here))))))))))) (EvA.d Ev.cint) hr00 (by omega) lr0)) op_ne)) (by rw [c2, decide_eq_true c1]; simp)) (fun h => by cases h) (fun _ => Ex.nil rfl)) ?_
  -- the means
  have hpl := payAll_len hpaids
  refine Ex.seq (σ' := [some (.fr (.list (nums xs))), some (.own (nums ((xs.take 3).map fun x => x.fmod 1000000))), some (.fr (.list (nums (numbersOf xs)))), some (.fr (.int total)), some (.fr (.int sides)), some (.fr (.str sgs)), some (.fr (.list (words.map D.str))), some (.fr (.list (tabl paids))), some (.own (tabl rs')), some (.fr (.list (nums r0))), some (.fr (.list (nums ch))), some (.own (nums (meansOf ch paids words.length)))])
    ((Ex1.assignComp (its := (rangeIs 0 1 words.length).map fun i => Itm.one (.int i)) (ts := ["place"]) (frs := ["words", "chances", "paid"]) (liftN fun i => .int (meanAt ch paids words.length i)) (EvIt.range1 (k := words.length) (by kernel_rfl) B.range (EvA.d (Ev.to (Ev.bcall (by kernel_rfl) B.len (by kernel_rfl) (EvAs.cons (EvA.l (EvA.nm (.there (.there (.there (.there (.there (.there .here)))))))) EvAs.nil) (op_len (by rw [List.length_map]; omega))) (by rw [List.length_map]))) (by omega)) (.cons (.there (.there (.there (.there (.there (.there .here)))))) (.cons (.there (.there (.there (.there (.there (.there (.there (.there (.there (.there .here)))))))))) (.cons (.there (.there (.there (.there (.there (.there (.there .here))))))) .nil))) (by kernel_rfl) ?tg5 ?cb5 ?sz5 (.there (.there (.there (.there (.there (.there (.there (.there (.there (.there (.there .here))))))))))) (by kernel_rfl) (by kernel_rfl) (by kernel_rfl)).mono ?cv5) ?_
  case tg5 =>
    intro t ht
    obtain ⟨i, _, rfl⟩ := List.mem_map.mp ht
    exact ⟨.one, rfl⟩
  case sz5 => rw [List.length_map, rangeIs_length]; omega
  case cv5 =>
    rintro o rfl
    have hk : nums (meansOf ch paids words.length) = (rangeIs 0 1 words.length).map fun i => D.int (meanAt ch paids words.length i) := by
      unfold meansOf nums
      rw [List.map_map]; rfl
    rw [liftN_map, hk]
  case cb5 =>
    intro t ht e
    obtain ⟨pl, hpl', rfl⟩ := List.mem_map.mp ht
    obtain ⟨ip, hip, rfl⟩ := rangeIs_mem hpl'
    have eip : (0 : Int) + ip * 1 = (ip : Int) := by omega
    rw [eip]
    refine ⟨true, .nil, fun _ => ⟨_, rfl, Ev.bcall (by kernel_rfl) B.sum (by kernel_rfl) (EvAs.cons (EvA.to (EvA.o (Ev.comp (its := (rangeIs 0 1 words.length).map fun i => Itm.one (.int i)) (ts := ["k"]) (frs := ["chances", "place", "paid"]) (liftN fun k => .int (ch.getD k.toNat 0 * (paids.getD k.toNat []).getD (ip : Int).toNat 0)) (EvIt.range1 (k := words.length) (by kernel_rfl) B.range (EvA.d (Ev.to (Ev.bcall (by kernel_rfl) B.len (by kernel_rfl) (EvAs.cons (EvA.l (EvA.nm (.there .here))) EvAs.nil) (op_len (by rw [List.length_map]; omega))) (by rw [List.length_map]))) (by omega)) (.cons (.there (.there .here)) (.cons .here (.cons (.there (.there (.there .here))) .nil))) (by kernel_rfl) ?tg6 ?cb6 ?sz6)) ?cv6) EvAs.nil) op_sum⟩, fun h => by cases h⟩
    case tg6 =>
      intro t ht
      obtain ⟨i, _, rfl⟩ := List.mem_map.mp ht
      exact ⟨.one, rfl⟩
    case sz6 => rw [List.length_map, rangeIs_length]; omega
    case cv6 =>
      rw [liftN_map]
      show Ar.l _ = Ar.l (((rangeIs 0 1 words.length).map fun k => ch.getD k.toNat 0 * (paids.getD k.toNat []).getD (ip : Int).toNat 0).map D.int)
      rw [List.map_map]; rfl
    case cb6 =>
      intro t ht e
      obtain ⟨kk, hkk, rfl⟩ := List.mem_map.mp ht
      obtain ⟨ik, hik, rfl⟩ := rangeIs_mem hkk
      have eik : (0 : Int) + ik * 1 = (ik : Int) := by omega
      rw [eik]
      have hck : ch[ik]? = some (ch.getD ik 0) := by
        rw [List.getD_eq_getElem?_getD, List.getElem?_eq_getElem (by omega)]; rfl
      have hpk : paids[ik]? = some (paids.getD ik []) := by
        rw [List.getD_eq_getElem?_getD, List.getElem?_eq_getElem (by omega)]; rfl
      have hrow : (paids.getD ik []).length = words.length := by
        have hall : ∀ r ∈ paids, r.length = words.length := by
          rw [hdue]
          intro r hr
          unfold duesOf at hr
          obtain ⟨w, _, rfl⟩ := List.mem_map.mp hr
          rw [List.length_map]
        exact hall _ (List.mem_of_getElem? hpk)
      have hpp : (paids.getD ik [])[ip]? = some ((paids.getD ik []).getD ip 0) := by
        rw [List.getD_eq_getElem?_getD (l := paids.getD ik []), List.getElem?_eq_getElem (by omega)]; rfl
      refine ⟨true, .nil, fun _ => ⟨.int (ch.getD ik 0 * (paids.getD ik []).getD ip 0), ?_, Ev.fcall FMul (by kernel_rfl) (by kernel_rfl) (by kernel_rfl) (EvAs.cons (EvA.d (Ev.item (d := .int (ch.getD ik 0)) (EvA.l (EvA.nm (.there .here))) (EvA.nm .here) (nums_get hck) (by omega) (by rw [List.length_map]; omega))) (EvAs.cons (EvA.d (Ev.item (d := .int ((paids.getD ik []).getD ip 0)) (EvA.l (EvA.d (Ev.item (d := .list (nums (paids.getD ik []))) (EvA.l (EvA.nm (.there (.there (.there .here))))) (EvA.nm .here) (tabl_get hpk) (by omega) (by rw [List.length_map]; omega)))) (EvA.nm (.there (.there .here))) (nums_get hpp) (by omega) (by rw [List.length_map]; omega))) EvAs.nil)) (walk_mul _ _ (IntMulOk.of_left (c8 _ (List.mem_of_getElem? hck))))⟩, fun h => by cases h⟩
      show some (D.int (ch.getD (ik : Int).toNat 0 * (paids.getD (ik : Int).toNat []).getD (ip : Int).toNat 0)) = _
      rw [Int.toNat_natCast, Int.toNat_natCast]
  refine Ex.last (Ex1.ret (sl := .fr (.bool true)) (Ev.to (Ev.cmp (EvA.own (.there (.there (.there (.there (.there (.there (.there (.there (.there (.there (.there .here))))))))))) (by kernel_rfl)) (EvA.to (b := .l (nums (words.map fun _ => lastI r0))) (EvA.o (Ev.comp (its := (words.map D.str).map Itm.one) (ts := ["word"]) (frs := ["solved"]) (liftS fun _ => some (D.int (lastI r0))) (EvIt.list (EvA.nm (.there (.there (.there (.there (.there (.there .here)))))))) (.cons (.there (.there (.there (.there (.there (.there (.there (.there (.there .here))))))))) .nil) (by kernel_rfl) ?tg7 ?cb7 ?sz7)) ?cv7) op_eqnums) (by rw [c11]; simp)) rfl)
  case tg7 =>
    intro t ht
    obtain ⟨d, hd, rfl⟩ := List.mem_map.mp ht
    obtain ⟨x, _, rfl⟩ := List.mem_map.mp hd
    exact ⟨.one, rfl⟩
  case sz7 => rw [List.length_map, List.length_map]; omega
  case cv7 =>
    rw [liftS_map, List.filterMap_eq_map']
    unfold nums
    rw [List.map_map]; rfl
  case cb7 =>
    intro t ht e
    obtain ⟨d, hd, rfl⟩ := List.mem_map.mp ht
    obtain ⟨y, hy', rfl⟩ := List.mem_map.mp hd
    refine ⟨true, .nil, fun _ => ⟨_, rfl, Ev.item (EvA.l (EvA.nm (.there .here))) (EvA.d (Ev.neg (EvA.d Ev.cint))) ?_ (by rw [List.length_map]; omega) lr0⟩, fun h => by cases h⟩
    rw [if_pos (by decide), List.length_map]
    have e1 : (-1 + (r0.length : Int)).toNat = r0.length - 1 := by omega
    rw [e1, List.getElem?_map]
    unfold lastI
    rw [List.getD_eq_getElem?_getD, List.getElem?_eq_getElem (by omega)]; rfl
end
end Mine
end
section
namespace Mine
/-- a state that bears the frozen part, the tokens yet at nought perhaps -/
structure St0 (Γ : Cx) (W : Wd) (s : Shared) : Prop where
  gb : GB Γ
  base : ∀ a o, Γ.bs.get? a = some o → W.G a = some o
  sub : ∀ a o, W.G a = some o → s.heap.get? a = some o
  tok : ∀ t x, W.τ t = some x → t ≠ 0 ∧ t < s.toks
theorem St0.keepB {Γ : Cx} {W : Wd} {s : Shared} (h : St0 Γ W s) : ∀ a o, Γ.bs.get? a = some o → s.heap.get? a = some o := fun a o e => h.sub a o (h.base a o e)
theorem St0.fresh {Γ : Cx} {W : Wd} {s : Shared} (st : St0 Γ W s) {a : Addr} (h : s.heap.objs.size ≤ a) : s.heap.get? a = none ∧ W.G a = none := by
  have e : s.heap.get? a = none := Heap.get?_none_of_le h
  refine ⟨e, ?_⟩
  cases e' : W.G a with
  | none => rfl
  | some o => have := st.sub _ _ e'; rw [e] at this; cases this
section
variable {M : Model} {A : Around} {E : Value → Shared → Prop} {s : Shared}
theorem newEnv_one {scope : Scope} {globals : Addr} {bs : List (Str × Value)} {x0 : Str} {v0 : Value} {qual : Str} {func : Option Addr} {code : Value} {builtins : Addr} {Q : Env → Shared → Prop}
    (hk : scope.kind = .function) (hx : scope.names.lookup x0 = some .local) (hz : bs = [(x0, v0)])
    (hQ : ∀ env, env = newEnv scope s.heap.objs.size globals (cellsFrom (s.heap.objs.size + 1) scope.names []) qual func code none builtins →
      ∀ s', InCallC s env.locals (bindL env.kindOf bs fun _ => none) env.cells (bindC env.kindOf bs fun _ => none) s' → s.toks + 1 ≤ s'.toks → Q env s') :
    wpAny M A (newFunctionEnv scope globals [] bs qual func code none builtins) Q E s := by
  subst hz
  simp only [newFunctionEnv, Option.isSome_none, Bool.false_eq_true, if_false]
  refine wpAny_bind (wpAny_alloc ?_)
  refine wpAny_bind (wpAny_layCells _ (fun name kind cells => by cases hkc : kind == NameKind.cell <;> simp [hkc]) _ _ _ _ ?_)
  have ok := cellsFrom_ok scope.names (s.heap.push { cls := .type "frame", data := .dict #[] }) (s.heap.objs.size + 1) [] ⟨fun _ _ hm => (nomatch hm), List.Pairwise.nil⟩ (by rw [Heap.size_push]; exact Nat.le_refl _)
  rw [Heap.size_push] at ok
  rw [show ({ s with heap := s.heap.push { cls := .type "frame", data := .dict #[] } } : Shared).heap.objs.size = s.heap.objs.size + 1 from Heap.size_push ..]
  have X0 : InCallC s s.heap.objs.size (fun _ => none) (cellsFrom (s.heap.objs.size + 1) scope.names []) (fun _ => none) { s with heap := pushCells (s.heap.push { cls := .type "frame", data := .dict #[] }) scope.names } :=
    ⟨⟨⟨_, _, rfl⟩, (Heap.Ns.new s.heap (.type "frame")).keeps (pushCells_keeps _ _), fun b o e => pushCells_keeps _ _ b o (Heap.get?_push_of_some _ e), Nat.le_refl _⟩,
      fun n c hc => (ok.empty n c (mem_of_lookup hc)).1, ok.apart, fun n c hm => (ok.empty n c hm).2⟩
  refine wpAny_bind ?_
  rw [List.forIn_cons]
  have hl : (newEnv scope s.heap.objs.size globals (cellsFrom (s.heap.objs.size + 1) scope.names []) qual func code none builtins).kindOf x0 = some .local := hx
  refine wpAny_bind (wpAny_bind (wpAny_mono (wpAny_toks_of (n := s.toks) (s := { s with heap := pushCells (s.heap.push { cls := .type "frame", data := .dict #[] }) scope.names }) (Nat.le_refl _) (?_ : wpAny M A (storeName (newEnv scope s.heap.objs.size globals (cellsFrom (s.heap.objs.size + 1) scope.names []) qual func code none builtins) x0 v0) (fun _ s' => InCallC s s.heap.objs.size (fun y => if y = x0 then some v0 else none) (cellsFrom (s.heap.objs.size + 1) scope.names []) (fun _ => none) s' ∧ s.toks + 1 ≤ s'.toks) E _)) (fun _ s' q => wpAny_pure ?_) fun _ _ q => q.2))
  · refine wpAny_storeName_local hl X0.toInCall.ns (fun h' hn' hs' => ⟨?_, Nat.le_refl _⟩) (by show (scope.kind == .class || (scope.kind == .module && _)) = false; rw [hk]; rfl)
    refine ⟨⟨⟨h', _, rfl⟩, hn', fun b o e => ?_, Nat.le_refl _⟩, fun k c hc => ?_, X0.apart, X0.above⟩
    · exact hs'.extBut b o (Nat.ne_of_lt (Heap.lt_size e)) (X0.toInCall.keep b o e)
    · exact (X0.cell k c hc).sameBut hs' (Nat.ne_of_gt (X0.above k c (mem_of_lookup hc)))
  · have e1 : bindL (newEnv scope s.heap.objs.size globals (cellsFrom (s.heap.objs.size + 1) scope.names []) qual func code none builtins).kindOf [(x0, v0)] (fun _ => none) = fun y => if y = x0 then some v0 else none := by
      unfold bindL; rw [if_pos hl]; rfl
    have e2 : bindC (newEnv scope s.heap.objs.size globals (cellsFrom (s.heap.objs.size + 1) scope.names []) qual func code none builtins).kindOf [(x0, v0)] (fun _ => none) = fun _ => none := by
      unfold bindC; rw [if_pos hl]; rfl
    dsimp only
    rw [List.forIn_nil]
    refine wpAny_pure (wpAny_pure (hQ _ rfl s' ?_ q.2.2))
    rw [e1, e2]
    exact q.2.1
end
section
variable {Γ : Cx} {n : Nat} {fm : Fm} {σ σ' : List (Option Sl)} {pos p : Pos} {W : Wd} {s : Shared} {A : Around} {gh : Gh}
theorem call_core0 {f : FD} {a : Addr} {ps ns : List Str} {σ₀ : List (Option Sl)} {pin : Option (Addr × (List D → Prop))} {Φ : Out → Prop} {vals : List Value} {Q : Value → Shared → Prop} {E : Value → Shared → Prop}
    (hf : FnAt Γ f a) (hok : fnOk f ps ns = true) (hbind : Binds f ps) (hA : AOk (n + 3) A) (st : St0 Γ W s) (x0 : Str) (hps : ps = [x0]) (hx0 : f.scope.names.lookup x0 = some .local) (pf : PF gh W s) (hF : ∀ b, s.heap.get? b = none → gh.F b = none) (hlen : vals.length = ps.length)
    (hσ : ∀ (i : Nat) (sl : Sl), σ₀[i]? = some (some sl) → ∃ v, vals[i]? = some v ∧ SlR W s.heap v sl)
    (hown : ∀ (i : Nat) ds b, σ₀[i]? = some (some (.own ds)) → vals[i]? = some (.ref b) → i = 0 ∧ gh.F b = none) (hpin : ∀ b P, pin = some (b, P) → vals[0]? = some (.ref b))
    (body : ∀ env, Ex Γ n ⟨env, f.scope, ns, pin⟩ σ₀ f.body Φ)
    (k : ∀ env W' s' fl o, Φ o → Post Γ gh ⟨env, f.scope, ns, pin⟩ W' s' fl o → Q (match fl with | .ret v => v | _ => .none) s') : wpAny (model Γ.prog Γ.w) A (call (.ref a) vals) Q E s := by
  simp only [fnOk, Bool.and_eq_true, beq_iff_eq, Bool.not_eq_true', List.all_eq_true, Bool.or_eq_true, decide_eq_true_eq, List.contains_iff_mem] at hok
  obtain ⟨⟨⟨⟨⟨h1, h2⟩, h3⟩, h4⟩, h5⟩, h6⟩ := hok
  have hpre : ps <+: ns := List.isPrefixOf_iff_prefix.mp h5
  obtain ⟨rest, hns⟩ := hpre
  have hpsn : ps.Nodup := (List.nodup_append.mp (hns ▸ h4)).1
  have psat : ∀ (i : Nat) x, i < ps.length → ns[i]? = some x → ps[i]? = some x := fun i x hi e => by
    rw [← hns, List.getElem?_append_left hi] at e; exact e
  obtain ⟨o, pm, cd, doc, f1, f2, f3⟩ := hf.ob
  have hkind : ∀ x ∈ ps.zip vals, f.scope.names.lookup x.1 = some .local ∨ (f.scope.names.lookup x.1 = some .cell ∧ ((cellsFrom (s.heap.objs.size + 1) f.scope.names []).lookup x.1).isSome = true) := fun x hx => by
    have hm : x.1 ∈ ns := by rw [← hns]; exact List.mem_append_left _ (List.of_mem_zip hx).1
    rcases h6 x.1 hm with h | ⟨h, h'⟩
    · exact .inl h
    · refine .inr ⟨h, ?_⟩
      obtain ⟨c, hc, _⟩ := cellsFrom_new x.1 f.scope.names (s.heap.push { cls := .type "frame", data := .dict #[] }) [] h'
      rw [Heap.size_push] at hc
      rw [hc]; rfl
  refine wpAny_call ?_
  refine codeAny_call_function (fd := Calls.docDef f.name f.params f.body f.scope pm cd doc) hA.room (st.keepB _ _ f1) f2 h2 h3 rfl (f3.keeps st.keepB) ?_
  rw [hbind pm cd doc vals hlen]
  refine wpAny_pure ?_
  have hz : ∃ v0, ps.zip vals = [(x0, v0)] := by
    subst hps
    match vals, hlen with
    | [v0], _ => exact ⟨v0, rfl⟩
  obtain ⟨v0, hz⟩ := hz
  refine wpAny_mono (newEnv_one (s := s) (E := fun _ _ => False) (Q := fun env s' => env = newEnv f.scope s.heap.objs.size mainGlobals (cellsFrom (s.heap.objs.size + 1) f.scope.names []) (f.name ++ ".<locals>.") (some a) cd none builtinsNs ∧ InCallC s env.locals (bindL env.kindOf (ps.zip vals) fun _ => none) env.cells (bindC env.kindOf (ps.zip vals) fun _ => none) s' ∧ s.toks + 1 ≤ s'.toks) h1 hx0 hz fun env he s' x tk => ⟨he, x, tk⟩) (fun env s₁ q => ?_) fun _ _ f => f.elim
  obtain ⟨he, X, htk1⟩ := q
  have htk : s.toks ≤ s₁.toks := Nat.le_trans (Nat.le_succ _) htk1
  refine ⟨(st.gb.nolimit.keeps st.keepB).keeps X.toInCall.keep, codeAny_func ?_⟩
  have hA' : AOk n (A.deeper env) := ⟨hA.hh, by have := hA.depth; show A.depth + 1 + n ≤ 700; omega, by have := hA.units; show A.units + 3 + n ≤ 2000; omega⟩
  have xs : PS Γ W s W s₁ := by
    obtain ⟨h', tk, e⟩ := X.toInCall.same
    have hk := X.toInCall.keep
    subst e
    exact ⟨⟨hk, .refl W, fun _ _ h => .inl h, htk, rfl⟩, ⟨st.gb, st.base, fun a o e => hk a o (st.sub a o e), fun t y e => ⟨(st.tok t y e).1, Nat.lt_of_lt_of_le (st.tok t y e).2 htk⟩, Nat.le_trans (Nat.succ_le_succ (Nat.zero_le _)) htk1⟩⟩
  have hesc : env.scope = f.scope := by rw [he]; rfl
  have hL : env.locals = s.heap.objs.size := by rw [he]; rfl
  have hcs : env.cells = cellsFrom (s.heap.objs.size + 1) f.scope.names [] := by rw [he]; rfl
  have fresh : ∀ b, s.heap.objs.size ≤ b → gh.F b = none ∧ W.G b = none := fun b hb => by
    obtain ⟨g1, g2⟩ := st.fresh hb
    exact ⟨hF b g1, g2⟩
  have hcell : ∀ x c, env.cells.lookup x = some c → s.heap.objs.size ≤ c := fun x c h => by
    have := X.above x c (mem_of_lookup h)
    rw [hL] at this
    exact Nat.le_of_lt this
  have kinds : ∀ (i : Nat) (x : Str), ns[i]? = some x → env.kindOf x = some .local ∨ (env.kindOf x = some .cell ∧ ∃ c, env.cells.lookup x = some c) := fun i x e => by
    show env.scope.names.lookup x = _ ∨ (env.scope.names.lookup x = _ ∧ _)
    rw [hesc, hcs]
    rcases h6 x (List.mem_of_getElem? e) with h | ⟨h, h'⟩
    · exact .inl h
    · refine .inr ⟨h, ?_⟩
      obtain ⟨c, hc, _⟩ := cellsFrom_new x f.scope.names (s.heap.push { cls := .type "frame", data := .dict #[] }) [] h'
      rw [Heap.size_push] at hc
      exact ⟨c, hc⟩
  have va : ∀ (i : Nat) (x : Str) v, ns[i]? = some x → vals[i]? = some v → VarAt env s₁.heap x v := fun i x v e1 e2 => by
    have hi : i < ps.length := by rw [← hlen]; exact (List.getElem?_eq_some_iff.mp e2).1
    have e1' := psat i x hi e1
    rcases kinds i x e1 with hk | ⟨hk, c, hc⟩
    · exact .inl ⟨hk, _, X.toInCall.ns, bindL_get ps vals _ i x v hpsn e1' e2 hk⟩
    · refine .inr ⟨hk, c, hc, ?_⟩
      have := X.cell x c hc
      rw [bindC_get ps vals _ i x v hpsn e1' e2 (by rw [hk]; decide)] at this
      exact this
  have mt : ∀ b, Mut ⟨env, f.scope, ns, pin⟩ σ₀ s₁.heap b → gh.F b = none ∧ W.G b = none := fun b m => by
    rcases m with e | ⟨x, e⟩ | ⟨i, x, ds, e1, e2, e3⟩
    · rw [e]; exact fresh _ (by show _ ≤ env.locals; rw [hL]; exact Nat.le_refl _)
    · exact fresh _ (hcell x b e)
    · obtain ⟨v, hv, hs⟩ := hσ i _ e2
      have := (va i x v e1 hv).inj e3
      subst this
      obtain ⟨b', vs, m, eb, hG, _⟩ := hs
      cases eb
      exact ⟨(hown i ds b e2 hv).2, hG⟩
  have sat : Sat Γ gh ⟨env, f.scope, ns, pin⟩ σ₀ W s₁ := by
    refine ⟨⟨xs.st, ⟨hesc, h1, by rw [he]; rfl, by rw [he]; rfl, h4⟩, fun i x sl e1 e2 => ?_⟩, pf.ps xs, fun b m => (mt b m).1, fun b m => (mt b m).2, ⟨_, X.toInCall.ns⟩, fun x c e => ⟨_, X.cell x c e⟩, fun x y c e1 e2 => name_of_addr X.apart (mem_of_lookup e1) (mem_of_lookup e2), kinds, fun i j x y dx dy b hij e1 e2 e3 e4 e5 e6 => ?_, fun b x ds p1 p2 p3 => va 0 x _ p2 (hpin b.1 b.2 p1)⟩
    · obtain ⟨v, hv, hs⟩ := hσ i sl e2
      exact ⟨v, va i x v e1 hv, hs.ps xs⟩
    · obtain ⟨v, hv, hs⟩ := hσ i _ e3
      obtain ⟨v', hv', hs'⟩ := hσ j _ e4
      obtain ⟨b1, _, _, rfl, _⟩ := hs
      obtain ⟨b2, _, _, rfl, _⟩ := hs'
      exact hij ((hown i dx b1 e3 hv).1.trans (hown j dy b2 e4 hv').1.symm)
  refine wpAny_mono (body env (A.deeper env) gh W s₁ hA' sat) (fun fl s' q => ?_) fun _ _ f => f.elim
  obtain ⟨W', o', ho, p⟩ := q
  exact k env W' s' fl o' ho p

end
end Mine
end
section
namespace Mine
section
variable {Γ : Cx} {A : Around} {W : Wd} {s : Shared}
theorem law_call (B : Bs Γ) (G : Gs Γ) (P : Ps Γ) (H : HasA Γ) (FF : Fs Γ) (good : List Rw → Bool) (hgood : ∀ L, good L = true → goodL L = true) (hell : ∀ hd : List Nat, hd.contains 46 = false → hd.length ≤ 100 → ∀ th : List Nat, th.length ≤ 1000 → ellOk hd th = true)
    (xs : List Int) (hx : xs.length ≤ 1000)
    (h : lawOk good (sidesOf (numbersOf xs).sum) (alphOf (numbersOf xs).sum) (wordsOf (sidesOf (numbersOf xs).sum) (alphOf (numbersOf xs).sum) (numbersOf xs)) = true)
    {a : Addr} (hf : FnAt Γ fLaw a) (hA : AOk 63 A) (st : St0 Γ W s) {v : Value} (hv : Rep W v (.list (nums xs))) {E : Value → Shared → Prop} :
    wpAny (model Γ.prog Γ.w) A (call (.ref a) [v]) (fun r s' => r = .bool true ∧ ∃ W', PF (Gh.of W s) W' s') E s := by
  refine call_core0 (n := 60) (ps := ["script"]) (ns := ["script", "drawn", "numbers", "total", "sides", "signs", "words", "paid", "rows", "solved", "chances", "means"]) (σ₀ := [D.list (nums xs)].map (fun d => some (Sl.fr d)) ++ List.replicate 11 none) (gh := Gh.of W s) (pin := none) hf (by kernel_rfl) (binds_one fun _ _ _ _ => by kernel_rfl) hA st "script" rfl (by kernel_rfl) (.refl W s) (fun b h => h) rfl (fun i q e => ?_) (fun i es b e1 e2 => ?_) (fun b P h => by cases h) (law_body B G P H FF good hgood hell xs hx h) fun env W' s' fl o ho q => ?_
  · obtain ⟨d, hd, rfl⟩ := slots_of [D.list (nums xs)] 11 i q e
    cases i with
    | zero => cases hd; exact ⟨v, rfl, hv⟩
    | succ i => simp at hd
  · obtain ⟨d, hd, e⟩ := slots_of [D.list (nums xs)] 11 i _ e1
    cases e
  · subst ho
    obtain ⟨u, rfl, pf, _, r, _⟩ := q
    cases r with
    | bool b => exact ⟨rfl, W', pf⟩
end
end Mine
end
section
namespace Mine
namespace HA
theorem lk_str_getitem : typeLookup (.type "str") "__getitem__" = pure (some (.builtin "str.__getitem__")) := by rw [typeLookup_type, builtinLookup_eq_fast]; kernel_rfl
theorem lk_str_ga : typeLookup (.type "str") "__getattribute__" = pure (some (.builtin "object.__getattribute__")) := by rw [typeLookup_type, builtinLookup_eq_fast]; kernel_rfl
theorem ty_gi : typeOf (.builtin "str.__getitem__") = pure (.type "wrapper_descriptor") := by kernel_rfl
theorem lk_wd_get : typeLookup (.type "wrapper_descriptor") "__get__" = pure (some (.builtin "wrapper_descriptor.__get__")) := by rw [typeLookup_type, builtinLookup_eq_fast]; kernel_rfl
theorem lk_wd_set : typeLookup (.type "wrapper_descriptor") "__set__" = pure none := by rw [typeLookup_type, builtinLookup_eq_fast]; kernel_rfl
theorem lk_wd_del : typeLookup (.type "wrapper_descriptor") "__delete__" = pure none := by rw [typeLookup_type, builtinLookup_eq_fast]; kernel_rfl
theorem slot_wd_get : Slot "wrapper_descriptor" "__get__" "wrapper_descriptor.__get__" :=
  .of (owner := "wrapper_descriptor") (n := "__get__") (by rw [typeLookup_type, builtinLookup_eq_fast]; kernel_rfl) (by decide +kernel) (by decide +kernel) (by decide +kernel)
    (by first | exact .inl (by decide +kernel) | exact .inr (by decide +kernel)) (by rw [isSubtype_type]; kernel_rfl)
theorem entry_wd_get : entryFor table "wrapper_descriptor.__get__" = some Builtin.«wrapper_descriptor.__get__» := entryFor_of_tree (by kernel_rfl)
theorem args_wd_get (a b c : Value) : argsOk "wrapper_descriptor.__get__" ⟨[a, b, c], []⟩ := by unfold argsOk; kernel_rfl
theorem entry_hasattr : entryFor table "hasattr" = some Builtin.«hasattr» := entryFor_of_tree (by kernel_rfl)
theorem kind_hasattr : builtinKind "hasattr" = none := by first | kernel_rfl | rfl | decide +kernel
theorem plain_hasattr : plainId "hasattr" = true := by decide +kernel
theorem args_hasattr (a b : Value) : argsOk "hasattr" ⟨[a, b], []⟩ := by unfold argsOk; kernel_rfl
theorem owner_gi : (".".intercalate ("str.__getitem__".cutAt '.').dropLast) = "str" := by
  have e0 : "str.__getitem__".cutAt '.' = ["str", "__getitem__"] := by first | rfl | decide +kernel
  rw [e0]; decide +kernel
theorem sub_gi : isSubtype (.type "str") (.type (".".intercalate ("str.__getitem__".cutAt '.').dropLast)) = pure true := by
  rw [owner_gi, isSubtype_type]; kernel_rfl
end HA
section
variable {prog : Program} {w : World} {A : Around} {E : Value → Shared → Prop} {h : Heap} {g : Array GenState} {d : Drawn} {t : Nat} {os : OsState} {x : Str} {u : Tok}

theorem gi_get {R : Result → Shared → Prop} (hq : ∀ h' (v : Addr), (∀ b o, h.get? b = some o → h'.get? b = some o) → R (.ok (.ret (.ref v))) ⟨h', g, d, t, os⟩) :
    codeAny (model prog w) A (.call (.builtin "wrapper_descriptor.__get__") ⟨[.builtin "str.__getitem__", .str x u, .type "str"], []⟩) R ⟨h, g, d, t, os⟩ := by
  have hT : (⟨h, g, d, t, os⟩ : Shared).TypeIs (.str x u) "str" := rfl
  have hT5 : (⟨h, g, d, t, os⟩ : Shared).TypeIs (.builtin "str.__getitem__") "wrapper_descriptor" := HA.ty_gi
  have f8 := HA.sub_gi
  refine codeAny_call_builtin HA.slot_wd_get.plain HA.entry_wd_get (HA.slot_wd_get.check _ _ _ _ _ _ _ _ hT5 (HA.args_wd_get _ _ _) ?_)
  repeat (any_goals (first | assumption | wp_step))
  exact hq _ _ (fun b o e => Heap.get?_push_of_some _ e)

theorem gi_entry {tk : Tok} {Q : Fin → Shared → Prop} (hq : ∀ h' (v : Addr), (∀ b o, h.get? b = some o → h'.get? b = some o) → Q (.done (.ret (.ref v))) ⟨h', g, d, t, os⟩) :
    wpAny (model prog w) A (Builtin.«object.__getattribute__» ⟨[.str x u, .str "__getitem__" tk], []⟩) Q E ⟨h, g, d, t, os⟩ := by
  have hT : (⟨h, g, d, t, os⟩ : Shared).TypeIs (.str x u) "str" := rfl
  have hT5 : (⟨h, g, d, t, os⟩ : Shared).TypeIs (.builtin "str.__getitem__") "wrapper_descriptor" := HA.ty_gi
  have f4 := HA.lk_str_getitem
  have f5 := HA.ty_gi
  have f6 := HA.lk_wd_get
  have f7 := HA.lk_wd_set
  have f9 := HA.lk_wd_del
  repeat (any_goals (first | assumption | wp_step))
  refine gi_get fun h' v hk => ?_
  repeat (any_goals (first | assumption | wp_step))
  exact hq h' v hk
theorem gi_call {tk : Tok} {R : Result → Shared → Prop} (hq : ∀ h' (v : Addr), (∀ b o, h.get? b = some o → h'.get? b = some o) → R (.ok (.ret (.ref v))) ⟨h', g, d, t, os⟩) :
    codeAny (model prog w) A (.call (.builtin "object.__getattribute__") ⟨[.str x u, .str "__getitem__" tk], []⟩) R ⟨h, g, d, t, os⟩ :=
  codeAny_call_builtin F.slot_str_getattribute.plain F.entry_object_getattribute (F.slot_str_getattribute.check _ _ _ _ _ _ _ _ (show (⟨h, g, d, t, os⟩ : Shared).TypeIs (.str x u) "str" from rfl) (F.args_object_getattribute_2 _ _) (gi_entry (fun h' v hk => hq h' v hk)))
theorem gi_by {tk : Tok} {Q : Value → Shared → Prop} (hq : ∀ h' (v : Addr), (∀ b o, h.get? b = some o → h'.get? b = some o) → Q (.ref v) ⟨h', g, d, t, os⟩) : wpAny (model prog w) A (getAttrBy (.str x u) (.str "__getitem__" tk) false) Q E ⟨h, g, d, t, os⟩ := by
  have hT : (⟨h, g, d, t, os⟩ : Shared).TypeIs (.str x u) "str" := rfl
  have f2 := F.slot_str_getattribute.lookup
  have f3 := F.slot_str_getattribute.bind (.str x u)
  repeat (any_goals (first | assumption | wp_step))
  refine gi_call fun h' v hk => ?_
  repeat (any_goals (first | assumption | exact hq h' v hk | wp_step))
theorem gi_by? {tk : Tok} {Q : Option Value → Shared → Prop} (hq : ∀ h' (v : Addr), (∀ b o, h.get? b = some o → h'.get? b = some o) → Q (some (.ref v)) ⟨h', g, d, t, os⟩) : wpAny (model prog w) A (getAttrBy? (.str x u) (.str "__getitem__" tk)) Q E ⟨h, g, d, t, os⟩ := by
  unfold getAttrBy?
  refine wpAny_bind (wpAny_attempt (gi_by fun h' v hk => ?_))
  exact wpAny_pure (hq h' v hk)
end
end Mine
end
section
namespace Mine
section
variable {prog : Program} {w : World} {A : Around} {E : Value → Shared → Prop} {h : Heap} {g : Array GenState} {d : Drawn} {t : Nat} {os : OsState} {x : Str} {u : Tok}
set_option maxHeartbeats 2000000
theorem hasattr_str {tk : Tok} {Q : Value → Shared → Prop} (hq : ∀ h', (∀ b o, h.get? b = some o → h'.get? b = some o) → Q (.bool true) ⟨h', g, d, t, os⟩) : wpAny (model prog w) A (call (.builtin "hasattr") [.str x u, .str "__getitem__" tk]) Q E ⟨h, g, d, t, os⟩ := by
  refine Calls.call_function_entry HA.kind_hasattr HA.plain_hasattr HA.entry_hasattr (HA.args_hasattr _ _) ?_
  unfold Builtin.«hasattr»
  refine wpAny_bind (m := someArgs "hasattr" 2 2 _) (wpAny_of_eq (a := [.str x u, .str "__getitem__" tk]) rfl ?_)
  dsimp only
  refine wpAny_bind (wpAny_of_eq (a := ()) (by rfl) ?_)
  rw [if_neg (by intro e; cases e)]
  have hT : (⟨h, g, d, t, os⟩ : Shared).TypeIs (.str x u) "str" := rfl
  refine wpAny_bind (wpAny_typeOf hT ?_)
  dsimp only
  refine wpAny_bind (wpAny_of_eq (a := some ("__getitem__" : Str)) (by rfl) ?_)
  dsimp only
  refine wpAny_bind (wpAny_of_eq (a := some (Value.builtin "str.__getitem__")) HA.lk_str_getitem ?_)
  dsimp only
  refine wpAny_bind (wpAny_of_eq (a := some (Value.builtin "object.__getattribute__")) HA.lk_str_ga ?_)
  have e1 : ((withoutEnding? "str.__getitem__" "#data").isSome && some (Value.builtin "object.__getattribute__") == some (Value.builtin "object.__getattribute__")) = false := by
    have : withoutEnding? "str.__getitem__" "#data" = none := by first | rfl | decide +kernel | kernel_rfl
    rw [this]; rfl
  rw [if_neg (by rw [e1]; decide)]
  refine wpAny_bind (wpAny_of_eq (a := 0) (by rfl) ?_)
  rw [if_neg (by decide)]
  refine wpAny_bind (gi_by? fun h' v hk => ?_)
  rw [if_neg (by simp)]
  exact wpAny_pure ⟨_, rfl, hq h' hk⟩
end
end Mine
end
section
set_option maxHeartbeats 8000000
open_top hd for PySem.Challenge.rw_sw0014_01
end
section
set_option maxHeartbeats 8000000
namespace Mine
theorem fnAt_of {q : Program} {loose : List Str} {mean : ExcName → Option Value} {Γ : Cx} (T : Top q loose mean Γ.mg Γ.mb Γ.bs) {f : FD} {i : Nat} (h : ((recsOf q)[i]?).map (fun d => (d.name, d.params, d.body, d.scope)) = some (f.name, f.params, f.body, f.scope)) : ∃ a, FnAt Γ f a := by
  cases hd : (recsOf q)[i]? with
  | none => rw [hd] at h; cases h
  | some d =>
    rw [hd] at h
    obtain ⟨a, o, pm, code, doc, h1, h2, h3, h4⟩ := T.fn d (List.mem_of_getElem? hd)
    have e : (d.name, d.params, d.body, d.scope) = (f.name, f.params, f.body, f.scope) := Option.some.inj h
    injection e with e1 e
    injection e with e2 e
    injection e with e3 e4
    refine ⟨a, e1 ▸ h1, o, pm, code, doc, h2, ?_, e1 ▸ h4⟩
    rw [← e1, ← e2, ← e3, ← e4]; exact h3
theorem text_of {q : Program} {loose : List Str} {mean : ExcName → Option Value} {Γ : Cx} (T : Top q loose mean Γ.mg Γ.mb Γ.bs) {x y : Str} (h : valOf q x = some (.str y)) : ∃ t, Γ.mg x = some (.str y t) := by
  obtain ⟨v, h1, h2⟩ := T.const x _ h
  cases h2 Γ.bs with
  | str x t => exact ⟨t, h1⟩
theorem hasA_of (Γ : Cx) : HasA Γ := by
  intro n x A W s vs hA st p
  obtain ⟨v, u, rfl, p1, p2⟩ := p.two
  cases p1 with | raw x t =>
  cases p2 with | raw y t' =>
  refine hasattr_str (x := ⟨x.toArray⟩) (u := t) (tk := t') (h := s.heap) (g := s.gens) (d := s.drawn) (t := s.toks) (os := s.os) fun h' hk => ?_
  exact ⟨W, .ext (h' := h') (tk := s.toks) st hk (Nat.le_refl _), .bool _⟩
theorem nums_of {h : Heap} {xs : List Int} {vs : List Value} {W : Wd} (r : IntsAre vs xs) : RepL W vs (nums xs) := by
  induction r with
  | nil => exact .nil
  | cons n t _ ih => exact .cons (.int n t) ih
theorem law_at {q : Program} {loose : List Str} {mean : ExcName → Option Value} {prog : Program} {w : World} {s₁ : Shared} {mg mb : Str → Option Value} (T : Top q loose mean mg mb s₁.heap) (X : Flt.MathXP q mg s₁.heap) (NB : NoneBooked s₁.heap)
    (hf : ∀ Γ : Cx, Γ.mg = mg → Γ.mb = mb → Γ.bs = s₁.heap → Fs Γ ∧ Bs Γ ∧ Gs Γ ∧ Ps Γ ∧ ∃ a, FnAt Γ fLaw a)
    (good : List Rw → Bool) (hgood : ∀ L, good L = true → goodL L = true) (hell : ∀ hd : List Nat, hd.contains 46 = false → hd.length ≤ 100 → ∀ th : List Nat, th.length ≤ 1000 → ellOk hd th = true)
    (hlaw : ∀ xs : List Int, lawOk good (sidesOf (numbersOf xs).sum) (alphOf (numbersOf xs).sum) (wordsOf (sidesOf (numbersOf xs).sum) (alphOf (numbersOf xs).sum) (numbersOf xs)) = true)
    {fa l : Addr} (hmg : mg fLaw.name = some (.ref fa)) {xs : List Int} {vs : List Value} (hx : xs.length ≤ 1000) (hl : s₁.heap.get? l = some (lsObj vs 0)) (hi : IntsAre vs xs) {E : Value → Shared → Prop} :
    wpAny (model prog w) callerA (call (.ref fa) [.ref l]) (fun r s' => r = .bool true ∧ (∀ b o, s₁.heap.get? b = some o → s'.heap.get? b = some o) ∧ s' = { s₁ with heap := s'.heap, toks := s'.toks }) E s₁ := by
  obtain ⟨F, B, G, P, a, hfa⟩ := hf ⟨prog, w, s₁.heap, mg, mb⟩ rfl rfl rfl
  have e : a = fa := by
    have := hfa.mg
    rw [show (⟨prog, w, s₁.heap, mg, mb⟩ : Cx).mg fLaw.name = some (.ref fa) from hmg] at this
    cases this; rfl
  subst e
  refine wpAny_mono (law_call (Γ := ⟨prog, w, s₁.heap, mg, mb⟩) (W := ⟨s₁.heap.get?, fun _ => none⟩) B G P (hasA_of _) F good hgood hell xs hx (hlaw xs) hfa ⟨rfl, by decide, by decide⟩ ⟨⟨T.g, T.b, T.nolimit, NB, T.nodigits⟩, fun _ _ h => h, fun _ _ h => h, fun t x h => by cases h⟩ (v := .ref l) (.list l vs 0 _ hl (nums_of (h := s₁.heap) hi))) (fun r s' q => ?_) fun _ _ q => q
  obtain ⟨rfl, W', pf⟩ := q
  exact ⟨rfl, pf.keep, pf.rest⟩
end Mine
end
section
set_option maxHeartbeats 8000000
namespace Mine
section
variable {loose : List Str} {mean : ExcName → Option Value} {Γ : Cx}
theorem fs_of (T : Top hd.view_39 loose mean Γ.mg Γ.mb Γ.bs) : Fs Γ where
  quote := fnAt_of T (i := 0) (by kernel_rfl)
  ell := fnAt_of T (i := 1) (by kernel_rfl)
  lt := fnAt_of T (i := 2) (by kernel_rfl)
  gt := fnAt_of T (i := 3) (by kernel_rfl)
  add := fnAt_of T (i := 4) (by kernel_rfl)
  mul := fnAt_of T (i := 5) (by kernel_rfl)
  sub := fnAt_of T (i := 6) (by kernel_rfl)
  concat := fnAt_of T (i := 7) (by kernel_rfl)
  count := fnAt_of T (i := 8) (by kernel_rfl)
  get := fnAt_of T (i := 9) (by kernel_rfl)
  index := fnAt_of T (i := 10) (by kernel_rfl)
  set := fnAt_of T (i := 11) (by kernel_rfl)
  words := fnAt_of T (i := 12) (by kernel_rfl)
  pay := fnAt_of T (i := 13) (by kernel_rfl)
  due := fnAt_of T (i := 14) (by kernel_rfl)
  after := fnAt_of T (i := 15) (by kernel_rfl)
  steps := fnAt_of T (i := 16) (by kernel_rfl)
  solved := fnAt_of T (i := 17) (by kernel_rfl)
theorem lawAt_of (T : Top hd.view_39 loose mean Γ.mg Γ.mb Γ.bs) : ∃ a, FnAt Γ fLaw a := fnAt_of T (i := 18) (by kernel_rfl)
theorem gs_of (T : Top hd.view_39 loose mean Γ.mg Γ.mb Γ.bs) : Gs Γ := ⟨text_of T (by kernel_rfl), text_of T (by kernel_rfl)⟩
theorem ps_of (X : Flt.MathXP hd.view_39 Γ.mg Γ.bs) : Ps Γ :=
  ⟨X.pats ⟨"_twin_re_1", code1.toList, 0, 0⟩ (List.mem_of_getElem? (i := 0) (by kernel_rfl)), X.pats ⟨"_twin_re_2", code2.toList, 0, 0⟩ (List.mem_of_getElem? (i := 1) (by kernel_rfl))⟩
theorem blt_of (T : Top hd.view_39 (looseW hd.view_39 [Str.ofString "_twin_re_1", Str.ofString "_twin_re_2"]) mean Γ.mg Γ.mb Γ.bs) {x : Str} {v : Value} (h1 : (startupNames.contains x || (looseW hd.view_39 [Str.ofString "_twin_re_1", Str.ofString "_twin_re_2"]).contains x || ((recsOf hd.view_39).map (·.name)).contains x || ((litsOf hd.view_39).map (·.1)).contains x || ((clssOf hd.view_39 (looseW hd.view_39 [Str.ofString "_twin_re_1", Str.ofString "_twin_re_2"])).map (·.name)).contains x || x == "__name__") = false) (h2 : bootBuiltins x = some v) : BltAt Γ x v := by
  simp only [Bool.or_eq_false_iff] at h1
  obtain ⟨⟨⟨⟨⟨a1, a2⟩, a3⟩, a4⟩, a5⟩, a6⟩ := h1
  have nm : ∀ {l : List Str}, l.contains x = false → x ∉ l := fun h hm => by rw [List.contains_iff_mem.mpr hm] at h; cases h
  exact ⟨T.free x (nm a1) (nm a2) (nm a3) (nm a4) (nm a5), (T.builtins x (by rintro rfl; simp at a6)).trans h2⟩
theorem bs_of (T : Top hd.view_39 (looseW hd.view_39 [Str.ofString "_twin_re_1", Str.ofString "_twin_re_2"]) mean Γ.mg Γ.mb Γ.bs) : Bs Γ where
  len := blt_of T (by kernel_rfl) (by kernel_rfl)
  int := blt_of T (by kernel_rfl) (by kernel_rfl)
  enumerate := blt_of T (by kernel_rfl) (by kernel_rfl)
  zip := blt_of T (by kernel_rfl) (by kernel_rfl)
  range := blt_of T (by kernel_rfl) (by kernel_rfl)
  sum := blt_of T (by kernel_rfl) (by kernel_rfl)
  min := blt_of T (by kernel_rfl) (by kernel_rfl)
  hasattr := blt_of T (by kernel_rfl) (by kernel_rfl)
end
end Mine
end
section
set_option maxHeartbeats 8000000
namespace Mine
theorem well_list {P : Params} {h : Heap} {l : Addr} {ds : List PyData} (x : Well P h (.ref l) (ofPy (.list ds))) : ∃ vs, h.get? l = some (lsObj vs 0) := by
  have e : ofPy (PyData.list ds) = WData.list (ofPys ds) := by simp [ofPy]
  rw [e] at x
  cases x with
  | list h1 _ => exact ⟨_, h1⟩
variable (good : List Rw → Bool) (hgood : ∀ L, good L = true → goodL L = true) (hell : ∀ hd : List Nat, hd.contains 46 = false → hd.length ≤ 100 → ∀ th : List Nat, th.length ≤ 1000 → ellOk hd th = true)
    (hlaw : ∀ xs : List Int, lawOk good (sidesOf (numbersOf xs).sum) (alphOf (numbersOf xs).sum) (wordsOf (sidesOf (numbersOf xs).sum) (alphOf (numbersOf xs).sum) (numbersOf xs)) = true)
include hgood hell hlaw in
theorem walk : PySem.Challenge.rw_sw0014_01.Holds := hd (by
  intro w s₀ s₁ mg mb G Y fa o pm cd doc dV kV ho hdd hcd hD hmg hg args vals as hpre hlay hrd hwl hlo
  have KX := kIn_of Y
  have T := G.T
  have X := (Ground.X G).1
  have NB : NoneBooked s₁.heap := by
    obtain ⟨mc, h1, h2⟩ := T.nodigits
    refine ⟨mc, h1, ?_⟩
    have h3 : s₁.heap.get? cStatics = _ := KX 2 _ rfl
    obtain ⟨o', es, ep, e1, e2, e3, e4⟩ := h1
    rw [h3] at e1
    cases e1
    cases e2
    exact (e4 _).symm.trans (by kernel_rfl)
  have hmg' : mg fLaw.name = some (.ref fa) := hmg
  clear hcd hdd hD hmg ho KX Y
  wrow_args hpre hlay hrd hwl hlo
  rename_i xs _ _ _ _ _ _ _ l vs _ hL _ w1 _ hI _ hlen _
  obtain ⟨us, hob⟩ := well_list w1
  have eu : us = vs := by
    obtain ⟨o', h1, _, n, h2⟩ := hL
    rw [hob] at h1
    cases h1
    injection h2 with h3 h4
    have := congrArg Array.toList h3
    simpa using this
  subst eu
  refine wpAny_mono (law_at T X NB (fun Γ e1 e2 e3 => ?_) good hgood hell hlaw hmg' (by omega) hob hI) (fun r s' q => ?_) fun _ _ q => q
  · have T' := T
    have X' := X
    rw [← e1, ← e2, ← e3] at T'
    rw [← e1, ← e3] at X'
    exact ⟨fs_of T', bs_of T', gs_of T', ps_of X', lawAt_of T'⟩
  · obtain ⟨rfl, hk, hr⟩ := q
    refine ⟨.inl ⟨_, .bool true, [], rfl, raisesW_false (by wrow_none_raised), ReadsW.bool _, by wrow_post, fun _ => ⟨List.nodup_nil, fun a ha => by cases ha⟩⟩, .of_keep hk, by rw [hr], ?_⟩
    rw [hr]
    exact .of_eq hg)
end Mine
end
section
namespace Mine
theorem toArray_beq (a b : List Nat) : (a.toArray == b.toArray) = (a == b) := by
  cases h : a == b with
  | true => have : a = b := by simpa using h
            subst this; simp
  | false =>
    have hne : a ≠ b := by simpa using h
    simp [hne]
def subF (x y : List Nat) (i : Nat) : Bool := (x.drop i).take y.length == y
theorem subAt_eq (x y : List Nat) (i : Nat) : Builtin.Str.subAt (S x) (S y) i = subF x y i := by
  unfold Builtin.Str.subAt subF
  show (x.toArray.extract i (i + y.toArray.size) == y.toArray) = _
  rw [piece_extract, toArray_beq]
  unfold piece
  congr 1
  simp only [List.size_toArray]
  rw [List.drop_take]
  congr 1; omega
def ellF (hd th : List Nat) : Bool := th.drop (th.length - hd.length) == hd
theorem ellB_eq (hd th : List Nat) : ellB hd th = ellF hd th := by
  unfold ellB ellF Txt.endswith
  rw [subAt_eq, S_length, S_length]
  unfold subF
  by_cases hle : hd.length ≤ th.length
  · have e1 : ((th.drop (th.length - hd.length)).take hd.length) = th.drop (th.length - hd.length) := List.take_of_length_le (by rw [List.length_drop]; omega)
    rw [e1]
    cases hd with
    | nil => simp
    | cons a l => simp at hle ⊢; omega
  · have h0 : th.length - hd.length = 0 := by omega
    rw [h0, List.drop_zero]
    have hne : th ≠ hd := by rintro rfl; omega
    have hd0 : hd.isEmpty = false := by cases hd with | nil => simp at hle | cons a l => rfl
    rw [hd0, decide_eq_false (by omega)]
    simp [hne]
def infF (y x : List Nat) : Bool := (List.range (x.length + 1)).any fun i => decide (i + y.length ≤ x.length) && subF x y i
theorem inS_eq (y x : List Nat) : inS y x = infF y x := by
  rw [Bool.eq_iff_iff]
  unfold inS
  rw [StrLaws.found_iff]
  unfold infF
  simp only [List.any_eq_true, List.mem_range, Bool.and_eq_true, decide_eq_true_eq, S_length, subAt_eq]
  constructor
  · rintro ⟨i, a, b⟩; exact ⟨i, by omega, a, b⟩
  · rintro ⟨i, _, a, b⟩; exact ⟨i, a, b⟩
end Mine
end
section
namespace Mine
def goRowF (words heads states : List (List Nat)) (st : List Nat) : List Nat → List Int → Option (List Int)
  | [], row => some row
  | c :: cs, row => match heads.find? (fun hd => ellF hd (st ++ [c])) with
    | none => none
    | some hd => match idx hd 0 (states ++ words) with
      | none => none
      | some p => match bump states.length row p with
        | none => none
        | some row => goRowF words heads states st cs row
theorem goRow_eq (words heads states : List (List Nat)) (st : List Nat) : ∀ (cs : List Nat) (row : List Int), goRow words heads states st cs row = goRowF words heads states st cs row
  | [], row => rfl
  | c :: cs, row => by
    rw [goRow, goRowF]
    have e : (fun hd => ellB hd (st ++ [c])) = fun hd => ellF hd (st ++ [c]) := funext fun hd => ellB_eq hd _
    rw [e]
    cases heads.find? (fun hd => ellF hd (st ++ [c])) with
    | none => rfl
    | some hd =>
      dsimp only
      cases idx hd 0 (states ++ words) with
      | none => rfl
      | some p =>
        dsimp only
        cases bump states.length row p with
        | none => rfl
        | some row' => exact goRow_eq words heads states st cs row'
def goRowsF (sides : Int) (sgn : List Nat) (words heads states : List (List Nat)) : List (List Nat) → Option (List (List Int))
  | [] => some []
  | st :: sts => match goRowF words heads states st sgn (row0 sides words states st) with
    | none => none
    | some r => match goRowsF sides sgn words heads states sts with
      | none => none
      | some rs => some (r :: rs)
theorem goRows_eq (sides : Int) (signs : List Nat) (words heads states : List (List Nat)) : ∀ sts, goRows sides signs words heads states sts = goRowsF sides (signs.take sides.toNat) words heads states sts
  | [] => rfl
  | st :: sts => by rw [goRows, goRowsF, goRow_eq, goRows_eq sides signs words heads states sts]; all_goals rfl
def stepsF (sides : Int) (signs : List Nat) (words heads states : List (List Nat)) : Option (List (List Int)) := goRowsF sides (signs.take sides.toNat) words heads states states
theorem steps_eq (sides : Int) (signs : List Nat) (words : List (List Nat)) : stepsOf sides signs words = stepsF sides signs words (headsOf words) (statesOf words (headsOf words)) := by
  unfold stepsOf stepsF; rw [goRows_eq]
end Mine
end
section
namespace Mine
open StrLaws Builtin.Str in
theorem find4_zero (th : List Nat) (e : Nat) (he : e ≤ th.length) : find4 th [] 0 (e : Int) = 0 := by
  have h1 : fromIndex (S th).length 0 = 0 := by
    unfold fromIndex; rw [if_neg (by decide)]; rfl
  have h2 : min (fromIndex (S th).length (e : Int)) (S th).length = e := by
    unfold fromIndex
    rw [if_neg (by omega), S_length]
    omega
  unfold find4
  rw [h1, h2]
  have at0 : At (S th) (S []) e 0 := by
    refine ⟨Nat.zero_le _, ?_⟩
    rw [Mine.subAt_eq]; rfl
  rw [occ_eq]
  rcases occ_first (S th) (S []) e 1 (Nat.le_refl _) (List.range' 0 (e + 1 - 0)) 0 (fun _ _ => Nat.zero_le _) with ⟨h0, hn⟩ | ⟨pre, a, post, ee, h0, ha, hn⟩
  · exact absurd at0 (hn 0 (by simp [List.mem_range']))
  · have ha0 : a = 0 := by
      cases Nat.eq_zero_or_pos a with
      | inl h => exact h
      | inr h => exact absurd at0 (hn 0 (range'_split ee 0 h))
    subst ha0
    generalize (forIn (List.range' 0 (e + 1 - 0)) ((#[] : Array Nat), 0) (occBody (S th) (S []) e 1)).run.fst = arr at h0
    have h1 : arr.toList[0]? = some 0 := by simpa using h0
    cases hL : arr.toList with
    | nil => rw [hL] at h1; cases h1
    | cons b t => rw [hL] at h1; cases h1; rfl
theorem at_dots {hd : List Nat} (h : hd.contains 46 = false) {i : Nat} (hA : StrLaws.At (S (dots ++ hd)) (S dots) (S (dots ++ hd)).length i) : i = 0 := by
  obtain ⟨h1, h2⟩ := hA
  rw [S_length, S_length] at h1
  rw [subAt_eq] at h2
  unfold subF at h2
  have e : ((dots ++ hd).drop i).take 3 = dots := by simpa [dots] using h2
  cases i with
  | zero => rfl
  | succ i =>
    exfalso
    have e2 : (((dots ++ hd).drop (i + 1)).take 3)[2]? = some 46 := by rw [e]; rfl
    rw [List.getElem?_take_of_lt (by decide), List.getElem?_drop, List.getElem?_append_right (by show 3 ≤ _; omega)] at e2
    have hm := List.mem_of_getElem? e2
    rw [← List.contains_iff_mem, h] at hm
    cases hm
theorem at_zero (hd : List Nat) : StrLaws.At (S (dots ++ hd)) (S dots) (S (dots ++ hd)).length 0 := by
  refine ⟨?_, ?_⟩
  · rw [S_length, S_length, List.length_append]; omega
  · rw [subAt_eq]; unfold subF; simp [dots]
open StrLaws Builtin.Str in
theorem split_dots {hd : List Nat} (h : hd.contains 46 = false) : splitS (dots ++ hd) dots = [[], hd] := by
  obtain ⟨f, hc, hn⟩ := occ_tight (S (dots ++ hd)) (S dots) (by rw [S_length]; decide)
  have hocc : occurrences (S (dots ++ hd)) (S dots) 0 (S (dots ++ hd)).length ((S (dots ++ hd)).length + 1) = [0] := by
    cases ho : occurrences (S (dots ++ hd)) (S dots) 0 (S (dots ++ hd)).length ((S (dots ++ hd)).length + 1) with
    | nil =>
      rw [ho] at hc
      have : f = 0 := hc
      subst this
      exact absurd (at_zero hd) (hn 0 (Nat.le_refl _))
    | cons c r =>
      rw [ho] at hc
      obtain ⟨_, a1, _, a2⟩ := hc
      have c0 := at_dots h a1
      subst c0
      cases r with
      | nil => rfl
      | cons d r =>
        obtain ⟨b1, b2, _, _⟩ := a2
        have d0 := at_dots h b2
        rw [d0, S_length] at b1
        exact absurd b1 (by decide)
  have hk : decide (Builtin.Str.strKind (S (dots ++ hd)) < Builtin.Str.strKind (S dots)) = false := by
    have : Builtin.Str.strKind (S dots) = 1 := by decide +kernel
    rw [this]
    unfold Builtin.Str.strKind
    split
    · rfl
    · split <;> rfl
  have hlt : decide ((S (dots ++ hd)).length < (S dots).length) = false := by
    rw [S_length, S_length, List.length_append]; exact decide_eq_false (by omega)
  unfold splitS Txt.split
  rw [hlt, hk, hocc, if_neg (by decide), if_neg (by decide)]
  unfold partsBetween
  simp only [List.map_cons, List.map_nil, List.cons_append, List.nil_append, List.zip_cons_cons, List.zip_nil_right, S_length]
  rw [strSub_toList, strSub_toList]
  show [((dots ++ hd).drop 0).take 0, ((dots ++ hd).drop (0 + 3)).take ((dots ++ hd).length - (0 + 3))] = _
  rw [List.take_zero, List.length_append]
  have e1 : (dots ++ hd).drop (0 + 3) = hd := by simp [dots]
  rw [e1]
  congr 2
  exact List.take_of_length_le (by show hd.length ≤ 3 + hd.length - (0 + 3); omega)
theorem ell_ok (hd : List Nat) (h : hd.contains 46 = false) (hl : hd.length ≤ 100) (th : List Nat) (ht : th.length ≤ 1000) : ellOk hd th = true := by
  unfold ellOk
  have h1 : inS dots (dots ++ hd) = true := by
    unfold inS
    rw [StrLaws.found_iff]
    exact ⟨0, (at_zero hd).1, (at_zero hd).2⟩
  rw [h1, split_dots h, decide_eq_true (by omega : hd.length ≤ 1000), decide_eq_true ht]
  simp only [beq_self_eq_true, Bool.true_and]
  cases hh : hd.isEmpty with
  | true =>
    rw [if_pos rfl, find4_zero th _ (Nat.le_refl _)]; rfl
  | false =>
    rw [if_neg (by decide)]
    cases he : Txt.endswith (S th) (S hd) with
    | false => rfl
    | true =>
      have hle : hd.length ≤ th.length := by
        unfold Txt.endswith at he
        have := (Bool.and_eq_true_iff.mp he).1
        have := of_decide_eq_true this
        rw [S_length, S_length] at this
        omega
      have e : ((th.length : Int) - hd.length) = ((th.length - hd.length : Nat) : Int) := by omega
      rw [decide_eq_true hle, e, find4_zero th _ (by omega)]; rfl
end Mine
end
section
namespace Mine
abbrev mapW (g : Nat → Nat) (ws : List (List Nat)) : List (List Nat) := ws.map (List.map g)
section
variable {g : Nat → Nat} (hg : ∀ a b, g a = g b → a = b)
include hg
theorem map_beq (a b : List Nat) : (a.map g == b.map g) = (a == b) := by
  rw [Bool.eq_iff_iff, beq_iff_eq, beq_iff_eq]
  exact ⟨fun h => (List.map_inj_right hg).mp h, fun h => by rw [h]⟩
theorem g_beq (a b : Nat) : (g a == g b) = (a == b) := by
  rw [Bool.eq_iff_iff, beq_iff_eq, beq_iff_eq]
  exact ⟨hg a b, fun h => by rw [h]⟩
theorem any_map_beq (ws : List (List Nat)) (x : List Nat) : (mapW g ws).any (· == x.map g) = ws.any (· == x) := by
  rw [List.any_map]
  congr 1
  funext w
  exact map_beq hg w x
theorem subF_map (x y : List Nat) (i : Nat) : subF (x.map g) (y.map g) i = subF x y i := by
  unfold subF
  rw [← List.map_drop, List.length_map, ← List.map_take, map_beq hg]
theorem infF_map (y x : List Nat) : infF (y.map g) (x.map g) = infF y x := by
  unfold infF
  simp only [List.length_map, subF_map hg]
theorem clash_map (w o : List Nat) : clash (w.map g) (o.map g) = clash w o := by
  unfold clash
  rw [inS_eq, inS_eq, inS_eq, inS_eq, infF_map hg, infF_map hg]
theorem ellF_map (hd th : List Nat) : ellF (hd.map g) (th.map g) = ellF hd th := by
  unfold ellF
  rw [List.length_map, List.length_map, ← List.map_drop, map_beq hg]
theorem headsFor_map (k : Nat) : ∀ (ws hs : List (List Nat)), headsFor k (mapW g hs) (mapW g ws) = mapW g (headsFor k hs ws)
  | [], hs => rfl
  | w :: ws, hs => by
    show headsFor k (mapW g hs) (w.map g :: mapW g ws) = _
    rw [headsFor, headsFor, List.length_map, ← List.map_take, any_map_beq hg]
    split
    · have : mapW g hs ++ [(w.take k).map g] = mapW g (hs ++ [w.take k]) := by unfold mapW; rw [List.map_append]; rfl
      rw [this]; exact headsFor_map k ws _
    · exact headsFor_map k ws _
theorem headsGo_map (words : List (List Nat)) : ∀ (ks : List Nat) (hs : List (List Nat)), headsGo (mapW g words) (mapW g hs) ks = mapW g (headsGo words hs ks)
  | [], hs => rfl
  | k :: ks, hs => by rw [headsGo, headsGo, headsFor_map hg]; exact headsGo_map words ks _
theorem headsOf_map (words : List (List Nat)) : headsOf (mapW g words) = mapW g (headsOf words) := headsGo_map hg words _ []
theorem filter_mapW (p q : List Nat → Bool) (h : ∀ x, p (x.map g) = q x) (l : List (List Nat)) : (mapW g l).filter p = mapW g (l.filter q) := by
  unfold mapW
  rw [List.filter_map]
  congr 1
  congr 1
  funext x; exact h x
theorem statesOf_map (words heads : List (List Nat)) : statesOf (mapW g words) (mapW g heads) = mapW g (statesOf words heads) := by
  unfold statesOf
  rw [show (mapW g heads).reverse = mapW g heads.reverse from (List.map_reverse).symm]
  exact filter_mapW hg _ _ (fun x => by rw [any_map_beq hg]) _
theorem row0_map (sides : Int) (words states : List (List Nat)) (st : List Nat) : row0 sides (mapW g words) (mapW g states) (st.map g) = row0 sides words states st := by
  unfold row0 mapW
  rw [List.map_map, List.map_map]
  congr 2
  refine List.map_congr_left fun o _ => ?_
  show (if (o.map g == st.map g) = true then sides else 0) = _
  rw [map_beq hg]
theorem idx_map (x : List Nat) : ∀ (ys : List (List Nat)) (k : Nat), idx (x.map g) k (mapW g ys) = idx x k ys
  | [], k => rfl
  | y :: ys, k => by
    show idx (x.map g) k (y.map g :: mapW g ys) = _
    rw [idx, idx, map_beq hg, idx_map x ys (k + 1)]
theorem find_map (hs : List (List Nat)) (th : List Nat) : (mapW g hs).find? (fun hd => ellB hd (th.map g)) = (hs.find? (fun hd => ellB hd th)).map (List.map g) := by
  induction hs with
  | nil => rfl
  | cons h hs ih =>
    show (h.map g :: mapW g hs).find? _ = _
    rw [List.find?_cons, List.find?_cons, ellB_eq, ellB_eq, ellF_map hg]
    cases ellF h th with
    | true => rfl
    | false => exact ih
theorem goRow_map (words heads states : List (List Nat)) (st : List Nat) : ∀ (cs : List Nat) (row : List Int), goRow (mapW g words) (mapW g heads) (mapW g states) (st.map g) (cs.map g) row = goRow words heads states st cs row
  | [], row => rfl
  | c :: cs, row => by
    show goRow _ _ _ _ (g c :: cs.map g) row = _
    rw [goRow, goRow]
    have e : st.map g ++ [g c] = (st ++ [c]).map g := by rw [List.map_append]; rfl
    rw [e, find_map hg]
    cases heads.find? (fun hd => ellB hd (st ++ [c])) with
    | none => rfl
    | some hd =>
      simp only [Option.map_some]
      rw [show mapW g states ++ mapW g words = mapW g (states ++ words) from (List.map_append).symm, idx_map hg]
      cases idx hd 0 (states ++ words) with
      | none => rfl
      | some p =>
        simp only [List.length_map]
        cases bump states.length row p with
        | none => rfl
        | some row' => exact goRow_map words heads states st cs row'
theorem goRows_map (sides : Int) (signs : List Nat) (words heads states : List (List Nat)) : ∀ sts, goRows sides (signs.map g) (mapW g words) (mapW g heads) (mapW g states) (mapW g sts) = goRows sides signs words heads states sts
  | [] => rfl
  | st :: sts => by
    show goRows _ _ _ _ _ (st.map g :: mapW g sts) = _
    rw [goRows, goRows, ← List.map_take, row0_map hg, goRow_map hg, goRows_map sides signs words heads states sts]
theorem stepsOf_map (sides : Int) (signs : List Nat) (words : List (List Nat)) : stepsOf sides (signs.map g) (mapW g words) = stepsOf sides signs words := by
  unfold stepsOf
  rw [headsOf_map hg, statesOf_map hg, goRows_map hg]
theorem cut_map (lo hi : Option Int) (l : List Nat) : cut lo hi (l.map g) = (cut lo hi l).map g := by
  unfold cut
  rw [List.length_map, List.map_take, List.map_drop]
theorem due_map (past word : List Nat) (sides : Int) : due (past.map g) (word.map g) sides = due past word sides := by
  unfold due
  rw [List.length_map, List.length_map]
  congr 2
  funext k
  unfold dueAt
  rw [List.length_map, cut_map hg, cut_map hg, map_beq hg]
theorem duesOf_map (sides : Int) (words : List (List Nat)) : duesOf sides (mapW g words) = duesOf sides words := by
  unfold duesOf mapW
  rw [List.map_map]
  refine List.map_congr_left fun p _ => ?_
  show (words.map (List.map g)).map _ = _
  rw [List.map_map]
  exact List.map_congr_left fun w _ => due_map hg p w sides
theorem keepR_map (words : List (List Nat)) (c : Nat) (r : Rw) : keepR (mapW g words) (g c) r = keepR words c r := by
  unfold keepR mapW
  rw [List.getElem?_map]
  cases words[r.2]? with
  | none => rfl
  | some bet =>
    simp only [Option.map_some, List.length_map, List.getElem?_map]
    congr 1
    cases bet[r.1 - 1]? with
    | none => rfl
    | some d =>
      show (some (g d) == some (g c)) = (some d == some c)
      have := g_beq hg d c
      simpa using this
theorem mailR_map (good : List Rw → Bool) (words : List (List Nat)) : ∀ (cs : List Nat) (rows : List Rw), mailR good (mapW g words) (cs.map g) rows = mailR good words cs rows
  | [], rows => rfl
  | c :: cs, rows => by
    show mailR good (mapW g words) (g c :: cs.map g) rows = _
    rw [mailR, mailR]
    have e1 : newR (mapW g words) = newR words := by unfold newR; rw [List.length_map]
    have e2 : keepR (mapW g words) (g c) = keepR words c := funext fun r => keepR_map hg words c r
    rw [e1, e2, mailR_map good words cs]
theorem payOf_map (good : List Rw → Bool) (sides : Int) (words : List (List Nat)) (past : List Nat) : payOf good sides (mapW g words) (past.map g) = payOf good sides words past := by
  unfold payOf
  rw [mailR_map hg]
  cases mailR good words past [] with
  | none => rfl
  | some rows =>
    show payGo sides rows ((words.map (List.map g)).map _) = _
    rw [List.map_map]; rfl
theorem payAll_map (good : List Rw → Bool) (sides : Int) (words : List (List Nat)) : ∀ ws, payAll good sides (mapW g words) (mapW g ws) = payAll good sides words ws
  | [] => rfl
  | w :: ws => by
    show payAll good sides (mapW g words) (w.map g :: mapW g ws) = _
    rw [payAll, payAll, payOf_map hg, payAll_map good sides words ws]
theorem lawOk_map (h46 : g 46 = 46) (good : List Rw → Bool) (sides : Int) (signs : List Nat) (words : List (List Nat)) : lawOk good sides (signs.map g) (mapW g words) = lawOk good sides signs words := by
  unfold lawOk
  have c46 : ∀ l : List Nat, (l.map g).contains 46 = l.contains 46 := by
    intro l
    rw [Bool.eq_iff_iff, List.contains_iff_mem, List.contains_iff_mem, List.mem_map]
    constructor
    · rintro ⟨a, ha, e⟩
      have : a = 46 := hg _ _ (e.trans h46.symm)
      exact this ▸ ha
    · intro h; exact ⟨46, h, h46⟩
  have e1 : (mapW g words).length = words.length := List.length_map ..
  have e2 : (mapW g words).all (fun w => decide (w.length ≤ 100)) = words.all (fun w => decide (w.length ≤ 100)) := by
    unfold mapW; rw [List.all_map]; congr 1; funext w; simp
  have e3 : (headsOf (mapW g words)).all (fun hd => !hd.contains 46 && decide (hd.length ≤ 100)) = (headsOf words).all (fun hd => !hd.contains 46 && decide (hd.length ≤ 100)) := by
    rw [headsOf_map hg]; unfold mapW; rw [List.all_map]; congr 1; funext w
    show (!(w.map g).contains 46 && decide ((w.map g).length ≤ 100)) = _
    rw [c46, List.length_map]
  have e4 : ∀ x : Int, (mapW g words).map (fun _ => x) = words.map fun _ => x := by intro x; unfold mapW; rw [List.map_map]; rfl
  rw [e1, e2, e3, payAll_map hg, duesOf_map hg, stepsOf_map hg]
  simp only [e4]
end
end Mine
end
section
namespace Mine
def abc : List Nat := [97, 98, 99]
def finF (sides : Int) (words : List (List Nat)) (paids : List (List Int)) (rs rs' : List (List Int)) (r0 : List Int) : Bool :=
  decide (0 < r0.getD 0 0) && decide ((r0.dropLast.drop rs.length).sum = r0.getD 0 0) && decide ((r0.dropLast.drop rs.length).length = words.length) && decide (1 ≤ rs.length) && decide (rs.length ≤ 1000) && decide (rs'.length = rs.length) && rs.all (fun r => decide (r.length ≤ 1000)) && (r0.dropLast.drop rs.length).all (fun x => decide (Builtin.Int.intBits x ≤ 64)) && decide (1 ≤ r0.length) && decide (r0.length ≤ 1000) &&
          decide (meansOf (r0.dropLast.drop rs.length) paids words.length = words.map fun _ => lastI r0)
def lawF (good : List Rw → Bool) (sides : Int) (words heads states : List (List Nat)) : Bool :=
  decide (1 ≤ words.length) && decide (words.length ≤ 3) && words.all (fun w => decide (w.length ≤ 100)) && heads.all (fun hd => !hd.contains 46 && decide (hd.length ≤ 100)) &&
  (match payAll good sides words words with
  | none => false
  | some paids => decide (paids = duesOf sides words) &&
    (match stepsF sides abc words heads states with
    | none => false
    | some rs => (match solvedOf rs with
      | none => false
      | some rs' => (match rs'[0]? with
        | none => false
        | some r0 => finF sides words paids rs rs' r0))))
theorem lawF_eq (good : List Rw → Bool) (sides : Int) (words : List (List Nat)) : lawOk good sides abc words = lawF good sides words (headsOf words) (statesOf words (headsOf words)) := by
  unfold lawOk lawF finF
  rw [steps_eq]
  all_goals rfl
def clF (w o : List Nat) : Bool := infF o w || infF w o
theorem clF_eq (w o : List Nat) : clash w o = clF w o := by unfold clash clF; rw [inS_eq, inS_eq]
def one (good : List Rw → Bool) (sides : Int) (words : List (List Nat)) : Bool := lawF good sides words (headsOf words) (statesOf words (headsOf words))
def chk (good : List Rw → Bool) (sides : Int) (W : List (List Nat)) (a : List Nat) : Bool :=
  one good sides (closeW sides abc [a]) && W.all fun b => clF b a || (one good sides [a, b] && W.all fun c => clF c a || clF c b || one good sides [a, b, c])
def W2 : List (List Nat) := [[97, 97], [97, 97, 97], [98, 97], [98, 97, 97], [97, 98], [97, 98, 97], [98, 98], [98, 98, 97], [97, 97, 98], [98, 97, 98], [97, 98, 98], [98, 98, 98]]
def W3 : List (List Nat) := [[97, 97], [98, 97], [99, 97], [97, 98], [98, 98], [99, 98], [97, 99], [98, 99], [99, 99]]
end Mine
end
section
namespace Mine
namespace RX
def before (x : List Nat) (s : Nat) : Nat := if s = 0 then 10 else x.getD (s - 1) 0
def subG (f : Nat → Option (Nat × Nat)) (x y : List Nat) : Nat → Nat → List (List Nat) → Option (List (List Nat))
  | 0, _, _ => none
  | k + 1, at_, acc => match f at_ with
    | none => Option.some (if at_ < x.length then acc ++ [piece x at_ x.length] else acc)
    | Option.some (b, e) => subG f x y k e ((if at_ < b then acc ++ [piece x at_ b] else acc) ++ [y])
theorem subG_eq {code : Array Nat} {x : List Nat} {f : Nat → Option (Nat × Nat)} (hf : ∀ s, findR code x s false = Option.some (f s)) (hb : ∀ s b e, f s = Option.some (b, e) → b < e) (y : List Nat) : ∀ (k s : Nat) (acc : List (List Nat)), subGo code x y k s false acc = subG f x y k s acc
  | 0, _, _ => rfl
  | k + 1, s, acc => by
    rw [subGo, subG, hf]
    cases h : f s with
    | none => rfl
    | some be =>
      obtain ⟨b, e⟩ := be
      have := hb s b e h
      dsimp only
      rw [show (e == b) = false from beq_eq_false_iff_ne.mpr (by omega)]
      exact subG_eq hf hb y k e _
theorem find1_lt : ∀ (l : List Nat) (p s b e : Nat), find1 p s l = Option.some (b, e) → b < e
  | [], p, s, b, e, h => by cases h
  | c :: l, p, s, b, e, h => by
    rw [find1] at h
    split at h
    · cases h; omega
    · exact find1_lt l _ _ b e h
theorem find2_lt : ∀ (l : List Nat) (s b e : Nat), find2 s l = Option.some (b, e) → b < e
  | [], s, b, e, h => by cases h
  | c :: l, s, b, e, h => by
    rw [find2] at h
    split at h
    · cases h; omega
    · split at h
      · split at h
        · cases h; omega
        · cases h; omega
      · exact find2_lt l _ b e h
theorem before_ok (x : List Nat) (s : Nat) : (s == 0 || x.toArray.getD (s - 1) 0 == 10) = decide (before x s = 10) := by
  unfold before
  by_cases h : s = 0
  · rw [h]; rfl
  · rw [if_neg h, beq_eq_false_iff_ne.mpr h, Bool.false_or, Array.getD_eq_getD_getElem?, List.getElem?_toArray, List.getD_eq_getElem?_getD]
    rfl
def subF1 (x : List Nat) : Option (List Nat) := (subG (fun s => find1 (before x s) s (x.drop s)) x [46, 46] 60 0 []).map List.flatten
def subF2 (x : List Nat) : Option (List Nat) := (subG (fun s => find2 s (x.drop s)) x crlf 60 0 []).map List.flatten
theorem subR1 {x : List Nat} (hx : x.length ≤ 250) : subR code1 x [46, 46] = subF1 x := by
  unfold subR subF1
  rw [subG_eq (f := fun s => find1 (before x s) s (x.drop s)) (fun s => findR1 hx (before_ok x s)) (fun s b e h => find1_lt _ _ _ b e h)]
theorem subR2 (x : List Nat) : subR code2 x crlf = subF2 x := by
  unfold subR subF2
  rw [subG_eq (f := fun s => find2 s (x.drop s)) (fun s => findR2) (fun s b e h => find2_lt _ _ b e h)]
open StrLaws Builtin.Str in
def occF (x y : List Nat) : Nat → Nat → Nat → List Nat
  | 0, _, _ => []
  | m + 1, cur, free => if decide (free ≤ cur) && decide (cur + y.length ≤ x.length) && subF x y cur then cur :: occF x y m (cur + 1) (cur + y.length) else occF x y m (cur + 1) free
open StrLaws Builtin.Str in
theorem occF_run (x y : List Nat) (limit : Nat) : ∀ (m cur : Nat) (st : Array Nat × Nat), st.fst.size + m ≤ limit →
    (forIn (List.range' cur m) st (occBody (S x) (S y) x.length limit)).run.fst.toList = st.fst.toList ++ occF x y m cur st.snd
  | 0, cur, st, _ => by
    show st.fst.toList = _
    rw [occF, List.append_nil]
  | m + 1, cur, st, hl => by
    rw [List.range'_succ, List.forIn_cons, occF]
    unfold occBody
    rw [Mine.subAt_eq, S_length]
    have hlt : st.fst.size < limit := by omega
    by_cases hc : (st.snd ≤ cur ∧ cur + y.length ≤ x.length) ∧ subF x y cur = true
    · rw [if_pos ⟨⟨⟨hlt, hc.1.1⟩, hc.1.2⟩, hc.2⟩, if_pos (by rw [decide_eq_true hc.1.1, decide_eq_true hc.1.2, hc.2]; rfl)]
      refine (occF_run x y limit m (cur + 1) _ ?_).trans ?_
      · show (st.fst.push cur).size + m ≤ limit
        rw [Array.size_push]; omega
      · show (st.fst.push cur).toList ++ _ = _
        rw [Array.toList_push, List.append_assoc]; rfl
    · rw [if_neg (fun h => hc ⟨⟨h.1.1.2, h.1.2⟩, h.2⟩), if_neg (fun h => hc (by simpa [Bool.and_eq_true, decide_eq_true_eq] using h))]
      exact occF_run x y limit m (cur + 1) st (by omega)
def splitF (x : List Nat) : List (List Nat) :=
  if decide (x.length < 2) then [x] else let cuts := occF x crlf (x.length + 1) 0 0
    if cuts.isEmpty then [x] else ((0 :: cuts.map (· + 2)).zip (cuts ++ [x.length])).map fun p => (x.drop p.1).take (p.2 - p.1)
open StrLaws Builtin.Str in
theorem splitF_eq (x : List Nat) : splitS x crlf = splitF x := by
  have hk : decide (Builtin.Str.strKind (S x) < Builtin.Str.strKind (S crlf)) = false := by
    have : Builtin.Str.strKind (S crlf) = 1 := by decide +kernel
    rw [this]
    unfold Builtin.Str.strKind
    split
    · rfl
    · split <;> rfl
  have ho : occurrences (S x) (S crlf) 0 (S x).length ((S x).length + 1) = occF x crlf (x.length + 1) 0 0 := by
    rw [occ_eq, S_length]
    exact occF_run x crlf (x.length + 1) (x.length + 1) 0 (#[], 0) (by simp)
  unfold splitS splitF Txt.split
  rw [hk, ho, S_length, S_length, Bool.or_false]
  show List.map _ (if decide (x.length < 2) = true then _ else _) = _
  split
  · rfl
  · unfold partsBetween
    dsimp only
    split
    · rfl
    rw [List.map_map]
    refine List.map_congr_left fun p _ => ?_
    obtain ⟨i, j⟩ := p
    show (strSub (S x) i j).cps.toList = _
    rw [strSub_toList]
def goodQ (L : List Rw) : Bool :=
  (List.range 3).all (fun t => decide ((kt (fun i => endS ((t + i) % 3)) 0 L).flatten.length ≤ 500) && (subF2 (kt (fun i => endS ((t + i) % 3)) 0 L).flatten == some (mailS L))) && decide ((mailS L).length ≤ 250) && (subF1 (mailS L) == some (mailS (upR L))) &&
    (splitF (mailS (upR L)) == (upR L).map rowS ++ [[]]) && decide ((mailS (upR L)).length ≤ 500) && L.all (fun r => decide (r.1 ≤ 4) && decide (r.2 ≤ 2)) && decide (L.length ≤ 20)
theorem goodQ_good {L : List Rw} (h : goodQ L = true) : goodL L = true := by
  simp only [goodQ, Bool.and_eq_true, List.all_eq_true, decide_eq_true_eq, beq_iff_eq] at h
  obtain ⟨⟨⟨⟨⟨⟨h1, h2⟩, h3⟩, h4⟩, h5⟩, h6⟩, h7⟩ := h
  simp only [goodL, Bool.and_eq_true, List.all_eq_true, decide_eq_true_eq, beq_iff_eq]
  refine ⟨⟨⟨⟨fun t ht => ?_, (splitF_eq _).trans h4⟩, h5⟩, h6⟩, h7⟩
  obtain ⟨a, b⟩ := h1 t ht
  refine ⟨a, ?_⟩
  rw [subR2, b]
  simp only [Bool.and_eq_true, decide_eq_true_eq, beq_iff_eq]
  exact ⟨by omega, (subR1 h2).trans h3⟩
end RX
end Mine
end
section
namespace Mine
def tq100 : List (List Rw) := [[(1, 0)]]
theorem tq100_ok : tq100.all RX.goodQ = true := by decide +kernel
def tq101 : List (List Rw) := [[(1, 0), (1, 1)], [(1, 0), (1, 2)]]
theorem tq101_ok : tq101.all RX.goodQ = true := by decide +kernel
def tq102 : List (List Rw) := [[(1, 0), (1, 1), (1, 2)]]
theorem tq102_ok : tq102.all RX.goodQ = true := by decide +kernel
def tq110 : List (List Rw) := [[(1, 1)]]
theorem tq110_ok : tq110.all RX.goodQ = true := by decide +kernel
def tq111 : List (List Rw) := [[(1, 1), (1, 2)]]
theorem tq111_ok : tq111.all RX.goodQ = true := by decide +kernel
def tq120 : List (List Rw) := [[(1, 2)]]
theorem tq120_ok : tq120.all RX.goodQ = true := by decide +kernel
def tq200 : List (List Rw) := [[(2, 0)]]
theorem tq200_ok : tq200.all RX.goodQ = true := by decide +kernel
def tq201 : List (List Rw) := [[(2, 0), (1, 0)], [(2, 0), (1, 1)], [(2, 0), (1, 2)], [(2, 0), (2, 1)], [(2, 0), (2, 2)]]
theorem tq201_ok : tq201.all RX.goodQ = true := by decide +kernel
def tq202 : List (List Rw) := [[(2, 0), (1, 0), (1, 1)], [(2, 0), (1, 0), (1, 2)], [(2, 0), (1, 1), (1, 2)], [(2, 0), (2, 1), (1, 2)], [(2, 0), (2, 2), (1, 1)]]
theorem tq202_ok : tq202.all RX.goodQ = true := by decide +kernel
def tq203 : List (List Rw) := [[(2, 0), (1, 0), (1, 1), (1, 2)], [(2, 0), (2, 1), (1, 0), (1, 1)], [(2, 0), (2, 2), (1, 0), (1, 2)]]
theorem tq203_ok : tq203.all RX.goodQ = true := by decide +kernel
def tq204 : List (List Rw) := [[(2, 0), (2, 1), (1, 0), (1, 1), (1, 2)], [(2, 0), (2, 2), (1, 0), (1, 1), (1, 2)]]
theorem tq204_ok : tq204.all RX.goodQ = true := by decide +kernel
def tq210 : List (List Rw) := [[(2, 1)]]
theorem tq210_ok : tq210.all RX.goodQ = true := by decide +kernel
def tq211 : List (List Rw) := [[(2, 1), (1, 0)], [(2, 1), (1, 1)], [(2, 1), (1, 2)], [(2, 1), (2, 2)]]
theorem tq211_ok : tq211.all RX.goodQ = true := by decide +kernel
def tq212 : List (List Rw) := [[(2, 1), (1, 0), (1, 1)], [(2, 1), (1, 0), (1, 2)], [(2, 1), (1, 1), (1, 2)], [(2, 1), (2, 2), (1, 0)]]
theorem tq212_ok : tq212.all RX.goodQ = true := by decide +kernel
def tq213 : List (List Rw) := [[(2, 1), (1, 0), (1, 1), (1, 2)], [(2, 1), (2, 2), (1, 1), (1, 2)]]
theorem tq213_ok : tq213.all RX.goodQ = true := by decide +kernel
def tq214 : List (List Rw) := [[(2, 1), (2, 2), (1, 0), (1, 1), (1, 2)]]
theorem tq214_ok : tq214.all RX.goodQ = true := by decide +kernel
def tq220 : List (List Rw) := [[(2, 2)]]
theorem tq220_ok : tq220.all RX.goodQ = true := by decide +kernel
def tq221 : List (List Rw) := [[(2, 2), (1, 0)], [(2, 2), (1, 1)], [(2, 2), (1, 2)]]
theorem tq221_ok : tq221.all RX.goodQ = true := by decide +kernel
def tq222 : List (List Rw) := [[(2, 2), (1, 0), (1, 1)], [(2, 2), (1, 0), (1, 2)], [(2, 2), (1, 1), (1, 2)]]
theorem tq222_ok : tq222.all RX.goodQ = true := by decide +kernel
def tq223 : List (List Rw) := [[(2, 2), (1, 0), (1, 1), (1, 2)]]
theorem tq223_ok : tq223.all RX.goodQ = true := by decide +kernel
def tq300 : List (List Rw) := [[(3, 0)]]
theorem tq300_ok : tq300.all RX.goodQ = true := by decide +kernel
def tq301 : List (List Rw) := [[(3, 0), (1, 0)], [(3, 0), (1, 1)], [(3, 0), (1, 2)], [(3, 0), (2, 1)], [(3, 0), (2, 2)]]
theorem tq301_ok : tq301.all RX.goodQ = true := by decide +kernel
def tq302 : List (List Rw) := [[(3, 0), (1, 0), (1, 1)], [(3, 0), (1, 0), (1, 2)], [(3, 0), (1, 1), (1, 2)], [(3, 0), (2, 0), (1, 0)], [(3, 0), (2, 1), (1, 0)], [(3, 0), (2, 1), (1, 1)], [(3, 0), (2, 1), (1, 2)], [(3, 0), (2, 1), (2, 2)], [(3, 0), (2, 2), (1, 0)], [(3, 0), (2, 2), (1, 1)], [(3, 0), (2, 2), (1, 2)]]
theorem tq302_ok : tq302.all RX.goodQ = true := by decide +kernel
def tq303 : List (List Rw) := [[(3, 0), (1, 0), (1, 1), (1, 2)], [(3, 0), (2, 0), (1, 0), (1, 1)], [(3, 0), (2, 0), (1, 0), (1, 2)], [(3, 0), (2, 1), (1, 0), (1, 2)], [(3, 0), (2, 1), (1, 1), (1, 2)], [(3, 0), (2, 1), (2, 2), (1, 0)], [(3, 0), (2, 2), (1, 0), (1, 1)], [(3, 0), (2, 2), (1, 1), (1, 2)]]
theorem tq303_ok : tq303.all RX.goodQ = true := by decide +kernel
def tq304 : List (List Rw) := [[(3, 0), (2, 0), (1, 0), (1, 1), (1, 2)], [(3, 0), (2, 0), (2, 1), (1, 0), (1, 1)], [(3, 0), (2, 0), (2, 2), (1, 0), (1, 2)], [(3, 0), (2, 1), (2, 2), (1, 1), (1, 2)]]
theorem tq304_ok : tq304.all RX.goodQ = true := by decide +kernel
def tq305 : List (List Rw) := [[(3, 0), (2, 0), (2, 1), (1, 0), (1, 1), (1, 2)], [(3, 0), (2, 0), (2, 2), (1, 0), (1, 1), (1, 2)]]
theorem tq305_ok : tq305.all RX.goodQ = true := by decide +kernel
def tq310 : List (List Rw) := [[(3, 1)]]
theorem tq310_ok : tq310.all RX.goodQ = true := by decide +kernel
def tq311 : List (List Rw) := [[(3, 1), (1, 0)], [(3, 1), (1, 1)], [(3, 1), (1, 2)], [(3, 1), (2, 0)], [(3, 1), (2, 2)]]
theorem tq311_ok : tq311.all RX.goodQ = true := by decide +kernel
def tq312 : List (List Rw) := [[(3, 1), (1, 0), (1, 1)], [(3, 1), (1, 0), (1, 2)], [(3, 1), (1, 1), (1, 2)], [(3, 1), (2, 0), (1, 0)], [(3, 1), (2, 0), (1, 1)], [(3, 1), (2, 0), (1, 2)], [(3, 1), (2, 0), (2, 2)], [(3, 1), (2, 1), (1, 1)], [(3, 1), (2, 2), (1, 0)], [(3, 1), (2, 2), (1, 1)], [(3, 1), (2, 2), (1, 2)]]
theorem tq312_ok : tq312.all RX.goodQ = true := by decide +kernel
def tq313 : List (List Rw) := [[(3, 1), (1, 0), (1, 1), (1, 2)], [(3, 1), (2, 0), (1, 0), (1, 2)], [(3, 1), (2, 0), (1, 1), (1, 2)], [(3, 1), (2, 0), (2, 2), (1, 1)], [(3, 1), (2, 1), (1, 0), (1, 1)], [(3, 1), (2, 1), (1, 1), (1, 2)], [(3, 1), (2, 2), (1, 0), (1, 1)], [(3, 1), (2, 2), (1, 0), (1, 2)]]
theorem tq313_ok : tq313.all RX.goodQ = true := by decide +kernel
def tq314 : List (List Rw) := [[(3, 1), (2, 0), (2, 1), (1, 0), (1, 1)], [(3, 1), (2, 0), (2, 2), (1, 0), (1, 2)], [(3, 1), (2, 1), (1, 0), (1, 1), (1, 2)], [(3, 1), (2, 1), (2, 2), (1, 1), (1, 2)]]
theorem tq314_ok : tq314.all RX.goodQ = true := by decide +kernel
def tq315 : List (List Rw) := [[(3, 1), (2, 0), (2, 1), (1, 0), (1, 1), (1, 2)], [(3, 1), (2, 1), (2, 2), (1, 0), (1, 1), (1, 2)]]
theorem tq315_ok : tq315.all RX.goodQ = true := by decide +kernel
def tq320 : List (List Rw) := [[(3, 2)]]
theorem tq320_ok : tq320.all RX.goodQ = true := by decide +kernel
def tq321 : List (List Rw) := [[(3, 2), (1, 0)], [(3, 2), (1, 1)], [(3, 2), (1, 2)], [(3, 2), (2, 0)], [(3, 2), (2, 1)]]
theorem tq321_ok : tq321.all RX.goodQ = true := by decide +kernel
def tq322 : List (List Rw) := [[(3, 2), (1, 0), (1, 1)], [(3, 2), (1, 0), (1, 2)], [(3, 2), (1, 1), (1, 2)], [(3, 2), (2, 0), (1, 0)], [(3, 2), (2, 0), (1, 1)], [(3, 2), (2, 0), (1, 2)], [(3, 2), (2, 0), (2, 1)], [(3, 2), (2, 1), (1, 0)], [(3, 2), (2, 1), (1, 1)], [(3, 2), (2, 1), (1, 2)], [(3, 2), (2, 2), (1, 2)]]
theorem tq322_ok : tq322.all RX.goodQ = true := by decide +kernel
def tq323 : List (List Rw) := [[(3, 2), (1, 0), (1, 1), (1, 2)], [(3, 2), (2, 0), (1, 0), (1, 1)], [(3, 2), (2, 0), (1, 1), (1, 2)], [(3, 2), (2, 0), (2, 1), (1, 2)], [(3, 2), (2, 1), (1, 0), (1, 1)], [(3, 2), (2, 1), (1, 0), (1, 2)], [(3, 2), (2, 2), (1, 0), (1, 2)], [(3, 2), (2, 2), (1, 1), (1, 2)]]
theorem tq323_ok : tq323.all RX.goodQ = true := by decide +kernel
def tq324 : List (List Rw) := [[(3, 2), (2, 0), (2, 1), (1, 0), (1, 1)], [(3, 2), (2, 0), (2, 2), (1, 0), (1, 2)], [(3, 2), (2, 1), (2, 2), (1, 1), (1, 2)], [(3, 2), (2, 2), (1, 0), (1, 1), (1, 2)]]
theorem tq324_ok : tq324.all RX.goodQ = true := by decide +kernel
def tq325 : List (List Rw) := [[(3, 2), (2, 0), (2, 2), (1, 0), (1, 1), (1, 2)], [(3, 2), (2, 1), (2, 2), (1, 0), (1, 1), (1, 2)]]
theorem tq325_ok : tq325.all RX.goodQ = true := by decide +kernel
def tq : List (List (List (List (List Rw)))) := [[[], [], []], [[tq100, tq101, tq102], [tq110, tq111], [tq120]], [[tq200, tq201, tq202, tq203, tq204], [tq210, tq211, tq212, tq213, tq214], [tq220, tq221, tq222, tq223]], [[tq300, tq301, tq302, tq303, tq304, tq305], [tq310, tq311, tq312, tq313, tq314, tq315], [tq320, tq321, tq322, tq323, tq324, tq325]]]
theorem all_getD {α : Type} {p : List α → Bool} (h0 : p [] = true) {l : List (List α)} (h : l.all p = true) (n : Nat) : p (l.getD n []) = true := by
  rw [List.getD_eq_getElem?_getD]
  cases e : l[n]? with
  | none => exact h0
  | some x => exact List.all_eq_true.mp h x (List.mem_of_getElem? e)
def alA (b : List (List Rw)) : Bool := b.all RX.goodQ
def alB (b : List (List (List Rw))) : Bool := b.all alA
def alC (b : List (List (List (List Rw)))) : Bool := b.all alB
theorem tq_ok : tq.all alC = true := by
  simp only [tq, alC, alB, alA, List.all_cons, List.all_nil, Bool.and_true, Bool.true_and, tq100_ok, tq101_ok, tq102_ok, tq110_ok, tq111_ok, tq120_ok, tq200_ok, tq201_ok, tq202_ok, tq203_ok, tq204_ok, tq210_ok, tq211_ok, tq212_ok, tq213_ok, tq214_ok, tq220_ok, tq221_ok, tq222_ok, tq223_ok, tq300_ok, tq301_ok, tq302_ok, tq303_ok, tq304_ok, tq305_ok, tq310_ok, tq311_ok, tq312_ok, tq313_ok, tq314_ok, tq315_ok, tq320_ok, tq321_ok, tq322_ok, tq323_ok, tq324_ok, tq325_ok]
def inTbl : List Rw → Bool
  | [] => false
  | r :: l => (((tq.getD r.1 []).getD r.2 []).getD l.length []).contains (r :: l)
theorem inTbl_good (L : List Rw) (h : inTbl L = true) : goodL L = true := by
  match L, h with
  | r :: l, h =>
    have h1 := all_getD (p := alC) rfl tq_ok r.1
    have h2 := all_getD (p := alB) rfl h1 r.2
    have h3 := all_getD (p := alA) rfl h2 l.length
    exact RX.goodQ_good (List.all_eq_true.mp h3 _ (List.contains_iff_mem.mp h))
end Mine
end
section
namespace Mine
open StrLaws Builtin.Str in
theorem find_ren {g : Nat → Nat} (hg : ∀ a b, g a = g b → a = b) (x y : List Nat) : Txt.find (S (x.map g)) (S (y.map g)) = Txt.find (S x) (S y) := by
  have e : occurrences (S (x.map g)) (S (y.map g)) 0 (S (x.map g)).length 1 = occurrences (S x) (S y) 0 (S x).length 1 := by
    rw [occ_eq, occ_eq]
    have hb : occBody (S (x.map g)) (S (y.map g)) (S (x.map g)).length 1 = occBody (S x) (S y) (S x).length 1 := by
      funext i st
      unfold occBody
      rw [Mine.subAt_eq, Mine.subAt_eq, subF_map hg, S_length, S_length, S_length, S_length, List.length_map, List.length_map]
    rw [hb, S_length, S_length, List.length_map]
  unfold Txt.find
  rw [e]
section
variable {g : Nat → Nat} (hg : ∀ a b, g a = g b → a = b)
theorem ltr_ren {signs : List Nat} (hl : signs.length = 3) {i : Int} (h : 0 ≤ i ∧ i < 3) : ltr (signs.map g) i = g (ltr signs i) := by
  unfold ltr
  have : i.toNat < signs.length := by omega
  rw [List.getD_eq_getElem?_getD, List.getD_eq_getElem?_getD, List.getElem?_map, List.getElem?_eq_getElem this]; rfl
theorem wordOf_ren {signs : List Nat} (hl : signs.length = 3) {sides : Int} (hs : sides = 2 ∨ sides = 3) (x : Int) : wordOf sides (signs.map g) x = (wordOf sides signs x).map g := by
  unfold wordOf
  rw [List.map_map]
  refine List.map_congr_left fun k _ => ltr_ren hl ?_
  unfold letI'
  have := fmod_lt (a := (x.fdiv 2).fdiv (sides ^ k.toNat)) (b := sides) (by omega)
  omega
include hg
theorem addWord_ren (ws : List (List Nat)) (w : List Nat) : addWord (mapW g ws) (w.map g) = mapW g (addWord ws w) := by
  unfold addWord
  rw [filter_mapW hg _ (clash w) (fun o => clash_map hg w o)]
  have : (mapW g (ws.filter (clash w))).isEmpty = (ws.filter (clash w)).isEmpty := by
    cases ws.filter (clash w) <;> rfl
  rw [this]
  split
  · unfold mapW; rw [List.map_append]; rfl
  · rfl
theorem words0_ren {signs : List Nat} (hl : signs.length = 3) {sides : Int} (hs : sides = 2 ∨ sides = 3) : ∀ (xs : List Int) (ws : List (List Nat)), words0 sides (signs.map g) (mapW g ws) xs = mapW g (words0 sides signs ws xs)
  | [], ws => rfl
  | x :: xs, ws => by
    rw [words0, words0, wordOf_ren hl hs, addWord_ren hg]
    exact words0_ren hl hs xs _
theorem turned_ren {signs : List Nat} (hl : signs.length = 3) {sides : Int} (hs : sides = 2 ∨ sides = 3) (w : List Nat) : turned sides (signs.map g) (w.map g) = (turned sides signs w).map g := by
  unfold turned
  rw [List.map_map, List.map_map]
  refine List.map_congr_left fun c _ => ?_
  show ltr (signs.map g) ((Txt.find (S (signs.map g)) (S ([c].map g)) + 1).fmod sides) = _
  rw [find_ren hg]
  refine ltr_ren hl ?_
  have := fmod_lt (a := Txt.find (S signs) (S [c]) + 1) (b := sides) (by omega)
  omega
theorem closeW_ren {signs : List Nat} (hl : signs.length = 3) {sides : Int} (hs : sides = 2 ∨ sides = 3) : ∀ ws, closeW sides (signs.map g) (mapW g ws) = mapW g (closeW sides signs ws)
  | [] => rfl
  | [w] => by
    show [w.map g, turned sides (signs.map g) (w.map g)] = _
    rw [turned_ren hg hl hs]; rfl
  | _ :: _ :: _ => rfl
theorem wordsOf_ren {signs : List Nat} (hl : signs.length = 3) {sides : Int} (hs : sides = 2 ∨ sides = 3) (xs : List Int) : wordsOf sides (signs.map g) xs = mapW g (wordsOf sides signs xs) := by
  unfold wordsOf
  rw [← closeW_ren hg hl hs, ← words0_ren hg hl hs xs []]; rfl
end
/-- the four alphabets are one, renamed -/
def gs : Nat → Nat → Nat
  | 0, n => n
  | 1, n => if n = 98 then 10 else if n = 10 then 98 else if n = 99 then 42 else if n = 42 then 99 else n
  | 2, n => if n = 97 then 10 else if n = 10 then 97 else if n = 98 then 32 else if n = 99 then 98 else if n = 32 then 99 else n
  | _, n => if n = 97 then 42 else if n = 42 then 97 else if n = 98 then 91 else if n = 91 then 98 else if n = 99 then 92 else if n = 92 then 99 else n
theorem gs_inj (k a b : Nat) (h : gs k a = gs k b) : a = b := by
  match k, h with
  | 0, h => exact h
  | 1, h => simp only [gs] at h; split at h <;> split at h <;> (try split at h) <;> (try split at h) <;> (try split at h) <;> (try split at h) <;> (try split at h) <;> (try split at h) <;> omega
  | 2, h => simp only [gs] at h; repeat' (split at h)
            all_goals omega
  | k + 3, h => simp only [gs] at h; repeat' (split at h)
                all_goals omega
theorem gs_dot (k : Nat) : gs k 46 = 46 := by
  match k with
  | 0 => rfl
  | 1 => rfl
  | 2 => rfl
  | k + 3 => rfl
theorem alph_gs (total : Int) : ∃ k, alphOf total = abc.map (gs k) := by
  have h := fmod_lt (a := total.fdiv 2) (b := 4) (by decide)
  refine ⟨((total.fdiv 2).fmod 4).toNat, ?_⟩
  unfold alphOf
  have : ((total.fdiv 2).fmod 4).toNat < 4 := by omega
  generalize ((total.fdiv 2).fmod 4).toNat = m at this
  match m, this with
  | 0, _ => rfl
  | 1, _ => rfl
  | 2, _ => rfl
  | 3, _ => rfl
theorem lawOk_abc (good : List Rw → Bool) (total : Int) (xs : List Int) : lawOk good (sidesOf total) (alphOf total) (wordsOf (sidesOf total) (alphOf total) xs) = lawOk good (sidesOf total) abc (wordsOf (sidesOf total) abc xs) := by
  obtain ⟨k, e⟩ := alph_gs total
  rw [e, wordsOf_ren (gs_inj k) rfl (sidesOf_two total), lawOk_map (gs_inj k) (gs_dot k)]
end Mine
end
section
namespace Mine
theorem two_cases {x : Int} (h : 0 ≤ x ∧ x < 2) : x = 0 ∨ x = 1 := by omega
theorem three_cases {x : Int} (h : 0 ≤ x ∧ x < 3) : x = 0 ∨ x = 1 ∨ x = 2 := by omega
theorem wordOf_two (x : Int) : wordOf 2 abc x ∈ W2 := by
  have a0 := two_cases (fmod_lt (a := (x.fdiv 2).fdiv (2 ^ (0 : Int).toNat)) (b := 2) (by decide))
  have a1 := two_cases (fmod_lt (a := (x.fdiv 2).fdiv (2 ^ (1 : Int).toNat)) (b := 2) (by decide))
  have a2 := two_cases (fmod_lt (a := (x.fdiv 2).fdiv (2 ^ (2 : Int).toNat)) (b := 2) (by decide))
  have az := two_cases (fmod_lt (a := x) (b := 2) (by decide))
  have e : ∀ n : Nat, szOf 2 x = n → wordOf 2 abc x = (rangeIs 0 1 n).map fun k => ltr abc (letI' 2 x k) := by
    intro n h; unfold wordOf; rw [h]; rfl
  rcases az with z | z
  · have hz : szOf 2 x = (2 : Nat) := by show (2 : Int) + x.fmod 2 = 2; rw [z]; rfl
    rw [e _ hz]
    show [ltr abc (letI' 2 x 0), ltr abc (letI' 2 x 1)] ∈ W2
    unfold letI'
    rcases a0 with h0 | h0 <;> rcases a1 with h1 | h1 <;> rw [h0, h1] <;> decide
  · have hz : szOf 2 x = (3 : Nat) := by show (2 : Int) + x.fmod 2 = 3; rw [z]; rfl
    rw [e _ hz]
    show [ltr abc (letI' 2 x 0), ltr abc (letI' 2 x 1), ltr abc (letI' 2 x 2)] ∈ W2
    unfold letI'
    rcases a0 with h0 | h0 <;> rcases a1 with h1 | h1 <;> rcases a2 with h2 | h2 <;> rw [h0, h1, h2] <;> decide
theorem wordOf_three (x : Int) : wordOf 3 abc x ∈ W3 := by
  have a0 := three_cases (fmod_lt (a := (x.fdiv 2).fdiv (3 ^ (0 : Int).toNat)) (b := 3) (by decide))
  have a1 := three_cases (fmod_lt (a := (x.fdiv 2).fdiv (3 ^ (1 : Int).toNat)) (b := 3) (by decide))
  show [ltr abc (letI' 3 x 0), ltr abc (letI' 3 x 1)] ∈ W3
  unfold letI'
  rcases a0 with h0 | h0 | h0 <;> rcases a1 with h1 | h1 | h1 <;> rw [h0, h1] <;> decide
theorem nums3 (xs : List Int) : ∃ a b c, numbersOf xs = [a, b, c] := by
  match xs with
  | [] => exact ⟨_, _, _, rfl⟩
  | [a] => exact ⟨_, _, _, rfl⟩
  | [a, b] => exact ⟨_, _, _, rfl⟩
  | a :: b :: c :: _ => exact ⟨_, _, _, rfl⟩
theorem add_nil (w : List Nat) : addWord [] w = [w] := rfl
theorem add_one (a w : List Nat) : addWord [a] w = if clF w a then [a] else [a, w] := by
  unfold addWord
  rw [List.filter_cons, clF_eq]
  cases clF w a <;> rfl
theorem add_two (a b w : List Nat) : addWord [a, b] w = if clF w a || clF w b then [a, b] else [a, b, w] := by
  unfold addWord
  rw [List.filter_cons, List.filter_cons, clF_eq, clF_eq]
  cases clF w a <;> cases clF w b <;> rfl
theorem chk_words {good : List Rw → Bool} {sides : Int} {W : List (List Nat)} {a b c : List Nat} (hb : b ∈ W) (hc : c ∈ W) (h : chk good sides W a = true) :
    lawOk good sides abc (closeW sides abc (addWord (addWord (addWord [] a) b) c)) = true := by
  simp only [chk, Bool.and_eq_true, List.all_eq_true, Bool.or_eq_true] at h
  obtain ⟨h1, h2⟩ := h
  rw [show ∀ ws, lawOk good sides abc ws = one good sides ws from fun ws => lawF_eq good sides ws]
  rw [add_nil, add_one]
  have pair : ∀ x ∈ W, ¬ clF x a = true → one good sides (closeW sides abc [a, x]) = true := fun x hx n => ((h2 x hx).resolve_left n).1
  cases eb : clF b a with
  | true =>
    show one good sides (closeW sides abc (addWord [a] c)) = true
    rw [add_one]
    cases ec : clF c a with
    | true => exact h1
    | false => exact pair c hc (by rw [ec]; decide)
  | false =>
    show one good sides (closeW sides abc (addWord [a, b] c)) = true
    rw [add_two]
    have nb : ¬ clF b a = true := by rw [eb]; decide
    cases ec : clF c a || clF c b with
    | true => exact pair b hb nb
    | false =>
      rw [Bool.or_eq_false_iff] at ec
      refine (((h2 b hb).resolve_left nb).2 c hc).resolve_left fun k => ?_
      rcases k with k | k
      · rw [ec.1] at k; cases k
      · rw [ec.2] at k; cases k
theorem law_all {good : List Rw → Bool} (h2 : ∀ w ∈ W2, chk good 2 W2 w = true) (h3 : ∀ w ∈ W3, chk good 3 W3 w = true) (xs : List Int) :
    lawOk good (sidesOf (numbersOf xs).sum) (alphOf (numbersOf xs).sum) (wordsOf (sidesOf (numbersOf xs).sum) (alphOf (numbersOf xs).sum) (numbersOf xs)) = true := by
  rw [lawOk_abc]
  obtain ⟨a, b, c, e⟩ := nums3 xs
  generalize (numbersOf xs).sum = t
  rw [e]
  rcases sidesOf_two t with s | s
  · rw [s]
    exact chk_words (wordOf_two b) (wordOf_two c) (h2 _ (wordOf_two a))
  · rw [s]
    exact chk_words (wordOf_three b) (wordOf_three c) (h3 _ (wordOf_three a))
end Mine
end
section
namespace Mine
theorem bump_swap (n : Nat) (row : List Int) (p q : Nat) : (bump n row p).bind (fun r => bump n r q) = (bump n row q).bind (fun r => bump n r p) := by
  by_cases e : p = q
  · rw [e]
  · unfold bump
    cases hp : row[p]? with
    | none =>
      cases hq : row[q]? with
      | none => rfl
      | some w =>
        show none = _
        simp only [Option.bind_some, List.getElem?_set_ne (fun h => e h.symm), hp]
    | some v =>
      cases hq : row[q]? with
      | none =>
        show _ = none
        simp only [Option.bind_some, List.getElem?_set_ne e, hq]
      | some w =>
        simp only [Option.bind_some, List.getElem?_set_ne (fun h => e h.symm), List.getElem?_set_ne e, hp, hq]
        rw [List.set_comm _ _ e]
def placeOf (words heads states : List (List Nat)) (st : List Nat) (c : Nat) : Option Nat := (heads.find? (fun hd => ellF hd (st ++ [c]))).bind fun hd => idx hd 0 (states ++ words)
theorem goRowF_cons (words heads states : List (List Nat)) (st : List Nat) (c : Nat) (cs : List Nat) (row : List Int) :
    goRowF words heads states st (c :: cs) row = (placeOf words heads states st c).bind fun p => (bump states.length row p).bind fun r => goRowF words heads states st cs r := by
  rw [goRowF]
  unfold placeOf
  cases heads.find? (fun hd => ellF hd (st ++ [c])) with
  | none => rfl
  | some hd =>
    dsimp only [Option.bind_some]
    cases idx hd 0 (states ++ words) with
    | none => rfl
    | some p =>
      dsimp only [Option.bind_some]
      cases bump states.length row p with
      | none => rfl
      | some r => rfl
theorem goRowF_perm (words heads states : List (List Nat)) (st : List Nat) {cs cs' : List Nat} (h : cs.Perm cs') : ∀ row, goRowF words heads states st cs row = goRowF words heads states st cs' row := by
  induction h with
  | nil => intro row; rfl
  | cons c _ ih => intro row; rw [goRowF_cons, goRowF_cons]; simp only [ih]
  | swap c d cs =>
    intro row
    rw [goRowF_cons, goRowF_cons]
    simp only [goRowF_cons]
    cases placeOf words heads states st c with
    | none =>
      cases placeOf words heads states st d with
      | none => rfl
      | some q =>
        dsimp only [Option.bind_some, Option.bind_none]
        cases bump states.length row q <;> rfl
    | some p =>
      cases placeOf words heads states st d with
      | none =>
        dsimp only [Option.bind_some, Option.bind_none]
        cases bump states.length row p <;> rfl
      | some q =>
        dsimp only [Option.bind_some]
        have := bump_swap states.length row p q
        have e : ∀ (a b : Nat), ((bump states.length row a).bind fun r => (bump states.length r b).bind fun r => goRowF words heads states st cs r) = ((bump states.length row a).bind fun r => bump states.length r b).bind fun r => goRowF words heads states st cs r := by
          intro a b
          cases bump states.length row a <;> rfl
        rw [e, e, this]
  | trans _ _ ih1 ih2 => intro row; rw [ih1, ih2]
theorem goRowsF_perm (sides : Int) (words heads states : List (List Nat)) {cs cs' : List Nat} (h : cs.Perm cs') : ∀ sts, goRowsF sides cs words heads states sts = goRowsF sides cs' words heads states sts
  | [] => rfl
  | st :: sts => by rw [goRowsF, goRowsF, goRowF_perm words heads states st h, goRowsF_perm sides words heads states h sts]
theorem lawOk_perm (good : List Rw → Bool) {sides : Int} {sg sg' : List Nat} (h : (sg.take sides.toNat).Perm (sg'.take sides.toNat)) (words : List (List Nat)) : lawOk good sides sg words = lawOk good sides sg' words := by
  unfold lawOk
  rw [steps_eq, steps_eq]
  unfold stepsF
  rw [goRowsF_perm sides words _ _ h]
/-- two letters change places -/
def sw (p q n : Nat) : Nat := if n = p then q else if n = q then p else n
theorem sw_inj (p q a b : Nat) (h : sw p q a = sw p q b) : a = b := by
  simp only [sw] at h
  repeat' (split at h)
  all_goals omega
theorem one_ren (good : List Rw → Bool) {sides : Int} {p q : Nat} (hd : sw p q 46 = 46) (hp : (abc.take sides.toNat).Perm ((abc.map (sw p q)).take sides.toNat)) (ws : List (List Nat)) : one good sides (mapW (sw p q) ws) = one good sides ws := by
  have e : ∀ ws, one good sides ws = lawOk good sides abc ws := fun ws => (lawF_eq good sides ws).symm
  rw [e, e, lawOk_perm good hp, lawOk_map (sw_inj p q) hd]
theorem clF_ren (p q : Nat) (w o : List Nat) : clF (w.map (sw p q)) (o.map (sw p q)) = clF w o := by
  rw [← clF_eq, ← clF_eq, clash_map (sw_inj p q)]
def chk2 (good : List Rw → Bool) (sides : Int) (W : List (List Nat)) (a : List Nat) : Bool :=
  W.all fun b => clF b a || (one good sides [a, b] && W.all fun c => clF c a || clF c b || one good sides [a, b, c])
theorem chk2_ren (good : List Rw → Bool) {sides : Int} {p q : Nat} (hd : sw p q 46 = 46) (hp : (abc.take sides.toNat).Perm ((abc.map (sw p q)).take sides.toNat)) {W : List (List Nat)} (hW : ∀ w ∈ W, w.map (sw p q) ∈ W) {a : List Nat}
    (h : chk2 good sides W (a.map (sw p q)) = true) : chk2 good sides W a = true := by
  simp only [chk2, List.all_eq_true, Bool.or_eq_true, Bool.and_eq_true] at h ⊢
  intro b hb
  rcases h _ (hW b hb) with h | ⟨h1, h2⟩
  · exact .inl ((clF_ren p q b a).symm.trans h)
  · refine .inr ⟨(one_ren good hd hp [a, b]).symm.trans h1, fun c hc => ?_⟩
    rcases h2 _ (hW c hc) with (h | h) | h
    · exact .inl (.inl ((clF_ren p q c a).symm.trans h))
    · exact .inl (.inr ((clF_ren p q c b).symm.trans h))
    · exact .inr ((one_ren good hd hp [a, b, c]).symm.trans h)
theorem chk_of {good : List Rw → Bool} {sides : Int} {W : List (List Nat)} {a : List Nat} (h1 : one good sides (closeW sides abc [a]) = true) (h2 : chk2 good sides W a = true) : chk good sides W a = true := by
  unfold chk
  rw [h1, Bool.true_and]
  exact h2
def lone (good : List Rw → Bool) (sides : Int) (W : List (List Nat)) : Bool := W.all fun a => one good sides (closeW sides abc [a])
theorem W2_sw : ∀ w ∈ W2, w.map (sw 97 98) ∈ W2 := by decide
theorem W3_ab : ∀ w ∈ W3, w.map (sw 97 98) ∈ W3 := by decide
theorem W3_ac : ∀ w ∈ W3, w.map (sw 97 99) ∈ W3 := by decide
theorem W3_bc : ∀ w ∈ W3, w.map (sw 98 99) ∈ W3 := by decide
end Mine
end
section
namespace Mine
def chkB (good : List Rw → Bool) (sides : Int) (W : List (List Nat)) (a b : List Nat) : Bool :=
  clF b a || (one good sides [a, b] && W.all fun c => clF c a || clF c b || one good sides [a, b, c])
theorem c2_lone : lone inTbl 2 W2 = true := by decide +kernel
theorem c2_aa_aa : chkB inTbl 2 W2 [97, 97] [97, 97] = true := by decide +kernel
theorem c2_aa_aaa : chkB inTbl 2 W2 [97, 97] [97, 97, 97] = true := by decide +kernel
theorem c2_aa_ba : chkB inTbl 2 W2 [97, 97] [98, 97] = true := by decide +kernel
theorem c2_aa_baa : chkB inTbl 2 W2 [97, 97] [98, 97, 97] = true := by decide +kernel
theorem c2_aa_ab : chkB inTbl 2 W2 [97, 97] [97, 98] = true := by decide +kernel
theorem c2_aa_aba : chkB inTbl 2 W2 [97, 97] [97, 98, 97] = true := by decide +kernel
theorem c2_aa_bb : chkB inTbl 2 W2 [97, 97] [98, 98] = true := by decide +kernel
theorem c2_aa_bba : chkB inTbl 2 W2 [97, 97] [98, 98, 97] = true := by decide +kernel
theorem c2_aa_aab : chkB inTbl 2 W2 [97, 97] [97, 97, 98] = true := by decide +kernel
theorem c2_aa_bab : chkB inTbl 2 W2 [97, 97] [98, 97, 98] = true := by decide +kernel
theorem c2_aa_abb : chkB inTbl 2 W2 [97, 97] [97, 98, 98] = true := by decide +kernel
theorem c2_aa_bbb : chkB inTbl 2 W2 [97, 97] [98, 98, 98] = true := by decide +kernel
theorem c2_aa : chk2 inTbl 2 W2 [97, 97] = true := by
  refine List.all_eq_true.mpr fun b hb => ?_
  simp only [W2, List.mem_cons, List.not_mem_nil, or_false] at hb
  rcases hb with rfl | rfl | rfl | rfl | rfl | rfl | rfl | rfl | rfl | rfl | rfl | rfl
  · exact c2_aa_aa
  · exact c2_aa_aaa
  · exact c2_aa_ba
  · exact c2_aa_baa
  · exact c2_aa_ab
  · exact c2_aa_aba
  · exact c2_aa_bb
  · exact c2_aa_bba
  · exact c2_aa_aab
  · exact c2_aa_bab
  · exact c2_aa_abb
  · exact c2_aa_bbb
theorem c2_aaa_aa : chkB inTbl 2 W2 [97, 97, 97] [97, 97] = true := by decide +kernel
theorem c2_aaa_aaa : chkB inTbl 2 W2 [97, 97, 97] [97, 97, 97] = true := by decide +kernel
theorem c2_aaa_ba : chkB inTbl 2 W2 [97, 97, 97] [98, 97] = true := by decide +kernel
theorem c2_aaa_baa : chkB inTbl 2 W2 [97, 97, 97] [98, 97, 97] = true := by decide +kernel
theorem c2_aaa_ab : chkB inTbl 2 W2 [97, 97, 97] [97, 98] = true := by decide +kernel
theorem c2_aaa_aba : chkB inTbl 2 W2 [97, 97, 97] [97, 98, 97] = true := by decide +kernel
theorem c2_aaa_bb : chkB inTbl 2 W2 [97, 97, 97] [98, 98] = true := by decide +kernel
theorem c2_aaa_bba : chkB inTbl 2 W2 [97, 97, 97] [98, 98, 97] = true := by decide +kernel
theorem c2_aaa_aab : chkB inTbl 2 W2 [97, 97, 97] [97, 97, 98] = true := by decide +kernel
theorem c2_aaa_bab : chkB inTbl 2 W2 [97, 97, 97] [98, 97, 98] = true := by decide +kernel
theorem c2_aaa_abb : chkB inTbl 2 W2 [97, 97, 97] [97, 98, 98] = true := by decide +kernel
theorem c2_aaa_bbb : chkB inTbl 2 W2 [97, 97, 97] [98, 98, 98] = true := by decide +kernel
theorem c2_aaa : chk2 inTbl 2 W2 [97, 97, 97] = true := by
  refine List.all_eq_true.mpr fun b hb => ?_
  simp only [W2, List.mem_cons, List.not_mem_nil, or_false] at hb
  rcases hb with rfl | rfl | rfl | rfl | rfl | rfl | rfl | rfl | rfl | rfl | rfl | rfl
  · exact c2_aaa_aa
  · exact c2_aaa_aaa
  · exact c2_aaa_ba
  · exact c2_aaa_baa
  · exact c2_aaa_ab
  · exact c2_aaa_aba
  · exact c2_aaa_bb
  · exact c2_aaa_bba
  · exact c2_aaa_aab
  · exact c2_aaa_bab
  · exact c2_aaa_abb
  · exact c2_aaa_bbb
theorem c2_ab_aa : chkB inTbl 2 W2 [97, 98] [97, 97] = true := by decide +kernel
theorem c2_ab_aaa : chkB inTbl 2 W2 [97, 98] [97, 97, 97] = true := by decide +kernel
theorem c2_ab_ba : chkB inTbl 2 W2 [97, 98] [98, 97] = true := by decide +kernel
theorem c2_ab_baa : chkB inTbl 2 W2 [97, 98] [98, 97, 97] = true := by decide +kernel
theorem c2_ab_ab : chkB inTbl 2 W2 [97, 98] [97, 98] = true := by decide +kernel
theorem c2_ab_aba : chkB inTbl 2 W2 [97, 98] [97, 98, 97] = true := by decide +kernel
theorem c2_ab_bb : chkB inTbl 2 W2 [97, 98] [98, 98] = true := by decide +kernel
theorem c2_ab_bba : chkB inTbl 2 W2 [97, 98] [98, 98, 97] = true := by decide +kernel
theorem c2_ab_aab : chkB inTbl 2 W2 [97, 98] [97, 97, 98] = true := by decide +kernel
theorem c2_ab_bab : chkB inTbl 2 W2 [97, 98] [98, 97, 98] = true := by decide +kernel
theorem c2_ab_abb : chkB inTbl 2 W2 [97, 98] [97, 98, 98] = true := by decide +kernel
theorem c2_ab_bbb : chkB inTbl 2 W2 [97, 98] [98, 98, 98] = true := by decide +kernel
theorem c2_ab : chk2 inTbl 2 W2 [97, 98] = true := by
  refine List.all_eq_true.mpr fun b hb => ?_
  simp only [W2, List.mem_cons, List.not_mem_nil, or_false] at hb
  rcases hb with rfl | rfl | rfl | rfl | rfl | rfl | rfl | rfl | rfl | rfl | rfl | rfl
  · exact c2_ab_aa
  · exact c2_ab_aaa
  · exact c2_ab_ba
  · exact c2_ab_baa
  · exact c2_ab_ab
  · exact c2_ab_aba
  · exact c2_ab_bb
  · exact c2_ab_bba
  · exact c2_ab_aab
  · exact c2_ab_bab
  · exact c2_ab_abb
  · exact c2_ab_bbb
theorem c2_aba_aa : chkB inTbl 2 W2 [97, 98, 97] [97, 97] = true := by decide +kernel
theorem c2_aba_aaa : chkB inTbl 2 W2 [97, 98, 97] [97, 97, 97] = true := by decide +kernel
theorem c2_aba_ba : chkB inTbl 2 W2 [97, 98, 97] [98, 97] = true := by decide +kernel
theorem c2_aba_baa : chkB inTbl 2 W2 [97, 98, 97] [98, 97, 97] = true := by decide +kernel
theorem c2_aba_ab : chkB inTbl 2 W2 [97, 98, 97] [97, 98] = true := by decide +kernel
theorem c2_aba_aba : chkB inTbl 2 W2 [97, 98, 97] [97, 98, 97] = true := by decide +kernel
theorem c2_aba_bb : chkB inTbl 2 W2 [97, 98, 97] [98, 98] = true := by decide +kernel
theorem c2_aba_bba : chkB inTbl 2 W2 [97, 98, 97] [98, 98, 97] = true := by decide +kernel
theorem c2_aba_aab : chkB inTbl 2 W2 [97, 98, 97] [97, 97, 98] = true := by decide +kernel
theorem c2_aba_bab : chkB inTbl 2 W2 [97, 98, 97] [98, 97, 98] = true := by decide +kernel
theorem c2_aba_abb : chkB inTbl 2 W2 [97, 98, 97] [97, 98, 98] = true := by decide +kernel
theorem c2_aba_bbb : chkB inTbl 2 W2 [97, 98, 97] [98, 98, 98] = true := by decide +kernel
theorem c2_aba : chk2 inTbl 2 W2 [97, 98, 97] = true := by
  refine List.all_eq_true.mpr fun b hb => ?_
  simp only [W2, List.mem_cons, List.not_mem_nil, or_false] at hb
  rcases hb with rfl | rfl | rfl | rfl | rfl | rfl | rfl | rfl | rfl | rfl | rfl | rfl
  · exact c2_aba_aa
  · exact c2_aba_aaa
  · exact c2_aba_ba
  · exact c2_aba_baa
  · exact c2_aba_ab
  · exact c2_aba_aba
  · exact c2_aba_bb
  · exact c2_aba_bba
  · exact c2_aba_aab
  · exact c2_aba_bab
  · exact c2_aba_abb
  · exact c2_aba_bbb
theorem c2_aab_aa : chkB inTbl 2 W2 [97, 97, 98] [97, 97] = true := by decide +kernel
theorem c2_aab_aaa : chkB inTbl 2 W2 [97, 97, 98] [97, 97, 97] = true := by decide +kernel
theorem c2_aab_ba : chkB inTbl 2 W2 [97, 97, 98] [98, 97] = true := by decide +kernel
theorem c2_aab_baa : chkB inTbl 2 W2 [97, 97, 98] [98, 97, 97] = true := by decide +kernel
theorem c2_aab_ab : chkB inTbl 2 W2 [97, 97, 98] [97, 98] = true := by decide +kernel
theorem c2_aab_aba : chkB inTbl 2 W2 [97, 97, 98] [97, 98, 97] = true := by decide +kernel
theorem c2_aab_bb : chkB inTbl 2 W2 [97, 97, 98] [98, 98] = true := by decide +kernel
theorem c2_aab_bba : chkB inTbl 2 W2 [97, 97, 98] [98, 98, 97] = true := by decide +kernel
theorem c2_aab_aab : chkB inTbl 2 W2 [97, 97, 98] [97, 97, 98] = true := by decide +kernel
theorem c2_aab_bab : chkB inTbl 2 W2 [97, 97, 98] [98, 97, 98] = true := by decide +kernel
theorem c2_aab_abb : chkB inTbl 2 W2 [97, 97, 98] [97, 98, 98] = true := by decide +kernel
theorem c2_aab_bbb : chkB inTbl 2 W2 [97, 97, 98] [98, 98, 98] = true := by decide +kernel
theorem c2_aab : chk2 inTbl 2 W2 [97, 97, 98] = true := by
  refine List.all_eq_true.mpr fun b hb => ?_
  simp only [W2, List.mem_cons, List.not_mem_nil, or_false] at hb
  rcases hb with rfl | rfl | rfl | rfl | rfl | rfl | rfl | rfl | rfl | rfl | rfl | rfl
  · exact c2_aab_aa
  · exact c2_aab_aaa
  · exact c2_aab_ba
  · exact c2_aab_baa
  · exact c2_aab_ab
  · exact c2_aab_aba
  · exact c2_aab_bb
  · exact c2_aab_bba
  · exact c2_aab_aab
  · exact c2_aab_bab
  · exact c2_aab_abb
  · exact c2_aab_bbb
theorem c2_abb_aa : chkB inTbl 2 W2 [97, 98, 98] [97, 97] = true := by decide +kernel
theorem c2_abb_aaa : chkB inTbl 2 W2 [97, 98, 98] [97, 97, 97] = true := by decide +kernel
theorem c2_abb_ba : chkB inTbl 2 W2 [97, 98, 98] [98, 97] = true := by decide +kernel
theorem c2_abb_baa : chkB inTbl 2 W2 [97, 98, 98] [98, 97, 97] = true := by decide +kernel
theorem c2_abb_ab : chkB inTbl 2 W2 [97, 98, 98] [97, 98] = true := by decide +kernel
theorem c2_abb_aba : chkB inTbl 2 W2 [97, 98, 98] [97, 98, 97] = true := by decide +kernel
theorem c2_abb_bb : chkB inTbl 2 W2 [97, 98, 98] [98, 98] = true := by decide +kernel
theorem c2_abb_bba : chkB inTbl 2 W2 [97, 98, 98] [98, 98, 97] = true := by decide +kernel
theorem c2_abb_aab : chkB inTbl 2 W2 [97, 98, 98] [97, 97, 98] = true := by decide +kernel
theorem c2_abb_bab : chkB inTbl 2 W2 [97, 98, 98] [98, 97, 98] = true := by decide +kernel
theorem c2_abb_abb : chkB inTbl 2 W2 [97, 98, 98] [97, 98, 98] = true := by decide +kernel
theorem c2_abb_bbb : chkB inTbl 2 W2 [97, 98, 98] [98, 98, 98] = true := by decide +kernel
theorem c2_abb : chk2 inTbl 2 W2 [97, 98, 98] = true := by
  refine List.all_eq_true.mpr fun b hb => ?_
  simp only [W2, List.mem_cons, List.not_mem_nil, or_false] at hb
  rcases hb with rfl | rfl | rfl | rfl | rfl | rfl | rfl | rfl | rfl | rfl | rfl | rfl
  · exact c2_abb_aa
  · exact c2_abb_aaa
  · exact c2_abb_ba
  · exact c2_abb_baa
  · exact c2_abb_ab
  · exact c2_abb_aba
  · exact c2_abb_bb
  · exact c2_abb_bba
  · exact c2_abb_aab
  · exact c2_abb_bab
  · exact c2_abb_abb
  · exact c2_abb_bbb
theorem c2_ba : chk2 inTbl 2 W2 [98, 97] = true := chk2_ren inTbl (p := 97) (q := 98) rfl (by decide) W2_sw c2_ab
theorem c2_baa : chk2 inTbl 2 W2 [98, 97, 97] = true := chk2_ren inTbl (p := 97) (q := 98) rfl (by decide) W2_sw c2_abb
theorem c2_bb : chk2 inTbl 2 W2 [98, 98] = true := chk2_ren inTbl (p := 97) (q := 98) rfl (by decide) W2_sw c2_aa
theorem c2_bba : chk2 inTbl 2 W2 [98, 98, 97] = true := chk2_ren inTbl (p := 97) (q := 98) rfl (by decide) W2_sw c2_aab
theorem c2_bab : chk2 inTbl 2 W2 [98, 97, 98] = true := chk2_ren inTbl (p := 97) (q := 98) rfl (by decide) W2_sw c2_aba
theorem c2_bbb : chk2 inTbl 2 W2 [98, 98, 98] = true := chk2_ren inTbl (p := 97) (q := 98) rfl (by decide) W2_sw c2_aaa
theorem ck2 : ∀ w ∈ W2, chk inTbl 2 W2 w = true := by
  intro w h
  refine chk_of (List.all_eq_true.mp c2_lone w h) ?_
  simp only [W2, List.mem_cons, List.not_mem_nil, or_false] at h
  rcases h with rfl | rfl | rfl | rfl | rfl | rfl | rfl | rfl | rfl | rfl | rfl | rfl
  · exact c2_aa
  · exact c2_aaa
  · exact c2_ba
  · exact c2_baa
  · exact c2_ab
  · exact c2_aba
  · exact c2_bb
  · exact c2_bba
  · exact c2_aab
  · exact c2_bab
  · exact c2_abb
  · exact c2_bbb
theorem c3_lone : lone inTbl 3 W3 = true := by decide +kernel
theorem c3_aa_aa : chkB inTbl 3 W3 [97, 97] [97, 97] = true := by decide +kernel
theorem c3_aa_ba : chkB inTbl 3 W3 [97, 97] [98, 97] = true := by decide +kernel
theorem c3_aa_ca : chkB inTbl 3 W3 [97, 97] [99, 97] = true := by decide +kernel
theorem c3_aa_ab : chkB inTbl 3 W3 [97, 97] [97, 98] = true := by decide +kernel
theorem c3_aa_bb : chkB inTbl 3 W3 [97, 97] [98, 98] = true := by decide +kernel
theorem c3_aa_cb : chkB inTbl 3 W3 [97, 97] [99, 98] = true := by decide +kernel
theorem c3_aa_ac : chkB inTbl 3 W3 [97, 97] [97, 99] = true := by decide +kernel
theorem c3_aa_bc : chkB inTbl 3 W3 [97, 97] [98, 99] = true := by decide +kernel
theorem c3_aa_cc : chkB inTbl 3 W3 [97, 97] [99, 99] = true := by decide +kernel
theorem c3_aa : chk2 inTbl 3 W3 [97, 97] = true := by
  refine List.all_eq_true.mpr fun b hb => ?_
  simp only [W3, List.mem_cons, List.not_mem_nil, or_false] at hb
  rcases hb with rfl | rfl | rfl | rfl | rfl | rfl | rfl | rfl | rfl
  · exact c3_aa_aa
  · exact c3_aa_ba
  · exact c3_aa_ca
  · exact c3_aa_ab
  · exact c3_aa_bb
  · exact c3_aa_cb
  · exact c3_aa_ac
  · exact c3_aa_bc
  · exact c3_aa_cc
theorem c3_ab_aa : chkB inTbl 3 W3 [97, 98] [97, 97] = true := by decide +kernel
theorem c3_ab_ba : chkB inTbl 3 W3 [97, 98] [98, 97] = true := by decide +kernel
theorem c3_ab_ca : chkB inTbl 3 W3 [97, 98] [99, 97] = true := by decide +kernel
theorem c3_ab_ab : chkB inTbl 3 W3 [97, 98] [97, 98] = true := by decide +kernel
theorem c3_ab_bb : chkB inTbl 3 W3 [97, 98] [98, 98] = true := by decide +kernel
theorem c3_ab_cb : chkB inTbl 3 W3 [97, 98] [99, 98] = true := by decide +kernel
theorem c3_ab_ac : chkB inTbl 3 W3 [97, 98] [97, 99] = true := by decide +kernel
theorem c3_ab_bc : chkB inTbl 3 W3 [97, 98] [98, 99] = true := by decide +kernel
theorem c3_ab_cc : chkB inTbl 3 W3 [97, 98] [99, 99] = true := by decide +kernel
theorem c3_ab : chk2 inTbl 3 W3 [97, 98] = true := by
  refine List.all_eq_true.mpr fun b hb => ?_
  simp only [W3, List.mem_cons, List.not_mem_nil, or_false] at hb
  rcases hb with rfl | rfl | rfl | rfl | rfl | rfl | rfl | rfl | rfl
  · exact c3_ab_aa
  · exact c3_ab_ba
  · exact c3_ab_ca
  · exact c3_ab_ab
  · exact c3_ab_bb
  · exact c3_ab_cb
  · exact c3_ab_ac
  · exact c3_ab_bc
  · exact c3_ab_cc
theorem c3_ba : chk2 inTbl 3 W3 [98, 97] = true := chk2_ren inTbl (p := 97) (q := 98) rfl (by decide) W3_ab c3_ab
theorem c3_ca : chk2 inTbl 3 W3 [99, 97] = true := chk2_ren inTbl (p := 98) (q := 99) rfl (by decide) W3_bc c3_ba
theorem c3_bb : chk2 inTbl 3 W3 [98, 98] = true := chk2_ren inTbl (p := 97) (q := 98) rfl (by decide) W3_ab c3_aa
theorem c3_cb : chk2 inTbl 3 W3 [99, 98] = true := chk2_ren inTbl (p := 97) (q := 98) rfl (by decide) W3_ab c3_ca
theorem c3_ac : chk2 inTbl 3 W3 [97, 99] = true := chk2_ren inTbl (p := 97) (q := 99) rfl (by decide) W3_ac c3_ca
theorem c3_bc : chk2 inTbl 3 W3 [98, 99] = true := chk2_ren inTbl (p := 97) (q := 98) rfl (by decide) W3_ab c3_ac
theorem c3_cc : chk2 inTbl 3 W3 [99, 99] = true := chk2_ren inTbl (p := 97) (q := 99) rfl (by decide) W3_ac c3_aa
theorem ck3 : ∀ w ∈ W3, chk inTbl 3 W3 w = true := by
  intro w h
  refine chk_of (List.all_eq_true.mp c3_lone w h) ?_
  simp only [W3, List.mem_cons, List.not_mem_nil, or_false] at h
  rcases h with rfl | rfl | rfl | rfl | rfl | rfl | rfl | rfl | rfl
  · exact c3_aa
  · exact c3_ba
  · exact c3_ca
  · exact c3_ab
  · exact c3_bb
  · exact c3_cb
  · exact c3_ac
  · exact c3_bc
  · exact c3_cc
end Mine
end
set_option maxRecDepth 100000 in
set_option maxHeartbeats 8000000 in
theorem PySem.Challenge.cw_sw0014_01_holds : PySem.Challenge.rw_sw0014_01.Holds := by
  exact Mine.walk Mine.inTbl Mine.inTbl_good Mine.ell_ok (Mine.law_all Mine.ck2 Mine.ck3)
