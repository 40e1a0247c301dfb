import PyProof.Rows.All
import Wide.All
import OpenK.AllK
import Wide.FinOn
import PySem.Challenge.RW_qu0040_01
open PySem PySem.W PyProof.Rows
set_option Elab.async false
set_option autoImplicit false
set_option linter.unusedVariables false
set_option exponentiation.threshold 5000
set_option maxRecDepth 100000
set_option maxHeartbeats 8000000
namespace Mine

/-- pure values -/
inductive V where
  | none | bool (b : Bool) | int (i : Int) | flt (x : UInt64) | str (x : Str)
  | tup (vs : List V) | lst (vs : List V) | val (v : Value) | rng (n : Int)
/-- a pure value, or the mutable list number k of the store -/
inductive AV where
  | p (v : V) | m (k : Nat)
abbrev Store := List (List V)
abbrev Frz := Addr → Option Obj
abbrev Locs := List Addr
abbrev Rho := Str → Option AV

abbrev lstObj (items : List Value) (n : Nat) : Obj := { cls := .type "list", dict := none, data := .seq items.toArray n, slots := #[] }
abbrev tupObj (items : List Value) (n : Nat) : Obj := { cls := .type "tuple", dict := none, data := .seq items.toArray n, slots := #[] }

mutual
inductive Rel (φ : Frz) : V → Value → Prop
  | none : Rel φ .none .none
  | bool (b : Bool) : Rel φ (.bool b) (.bool b)
  | int (i : Int) (t : Tok) : Rel φ (.int i) (.int i t)
  | flt (x : UInt64) (t : Tok) : Rel φ (.flt x) (.float x t)
  | str (x : Str) (t : Tok) : Rel φ (.str x) (.str x t)
  | tup {a : Addr} {n : Nat} {vs : List V} {items : List Value} : φ a = some (tupObj items n) → RelL φ vs items → Rel φ (.tup vs) (.ref a)
  | lst {a : Addr} {n : Nat} {vs : List V} {items : List Value} : φ a = some (lstObj items n) → RelL φ vs items → Rel φ (.lst vs) (.ref a)
  | val (v : Value) : Rel φ (.val v) v
  | rng {a : Addr} {n : Int} {t u v : Tok} : φ a = some { cls := .type "range", data := .fields #[.int 0 t, .int n u, .int 1 v] } → Rel φ (.rng n) (.ref a)
inductive RelL (φ : Frz) : List V → List Value → Prop
  | nil : RelL φ [] []
  | cons {v : V} {c : Value} {vs : List V} {cs : List Value} : Rel φ v c → RelL φ vs cs → RelL φ (v :: vs) (c :: cs)
end

def Le (φ φ' : Frz) : Prop := ∀ a o, φ a = some o → φ' a = some o
theorem Le.refl (φ : Frz) : Le φ φ := fun _ _ h => h
theorem Le.trans {a b c : Frz} (h : Le a b) (k : Le b c) : Le a c := fun x o e => k _ _ (h x o e)

mutual
theorem Rel.mono {φ φ' : Frz} (h : Le φ φ') : ∀ {v : V} {c : Value}, Rel φ v c → Rel φ' v c
  | _, _, .none => .none
  | _, _, .bool b => .bool b
  | _, _, .int i t => .int i t
  | _, _, .flt i t => .flt i t
  | _, _, .str i t => .str i t
  | _, _, .tup a d => .tup (h _ _ a) (RelL.mono h d)
  | _, _, .lst a d => .lst (h _ _ a) (RelL.mono h d)
  | _, _, .val v => .val v
  | _, _, .rng a => .rng (h _ _ a)
theorem RelL.mono {φ φ' : Frz} (h : Le φ φ') : ∀ {v : List V} {c : List Value}, RelL φ v c → RelL φ' v c
  | _, _, .nil => .nil
  | _, _, .cons a b => .cons (Rel.mono h a) (RelL.mono h b)
end
theorem RelL.length {φ : Frz} : ∀ {v : List V} {c : List Value}, RelL φ v c → v.length = c.length
  | _, _, .nil => rfl
  | _, _, .cons _ b => by rw [List.length_cons, List.length_cons, b.length]
theorem RelL.get {φ : Frz} : ∀ {v : List V} {c : List Value}, RelL φ v c → ∀ {i : Nat} {x : V}, v[i]? = some x → ∃ y, c[i]? = some y ∧ Rel φ x y
  | _, _, .nil, i, x, h => by simp at h
  | _, _, .cons a b, 0, x, h => by simp at h; subst h; exact ⟨_, rfl, a⟩
  | _, _, .cons a b, i+1, x, h => by
    rw [List.getElem?_cons_succ] at h ⊢; exact b.get h
theorem RelL.append {φ : Frz} : ∀ {v : List V} {c : List Value}, RelL φ v c → ∀ {v' : List V} {c' : List Value}, RelL φ v' c' → RelL φ (v ++ v') (c ++ c')
  | _, _, .nil, _, _, h => h
  | _, _, .cons a b, _, _, h => .cons a (b.append h)
theorem RelL.set {φ : Frz} : ∀ {v : List V} {c : List Value}, RelL φ v c → ∀ {i : Nat} {x : V} {y : Value}, Rel φ x y → RelL φ (v.set i x) (c.set i y)
  | _, _, .nil, _, _, _, _ => .nil
  | _, _, .cons a b, 0, _, _, h => .cons h b
  | _, _, .cons a b, i+1, _, _, h => .cons a (b.set h)
theorem RelL.reverse {φ : Frz} : ∀ {v : List V} {c : List Value}, RelL φ v c → RelL φ v.reverse c.reverse
  | _, _, .nil => .nil
  | _, _, .cons a b => by rw [List.reverse_cons, List.reverse_cons]; exact b.reverse.append (.cons a .nil)
theorem RelL.take {φ : Frz} : ∀ {v : List V} {c : List Value}, RelL φ v c → ∀ n, RelL φ (v.take n) (c.take n)
  | _, _, .nil, n => by simp; exact .nil
  | _, _, .cons a b, 0 => .nil
  | _, _, .cons a b, n+1 => .cons a (b.take n)
theorem RelL.drop {φ : Frz} : ∀ {v : List V} {c : List Value}, RelL φ v c → ∀ n, RelL φ (v.drop n) (c.drop n)
  | _, _, .nil, n => by simp; exact .nil
  | _, _, .cons a b, 0 => .cons a b
  | _, _, .cons a b, n+1 => b.drop n

inductive RelA (φ : Frz) (loc : Locs) : AV → Value → Prop
  | p {v : V} {c : Value} : Rel φ v c → RelA φ loc (.p v) c
  | m {k : Nat} {a : Addr} : loc[k]? = some a → RelA φ loc (.m k) (.ref a)
inductive RelAL (φ : Frz) (loc : Locs) : List AV → List Value → Prop
  | nil : RelAL φ loc [] []
  | cons {v : AV} {c : Value} {vs : List AV} {cs : List Value} : RelA φ loc v c → RelAL φ loc vs cs → RelAL φ loc (v :: vs) (c :: cs)
theorem getElem?_pre {α : Type} {l r : List α} {k : Nat} {a : α} (h : l[k]? = some a) : (l ++ r)[k]? = some a := by
  rw [List.getElem?_append_left (List.getElem?_eq_some_iff.mp h).1]; exact h
theorem RelA.mono {φ φ' : Frz} {loc loc' : Locs} (h : Le φ φ') (hl : ∃ r, loc' = loc ++ r) {v : AV} {c : Value} : RelA φ loc v c → RelA φ' loc' v c
  | .p x => .p (x.mono h)
  | .m x => by obtain ⟨r, rfl⟩ := hl; exact .m (getElem?_pre x)
theorem RelAL.mono {φ φ' : Frz} {loc loc' : Locs} (h : Le φ φ') (hl : ∃ r, loc' = loc ++ r) : ∀ {v : List AV} {c : List Value}, RelAL φ loc v c → RelAL φ' loc' v c
  | _, _, .nil => .nil
  | _, _, .cons a b => .cons (a.mono h hl) (RelAL.mono h hl b)

def LstAt (h : Heap) (a : Addr) (items : List Value) : Prop := ∃ n, h.get? a = some (lstObj items n)
theorem LstAt.isList {h : Heap} {a : Addr} {items : List Value} (x : LstAt h a items) : h.IsList a items.toArray := let ⟨n, h1⟩ := x; ⟨_, h1, rfl, n, rfl⟩
/-- the tables of the codes that a nested def turns -/
structure Tb where
  tabs : List Addr
  ok : Frz → Heap → Prop
  stable : ∀ φ φ' h h', ok φ h → Le φ φ' → (∀ b ∈ tabs, h'.get? b = h.get? b) → ok φ' h'

structure InvG (Z : Tb) (ht : Heap) (μ : Store) (φ : Frz) (loc : Locs) (h : Heap) : Prop where
  sub : ∀ a o, φ a = some o → h.get? a = some o
  top : ∀ a o, ht.get? a = some o → φ a = some o
  off : ∀ a ∈ loc, φ a = none ∧ a ∉ Z.tabs
  nd : loc.Nodup
  len : loc.length = μ.length
  lists : ∀ (k : Nat) (a : Addr) (vs : List V), loc[k]? = some a → μ[k]? = some vs → ∃ items : List Value, LstAt h a items ∧ RelL φ vs items
  tabs : Z.ok φ h
  talive : ∀ b ∈ Z.tabs, φ b = none ∧ ∃ o, h.get? b = some o

structure Ext (Z : Tb) (X : List Addr) (φ : Frz) (loc : Locs) (h : Heap) (φ' : Frz) (loc' : Locs) (h' : Heap) : Prop where
  mono : Le φ φ'
  pre : ∃ r, loc' = loc ++ r
  keep : ∀ b o, b ∉ loc → b ∉ Z.tabs → b ∉ X → h.get? b = some o → h'.get? b = some o
  alive : ∀ b o, h.get? b = some o → ∃ o', h'.get? b = some o'
  newφ : ∀ a, φ' a ≠ none → φ a ≠ none ∨ h.get? a = none
  newl : ∀ a ∈ loc', a ∈ loc ∨ h.get? a = none

theorem Ext.refl (Z : Tb) (X : List Addr) (φ : Frz) (loc : Locs) (h : Heap) : Ext Z X φ loc h φ loc h :=
  ⟨Le.refl _, ⟨[], by simp⟩, fun _ _ _ _ _ e => e, fun b o e => ⟨o, e⟩, fun _ e => .inl e, fun _ e => .inl e⟩
theorem none_of_dead {h h' : Heap} {a : Addr} (al : ∀ b o, h.get? b = some o → ∃ o', h'.get? b = some o') (e : h'.get? a = none) : h.get? a = none := by
  cases q : h.get? a with
  | none => rfl
  | some o => obtain ⟨o', e'⟩ := al _ _ q; rw [e] at e'; cases e'
theorem Ext.trans {Z : Tb} {X : List Addr} {φ φ₁ φ₂ : Frz} {loc loc₁ loc₂ : Locs} {h h₁ h₂ : Heap}
    (x : Ext Z X φ loc h φ₁ loc₁ h₁) (y : Ext Z X φ₁ loc₁ h₁ φ₂ loc₂ h₂) : Ext Z X φ loc h φ₂ loc₂ h₂ where
  mono := x.mono.trans y.mono
  pre := by obtain ⟨r, rfl⟩ := x.pre; obtain ⟨r', rfl⟩ := y.pre; exact ⟨r ++ r', by rw [List.append_assoc]⟩
  keep := fun b o h1 h2 h3 e => y.keep b o (fun hm => (x.newl b hm).elim h1 (fun e' => by rw [e] at e'; cases e')) h2 h3 (x.keep b o h1 h2 h3 e)
  alive := fun b o e => let ⟨o', e'⟩ := x.alive b o e; y.alive b o' e'
  newφ := fun a e => (y.newφ a e).elim (fun e => x.newφ a e) fun e => .inr (none_of_dead x.alive e)
  newl := fun a e => (y.newl a e).elim (fun e => x.newl a e) fun e => .inr (none_of_dead x.alive e)
theorem Ext.weaken {Z : Tb} {X X' : List Addr} {φ φ₁ : Frz} {loc loc₁ : Locs} {h h₁ : Heap}
    (x : Ext Z X φ loc h φ₁ loc₁ h₁) (hX : ∀ a ∈ X, a ∈ X') : Ext Z X' φ loc h φ₁ loc₁ h₁ :=
  { x with keep := fun b o h1 h2 h3 e => x.keep b o h1 h2 (fun q => h3 (hX _ q)) e }

structure AOk (A : Around) (n : Nat) : Prop where
  handled : A.handled = none
  depth : A.depth + n ≤ 900
  units : A.units + 100 * n ≤ 9000
theorem AOk.le {A : Around} {n m : Nat} (h : AOk A n) (hm : m ≤ n) : AOk A m := ⟨h.handled, by have := h.depth; omega, by have := h.units; omega⟩
theorem AOk.deeper {A : Around} {n : Nat} (h : AOk A (n + 1)) (env : Env) : AOk (A.deeper env) n :=
  ⟨h.handled, by have := h.depth; show A.depth + 1 + n ≤ 900; omega, by have := h.units; show A.units + 3 + 100 * n ≤ 9000; omega⟩

/-- a frame -/
structure Fm where
  env : Env
  W : List Addr
  wc : List Str

structure EnvOk (Z : Tb) (F : Fm) (ρ : Rho) (φ : Frz) (loc : Locs) (h : Heap) : Prop where
  kind : F.env.scope.kind = .function
  glob : F.env.globals = mainGlobals
  blt : F.env.builtins = builtinsNs
  woff : ∀ a ∈ F.W, φ a = none ∧ a ∉ loc ∧ a ∉ Z.tabs ∧ ∃ o, h.get? a = some o
  wl : F.env.locals ∈ F.W
  ns : ∃ m, h.Ns F.env.locals m ∧ ∀ x v, F.env.kindOf x = some .local → ρ x = some v → ∃ cv, m x = some cv ∧ RelA φ loc v cv
  cell : ∀ x v, (F.env.kindOf x = some .cell ∨ F.env.kindOf x = some .free) → ρ x = some v → ∃ c cv, F.env.cells.lookup x = some c ∧ h.IsCell c (some cv) ∧ RelA φ loc v cv
  cw : ∀ x ∈ F.wc, F.env.kindOf x = some .cell ∧ ∃ c v0, F.env.cells.lookup x = some c ∧ c ∈ F.W ∧ h.IsCell c v0
  inj : ∀ x y c, F.env.cells.lookup x = some c → F.env.cells.lookup y = some c → x = y
  cne : ∀ x c, F.env.cells.lookup x = some c → c ≠ F.env.locals
  coff : ∀ x c, F.env.cells.lookup x = some c → c ∉ loc ∧ c ∉ Z.tabs ∧ ∃ o, h.get? c = some o

theorem Ext.offφ {Z : Tb} {X : List Addr} {φ φ' : Frz} {loc loc' : Locs} {h h' : Heap} (x : Ext Z X φ loc h φ' loc' h') {a : Addr} {o : Obj} (e : φ a = none) (ha : h.get? a = some o) : φ' a = none := by
  cases q : φ' a with
  | none => rfl
  | some o' =>
    rcases x.newφ a (by rw [q]; exact Option.some_ne_none _) with h1 | h1
    · exact absurd e h1
    · rw [ha] at h1; cases h1
theorem Ext.offl {Z : Tb} {X : List Addr} {φ φ' : Frz} {loc loc' : Locs} {h h' : Heap} (x : Ext Z X φ loc h φ' loc' h') {a : Addr} {o : Obj} (e : a ∉ loc) (ha : h.get? a = some o) : a ∉ loc' := by
  intro q
  rcases x.newl a q with h1 | h1
  · exact e h1
  · rw [ha] at h1; cases h1

theorem EnvOk.ext {Z : Tb} {F : Fm} {ρ : Rho} {φ φ' : Frz} {loc loc' : Locs} {h h' : Heap} (e : EnvOk Z F ρ φ loc h) (x : Ext Z [] φ loc h φ' loc' h') : EnvOk Z F ρ φ' loc' h' where
  kind := e.kind
  glob := e.glob
  blt := e.blt
  woff := fun a ha => by
    obtain ⟨h1, h2, h3, o, h4⟩ := e.woff a ha
    exact ⟨x.offφ h1 h4, x.offl h2 h4, h3, x.alive _ _ h4⟩
  wl := e.wl
  ns := by
    obtain ⟨m, hn, hm⟩ := e.ns
    obtain ⟨_, h2, h3, _⟩ := e.woff _ e.wl
    obtain ⟨o, es, ep, ho, r⟩ := hn
    refine ⟨m, ⟨o, es, ep, x.keep _ _ h2 h3 (fun q => nomatch q) ho, r⟩, fun y v hk hv => ?_⟩
    obtain ⟨cv, h5, h6⟩ := hm y v hk hv
    exact ⟨cv, h5, h6.mono x.mono x.pre⟩
  cell := fun y v hk hv => by
    obtain ⟨c, cv, h1, ⟨o, ho, hd⟩, h3⟩ := e.cell y v hk hv
    obtain ⟨c1, c2, _⟩ := e.coff y c h1
    exact ⟨c, cv, h1, ⟨o, x.keep _ _ c1 c2 (fun q => nomatch q) ho, hd⟩, h3.mono x.mono x.pre⟩
  cw := fun y hy => by
    obtain ⟨h0, c, v0, h1, h2, ⟨o, ho, hd⟩⟩ := e.cw y hy
    obtain ⟨c1, c2, _⟩ := e.coff y c h1
    exact ⟨h0, c, v0, h1, h2, ⟨o, x.keep _ _ c1 c2 (fun q => nomatch q) ho, hd⟩⟩
  inj := e.inj
  cne := e.cne
  coff := fun y c hc => by
    obtain ⟨h1, h2, o, h3⟩ := e.coff y c hc
    exact ⟨x.offl h1 h3, h2, x.alive _ _ h3⟩

/-- the post: an abstract answer, a store, related -/
inductive P {α β : Type} (Z : Tb) (ht : Heap) (X : List Addr) (R : Frz → Locs → α → β → Prop) (s : Shared) (φ : Frz) (loc : Locs) (Post : α → Store → Prop) (c : β) : Shared → Prop
  | of (v : α) (μ' : Store) (φ' : Frz) (loc' : Locs) (h' : Heap) (tk' : Nat) (p : Post v μ') (r : R φ' loc' v c) (I : InvG Z ht μ' φ' loc' h') (x : Ext Z X φ loc s.heap φ' loc' h') : P Z ht X R s φ loc Post c { s with heap := h', toks := tk' }

def REq {α : Type} : Frz → Locs → α → α → Prop := fun _ _ a b => a = b
def NoE : Value → Shared → Prop := fun _ _ => False

section
variable {prog : Program} {w : World} {Z : Tb} {ht : Heap} {A : Around}
theorem P.mk {α β : Type} {X : List Addr} {R : Frz → Locs → α → β → Prop} {s : Shared} {φ : Frz} {loc : Locs} {Post : α → Store → Prop} {v : α} {c : β} {μ' : Store} {φ' : Frz} {loc' : Locs} {h' : Heap} {tk' : Nat}
    (h1 : Post v μ') (h2 : R φ' loc' v c) (h3 : InvG Z ht μ' φ' loc' h') (h4 : Ext Z X φ loc s.heap φ' loc' h') : P Z ht X R s φ loc Post c { s with heap := h', toks := tk' } :=
  ⟨v, μ', φ', loc', h', tk', h1, h2, h3, h4⟩
theorem P.here {α β : Type} {X : List Addr} {R : Frz → Locs → α → β → Prop} {s : Shared} {φ : Frz} {loc : Locs} {Post : α → Store → Prop} {v : α} {c : β} {μ : Store}
    (h1 : Post v μ) (h2 : R φ loc v c) (h3 : InvG Z ht μ φ loc s.heap) : P Z ht X R s φ loc Post c s :=
  ⟨v, μ, φ, loc, s.heap, s.toks, h1, h2, h3, Ext.refl ..⟩
theorem P.tok {α β : Type} {X : List Addr} {R : Frz → Locs → α → β → Prop} {s : Shared} {φ : Frz} {loc : Locs} {Post : α → Store → Prop} {v : α} {c : β} {μ : Store} {tk : Nat}
    (h1 : Post v μ) (h2 : R φ loc v c) (h3 : InvG Z ht μ φ loc s.heap) : P Z ht X R s φ loc Post c { s with toks := tk } :=
  ⟨v, μ, φ, loc, s.heap, tk, h1, h2, h3, Ext.refl ..⟩
theorem P.on {α β : Type} {X : List Addr} {R : Frz → Locs → α → β → Prop} {s : Shared} {φ φ₁ : Frz} {loc loc₁ : Locs} {h₁ : Heap} {tk : Nat} {Post : α → Store → Prop} {c : β} {s' : Shared}
    (x : Ext Z X φ loc s.heap φ₁ loc₁ h₁) (p : P Z ht X R { s with heap := h₁, toks := tk } φ₁ loc₁ Post c s') : P Z ht X R s φ loc Post c s' := by
  obtain ⟨v, μ', φ', loc', h', tk', a, b, c, d⟩ := p
  exact ⟨v, μ', φ', loc', h', tk', a, b, c, x.trans d⟩
theorem P.imp {α β : Type} {X : List Addr} {R : Frz → Locs → α → β → Prop} {s : Shared} {φ : Frz} {loc : Locs} {Post Post' : α → Store → Prop} {c : β} {s' : Shared}
    (h : ∀ v μ, Post v μ → Post' v μ) (p : P Z ht X R s φ loc Post c s') : P Z ht X R s φ loc Post' c s' := by
  obtain ⟨v, μ', φ', loc', h', tk', a, b, c, d⟩ := p
  exact ⟨v, μ', φ', loc', h', tk', h _ _ a, b, c, d⟩

/-- sequence -/
theorem seq {α β α' β' : Type} {X : List Addr} {R : Frz → Locs → α → β → Prop} {R' : Frz → Locs → α' → β' → Prop} {s : Shared} {φ : Frz} {loc : Locs} {Post : α → Store → Prop} {Post' : α' → Store → Prop} {t : Sem β} {k : β → Sem β'}
    (h : wpAny (model prog w) A t (P Z ht X R s φ loc Post) NoE s)
    (hk : ∀ v μ' φ' loc' h' tk' c, Post v μ' → R φ' loc' v c → InvG Z ht μ' φ' loc' h' → Ext Z X φ loc s.heap φ' loc' h' →
      wpAny (model prog w) A (k c) (P Z ht X R' { s with heap := h', toks := tk' } φ' loc' Post') NoE { s with heap := h', toks := tk' }) :
    wpAny (model prog w) A (t >>= k) (P Z ht X R' s φ loc Post') NoE s := by
  refine wpAny_bind (wpAny_mono h (fun c s' p => ?_) fun _ _ e => e)
  obtain ⟨v, μ', φ', loc', h', tk', a, b, c', d⟩ := p
  exact wpAny_mono (hk v μ' φ' loc' h' tk' c a b c' d) (fun _ _ q => P.on d q) fun _ _ e => e
/-- weaken what may be written -/
theorem wX {α β : Type} {X X' : List Addr} {R : Frz → Locs → α → β → Prop} {s : Shared} {φ : Frz} {loc : Locs} {Post : α → Store → Prop} {t : Sem β}
    (h : wpAny (model prog w) A t (P Z ht X R s φ loc Post) NoE s) (hX : ∀ a ∈ X, a ∈ X') : wpAny (model prog w) A t (P Z ht X' R s φ loc Post) NoE s := by
  refine wpAny_mono h (fun c s' p => ?_) fun _ _ e => e
  obtain ⟨v, μ', φ', loc', h', tk', a, b, c', d⟩ := p
  exact ⟨v, μ', φ', loc', h', tk', a, b, c', d.weaken hX⟩
theorem wPost {α β : Type} {X : List Addr} {R : Frz → Locs → α → β → Prop} {s : Shared} {φ : Frz} {loc : Locs} {Post Post' : α → Store → Prop} {t : Sem β}
    (h : wpAny (model prog w) A t (P Z ht X R s φ loc Post) NoE s) (hX : ∀ v μ, Post v μ → Post' v μ) : wpAny (model prog w) A t (P Z ht X R s φ loc Post') NoE s :=
  wpAny_mono h (fun _ _ p => P.imp hX p) fun _ _ e => e

/-- the judgements -/
def TE (prog : Program) (w : World) (Z : Tb) (ht : Heap) (n : Nat) (F : Fm) (e : Expr) (ρ : Rho) (μ : Store) (Post : AV → Store → Prop) : Prop :=
  ∀ A s φ loc, AOk A n → InvG Z ht μ φ loc s.heap → EnvOk Z F ρ φ loc s.heap → wpAny (model prog w) A (eval e F.env) (P Z ht [] RelA s φ loc Post) NoE s
def TB (prog : Program) (w : World) (Z : Tb) (ht : Heap) (n : Nat) (F : Fm) (e : Expr) (ρ : Rho) (μ : Store) (Post : Bool → Store → Prop) : Prop :=
  ∀ A s φ loc, AOk A n → InvG Z ht μ φ loc s.heap → EnvOk Z F ρ φ loc s.heap → wpAny (model prog w) A (isTrue e F.env (eval e F.env)) (P Z ht [] REq s φ loc Post) NoE s
/-- an operation on values already at hand -/
def TO {β γ : Type} (prog : Program) (w : World) (Z : Tb) (ht : Heap) (n : Nat) (R : Frz → Locs → β → γ → Prop) (args : List AV) (t : List Value → Sem γ) (μ : Store) (Post : β → Store → Prop) : Prop :=
  ∀ A s φ loc cs, AOk A n → InvG Z ht μ φ loc s.heap → RelAL φ loc args cs → wpAny (model prog w) A (t cs) (P Z ht [] R s φ loc Post) NoE s
abbrev TC (prog : Program) (w : World) (Z : Tb) (ht : Heap) (n : Nat) (f : Value) (args : List AV) (μ : Store) (Post : AV → Store → Prop) : Prop :=
  TO prog w Z ht n RelA args (fun cs => call f cs) μ Post

inductive Fl where
  | next | brk | cont | ret (v : AV)
inductive RelF (φ : Frz) (loc : Locs) : Fl → Flow → Prop
  | next : RelF φ loc .next .next
  | brk : RelF φ loc .brk .brk
  | cont : RelF φ loc .cont .cont
  | ret {v : AV} {c : Value} : RelA φ loc v c → RelF φ loc (.ret v) (.ret c)
/-- for statements: the bindings go along -/
def RS (Z : Tb) (F : Fm) (h : Heap) : Frz → Locs → Fl × Rho → Flow → Prop := fun φ loc a c => RelF φ loc a.1 c ∧ EnvOk Z F a.2 φ loc h
inductive PS (Z : Tb) (ht : Heap) (F : Fm) (s : Shared) (φ : Frz) (loc : Locs) (Post : Fl → Rho → Store → Prop) (c : Flow) : Shared → Prop
  | of (fl : Fl) (ρ' : Rho) (μ' : Store) (φ' : Frz) (loc' : Locs) (h' : Heap) (tk' : Nat) (p : Post fl ρ' μ') (r : RelF φ' loc' fl c) (I : InvG Z ht μ' φ' loc' h') (e : EnvOk Z F ρ' φ' loc' h') (x : Ext Z F.W φ loc s.heap φ' loc' h') : PS Z ht F s φ loc Post c { s with heap := h', toks := tk' }
def TS (prog : Program) (w : World) (Z : Tb) (ht : Heap) (n : Nat) (F : Fm) (b : List Stmt) (ρ : Rho) (μ : Store) (Post : Fl → Rho → Store → Prop) : Prop :=
  ∀ A s φ loc, AOk A n → InvG Z ht μ φ loc s.heap → EnvOk Z F ρ φ loc s.heap → wpAny (model prog w) A (execs b F.env) (PS Z ht F s φ loc Post) NoE s
def T1 (prog : Program) (w : World) (Z : Tb) (ht : Heap) (n : Nat) (F : Fm) (b : Stmt) (ρ : Rho) (μ : Store) (Post : Fl → Rho → Store → Prop) : Prop :=
  ∀ A s φ loc, AOk A n → InvG Z ht μ φ loc s.heap → EnvOk Z F ρ φ loc s.heap → wpAny (model prog w) A (exec b F.env) (PS Z ht F s φ loc Post) NoE s
end

section
variable {Z : Tb} {ht : Heap} {μ : Store} {φ : Frz} {loc : Locs} {h h' : Heap} {X : List Addr} {a : Addr} {o : Obj}

theorem nodup_inj {α : Type} {l : List α} (h : l.Nodup) {i j : Nat} (hi : i < l.length) (hj : j < l.length) (e : l[i] = l[j]) : i = j := by
  have hp := List.pairwise_iff_getElem.mp h
  rcases Nat.lt_trichotomy i j with q | q | q
  · exact absurd e (hp i j hi hj q)
  · exact q
  · exact absurd e.symm (hp j i hj hi q)
theorem InvG.at (I : InvG Z ht μ φ loc h) {k : Nat} {vs : List V} (hm : μ[k]? = some vs) : ∃ a items, loc[k]? = some a ∧ LstAt h a items ∧ RelL φ vs items := by
  have hk : k < loc.length := by rw [I.len]; exact (List.getElem?_eq_some_iff.mp hm).1
  obtain ⟨items, h1, h2⟩ := I.lists k loc[k] vs (List.getElem?_eq_getElem hk) hm
  exact ⟨loc[k], items, List.getElem?_eq_getElem hk, h1, h2⟩
theorem InvG.aliveL (I : InvG Z ht μ φ loc h) (ha : a ∈ loc) : ∃ o, h.get? a = some o := by
  obtain ⟨k, hk, rfl⟩ := List.mem_iff_getElem.mp ha
  have hk' : k < μ.length := by rw [← I.len]; exact hk
  obtain ⟨items, ⟨o, ho⟩, _⟩ := I.lists k loc[k] μ[k] (List.getElem?_eq_getElem hk) (List.getElem?_eq_getElem hk')
  exact ⟨_, ho⟩
theorem InvG.move (I : InvG Z ht μ φ loc h) (k1 : ∀ a o, φ a = some o → h'.get? a = some o) (k2 : ∀ a ∈ loc, h'.get? a = h.get? a) (k3 : ∀ a ∈ Z.tabs, h'.get? a = h.get? a) : InvG Z ht μ φ loc h' where
  sub := k1
  top := I.top
  off := I.off
  nd := I.nd
  len := I.len
  lists := fun k a vs h1 h2 => by
    obtain ⟨items, ⟨o, ho⟩, h4⟩ := I.lists k a vs h1 h2
    exact ⟨items, ⟨o, (k2 a (List.mem_of_getElem? h1)).trans ho⟩, h4⟩
  tabs := Z.stable _ _ _ _ I.tabs (Le.refl _) k3
  talive := fun b hb => by
    obtain ⟨h1, o, h2⟩ := I.talive b hb
    exact ⟨h1, o, (k3 b hb).trans h2⟩
theorem keep_eq {h h' : Heap} {b : Addr} {o : Obj} (e : h.get? b = some o) (k : h.get? b = some o → h'.get? b = some o) : h'.get? b = h.get? b := (k e).trans e.symm
theorem InvG.but (I : InvG Z ht μ φ loc h) (k : ∀ b o, b ≠ a → h.get? b = some o → h'.get? b = some o) (h1 : φ a = none) (h2 : a ∉ loc) (h3 : a ∉ Z.tabs) : InvG Z ht μ φ loc h' :=
  I.move (fun b o e => k b o (fun q => by subst q; rw [h1] at e; cases e) (I.sub b o e))
    (fun b hb => let ⟨o, ho⟩ := I.aliveL hb; keep_eq ho fun e => k b o (fun q => h2 (q ▸ hb)) e)
    (fun b hb => let ⟨_, o, ho⟩ := I.talive b hb; keep_eq ho fun e => k b o (fun q => h3 (q ▸ hb)) e)
theorem InvG.gar (I : InvG Z ht μ φ loc h) (k : ∀ b o, h.get? b = some o → h'.get? b = some o) : InvG Z ht μ φ loc h' :=
  I.move (fun b o e => k b o (I.sub b o e)) (fun b hb => let ⟨o, ho⟩ := I.aliveL hb; keep_eq ho fun e => k b o e) (fun b hb => let ⟨_, o, ho⟩ := I.talive b hb; keep_eq ho fun e => k b o e)
theorem Ext.gar (k : ∀ b o, h.get? b = some o → h'.get? b = some o) : Ext Z X φ loc h φ loc h' :=
  ⟨Le.refl _, ⟨[], by simp⟩, fun b o _ _ _ e => k b o e, fun b o e => ⟨o, k b o e⟩, fun _ e => .inl e, fun _ e => .inl e⟩
theorem Ext.but (k : ∀ b o, b ≠ a → h.get? b = some o → h'.get? b = some o) (al : ∀ o, h.get? a = some o → ∃ o', h'.get? a = some o') (ha : a ∈ X ∨ h.get? a = none) : Ext Z X φ loc h φ loc h' :=
  ⟨Le.refl _, ⟨[], by simp⟩, fun b o _ _ hX e => k b o (fun q => by subst q; rcases ha with ha | ha; exact hX ha; rw [ha] at e; cases e) e,
    fun b o e => by
      by_cases q : b = a
      · subst q; exact al o e
      · exact ⟨o, k b o q e⟩, fun _ e => .inl e, fun _ e => .inl e⟩
theorem Ext.drop {φ' : Frz} {loc' : Locs} (x : Ext Z (a :: X) φ loc h φ' loc' h') (ha : h.get? a = none) : Ext Z X φ loc h φ' loc' h' :=
  { x with keep := fun b o h1 h2 h3 e => x.keep b o h1 h2 (fun q => by
      rcases List.mem_cons.mp q with q | q
      · subst q; rw [ha] at e; cases e
      · exact h3 q) e }
def fz (φ : Frz) (a : Addr) (o : Obj) : Frz := fun b => if b = a then some o else φ b
theorem fz_le {φ : Frz} {a : Addr} {o : Obj} (ha : φ a = none) : Le φ (fz φ a o) := fun b o' e => by
  unfold fz
  by_cases q : b = a
  · subst q; rw [ha] at e; cases e
  · rw [if_neg q]; exact e
theorem fz_at {φ : Frz} {a : Addr} {o : Obj} : fz φ a o a = some o := by unfold fz; rw [if_pos rfl]
theorem InvG.dead (I : InvG Z ht μ φ loc h) (ha : h.get? a = none) : φ a = none := by
  cases q : φ a with
  | none => rfl
  | some o => rw [I.sub a o q] at ha; cases ha
theorem InvG.freeze (I : InvG Z ht μ φ loc h) (ha : h.get? a = none) (ho : h'.get? a = some o) (k : ∀ b o, h.get? b = some o → h'.get? b = some o) : InvG Z ht μ (fz φ a o) loc h' where
  sub := fun b o' e => by
    unfold fz at e
    by_cases q : b = a
    · subst q; rw [if_pos rfl] at e; cases e; exact ho
    · rw [if_neg q] at e; exact k _ _ (I.sub _ _ e)
  top := fun b o' e => fz_le (I.dead ha) _ _ (I.top b o' e)
  off := fun b hb => by
    obtain ⟨o', ho'⟩ := I.aliveL hb
    obtain ⟨h1, h2⟩ := I.off b hb
    refine ⟨?_, h2⟩
    unfold fz
    rw [if_neg (fun q => by subst q; rw [ha] at ho'; cases ho')]; exact h1
  nd := I.nd
  len := I.len
  lists := fun k' a' vs h1 h2 => by
    obtain ⟨items, ⟨o, ho⟩, h4⟩ := I.lists k' a' vs h1 h2
    exact ⟨items, ⟨o, k _ _ ho⟩, h4.mono (fz_le (I.dead ha))⟩
  tabs := Z.stable _ _ _ _ I.tabs (fz_le (I.dead ha)) (fun b hb => let ⟨_, o, ho⟩ := I.talive b hb; keep_eq ho fun e => k b o e)
  talive := fun b hb => by
    obtain ⟨h1, o', h2⟩ := I.talive b hb
    refine ⟨?_, o', k _ _ h2⟩
    unfold fz
    rw [if_neg (fun q => by subst q; rw [ha] at h2; cases h2)]; exact h1
theorem Ext.freeze (hd : φ a = none) (ha : h.get? a = none) (k : ∀ b o, h.get? b = some o → h'.get? b = some o) : Ext Z X φ loc h (fz φ a o) loc h' :=
  ⟨fz_le hd, ⟨[], by simp⟩, fun b o _ _ _ e => k b o e, fun b o e => ⟨o, k b o e⟩, fun b e => by
    unfold fz at e
    by_cases q : b = a
    · subst q; exact .inr ha
    · rw [if_neg q] at e; exact .inl e, fun _ e => .inl e⟩
theorem InvG.newlist (I : InvG Z ht μ φ loc h) {vs : List V} {items : List Value} (ha : h.get? a = none) (ho : LstAt h' a items) (hr : RelL φ vs items) (k : ∀ b o, h.get? b = some o → h'.get? b = some o) : InvG Z ht (μ ++ [vs]) φ (loc ++ [a]) h' where
  sub := fun b o' e => k _ _ (I.sub _ _ e)
  top := I.top
  off := fun b hb => by
    rcases List.mem_append.mp hb with hb | hb
    · exact I.off b hb
    · rw [List.mem_singleton.mp hb]
      exact ⟨I.dead ha, fun q => by obtain ⟨_, o, ho⟩ := I.talive _ q; rw [ha] at ho; cases ho⟩
  nd := by
    refine List.nodup_append.mpr ⟨I.nd, by simp, fun x hx y hy => ?_⟩
    rw [List.mem_singleton.mp hy]
    rintro rfl
    obtain ⟨o, ho⟩ := I.aliveL hx
    rw [ha] at ho; cases ho
  len := by simp [I.len]
  lists := fun k' a' vs' h1 h2 => by
    by_cases hk : k' < loc.length
    · rw [List.getElem?_append_left hk] at h1
      rw [List.getElem?_append_left (by rw [← I.len]; exact hk)] at h2
      obtain ⟨items, ⟨o, ho⟩, h4⟩ := I.lists k' a' vs' h1 h2
      exact ⟨items, ⟨o, k _ _ ho⟩, h4⟩
    · have hk2 : k' = loc.length := by
        have := (List.getElem?_eq_some_iff.mp h1).1
        simp at this; omega
      subst hk2
      rw [List.getElem?_append_right (Nat.le_refl _)] at h1
      rw [I.len, List.getElem?_append_right (Nat.le_refl _)] at h2
      simp at h1 h2
      subst h1 h2
      exact ⟨items, ho, hr⟩
  tabs := Z.stable _ _ _ _ I.tabs (Le.refl _) (fun b hb => let ⟨_, o, ho⟩ := I.talive b hb; keep_eq ho fun e => k b o e)
  talive := fun b hb => by
    obtain ⟨h1, o', h2⟩ := I.talive b hb
    exact ⟨h1, o', k _ _ h2⟩
theorem Ext.newlist (ha : h.get? a = none) (k : ∀ b o, h.get? b = some o → h'.get? b = some o) : Ext Z X φ loc h φ (loc ++ [a]) h' :=
  ⟨Le.refl _, ⟨[a], rfl⟩, fun b o _ _ _ e => k b o e, fun b o e => ⟨o, k b o e⟩, fun _ e => .inl e, fun b hb => by
    rcases List.mem_append.mp hb with hb | hb
    · exact .inl hb
    · rw [List.mem_singleton.mp hb]; exact .inr ha⟩
theorem InvG.setl (I : InvG Z ht μ φ loc h) {k : Nat} {vs : List V} {items : List Value} (hk : loc[k]? = some a) (hl : LstAt h' a items) (hr : RelL φ vs items)
    (kp : ∀ b o, b ≠ a → h.get? b = some o → h'.get? b = some o) : InvG Z ht (μ.set k vs) φ loc h' where
  sub := fun b o' e => kp _ _ (fun q => by subst q; rw [(I.off _ (List.mem_of_getElem? hk)).1] at e; cases e) (I.sub _ _ e)
  top := I.top
  off := I.off
  nd := I.nd
  len := by rw [List.length_set]; exact I.len
  lists := fun k' a' vs' h1 h2 => by
    by_cases q : k' = k
    · subst q
      rw [hk] at h1; cases h1
      have hlt : k' < μ.length := by rw [← I.len]; exact (List.getElem?_eq_some_iff.mp hk).1
      rw [List.getElem?_set_self hlt] at h2; cases h2
      exact ⟨items, hl, hr⟩
    · rw [List.getElem?_set_ne (Ne.symm q)] at h2
      obtain ⟨items, ⟨o, ho⟩, h4⟩ := I.lists k' a' vs' h1 h2
      refine ⟨items, ⟨o, kp _ _ (fun q' => q ?_) ho⟩, h4⟩
      subst q'
      obtain ⟨l1, e1⟩ := List.getElem?_eq_some_iff.mp h1
      obtain ⟨l2, e2⟩ := List.getElem?_eq_some_iff.mp hk
      exact nodup_inj I.nd l1 l2 (e1.trans e2.symm)
  tabs := Z.stable _ _ _ _ I.tabs (Le.refl _) (fun b hb => let ⟨_, o, ho⟩ := I.talive b hb; keep_eq ho fun e => kp b o (fun q => (I.off _ (List.mem_of_getElem? hk)).2 (q ▸ hb)) e)
  talive := fun b hb => by
    obtain ⟨h1, o', h2⟩ := I.talive b hb
    exact ⟨h1, o', kp _ _ (fun q => (I.off _ (List.mem_of_getElem? hk)).2 (q ▸ hb)) h2⟩
theorem Ext.setl {k : Nat} (hk : loc[k]? = some a) (al : ∃ o', h'.get? a = some o')
    (kp : ∀ b o, b ≠ a → h.get? b = some o → h'.get? b = some o) : Ext Z X φ loc h φ loc h' :=
  ⟨Le.refl _, ⟨[], by simp⟩, fun b o hl _ _ e => kp b o (fun q => hl (q ▸ List.mem_of_getElem? hk)) e, fun b o e => by
    by_cases q : b = a
    · subst q; exact al
    · exact ⟨o, kp b o q e⟩, fun _ e => .inl e, fun _ e => .inl e⟩
theorem push_dead (h : Heap) : h.get? h.objs.size = none := by
  cases q : h.get? h.objs.size with
  | none => rfl
  | some o => exact absurd (Heap.lt_size q) (Nat.lt_irrefl _)
theorem push_keep (h : Heap) (o' : Obj) : ∀ b o, h.get? b = some o → (h.push o').get? b = some o := fun b o e => Heap.get?_push_of_some _ e

/-- a list value, frozen or not -/
def IsL (μ : Store) (v : AV) (vs : List V) : Prop := v = .p (.lst vs) ∨ ∃ k, v = .m k ∧ μ[k]? = some vs
theorem IsL.at {v : AV} {vs : List V} {c : Value} (hL : IsL μ v vs) (I : InvG Z ht μ φ loc h) (r : RelA φ loc v c) : ∃ a items, c = .ref a ∧ LstAt h a items ∧ RelL φ vs items ∧ (φ a ≠ none ∨ a ∈ loc) := by
  rcases hL with rfl | ⟨k, rfl, hk⟩
  · cases r with
    | p r =>
      cases r with
      | lst h1 h4 => exact ⟨_, _, rfl, ⟨_, I.sub _ _ h1⟩, h4, .inl (by rw [h1]; exact Option.some_ne_none _)⟩
  · cases r with
    | m r =>
      obtain ⟨items, h1, h2⟩ := I.lists k _ vs r hk
      exact ⟨_, _, rfl, h1, h2, .inr (List.mem_of_getElem? r)⟩
end

section
variable {prog : Program} {w : World} {Z : Tb} {ht : Heap} {n : Nat} {F : Fm} {ρ : Rho} {μ : Store}

theorem TE.imp {e : Expr} {Post Post' : AV → Store → Prop} (h : TE prog w Z ht n F e ρ μ Post) (k : ∀ v μ, Post v μ → Post' v μ) : TE prog w Z ht n F e ρ μ Post' :=
  fun A s φ loc a i r => wPost (h A s φ loc a i r) k
theorem TB.imp {e : Expr} {Post Post' : Bool → Store → Prop} (h : TB prog w Z ht n F e ρ μ Post) (k : ∀ v μ, Post v μ → Post' v μ) : TB prog w Z ht n F e ρ μ Post' :=
  fun A s φ loc a i r => wPost (h A s φ loc a i r) k
theorem TO.imp {β γ : Type} {R : Frz → Locs → β → γ → Prop} {args : List AV} {t : List Value → Sem γ} {Post Post' : β → Store → Prop} (h : TO prog w Z ht n R args t μ Post) (k : ∀ v μ, Post v μ → Post' v μ) : TO prog w Z ht n R args t μ Post' :=
  fun A s φ loc cs a i r => wPost (h A s φ loc cs a i r) k
theorem TE.le {e : Expr} {m : Nat} {Post : AV → Store → Prop} (h : TE prog w Z ht m F e ρ μ Post) (k : m ≤ n) : TE prog w Z ht n F e ρ μ Post := fun A s φ loc a i r => h A s φ loc (a.le k) i r
theorem TO.le {β γ : Type} {m : Nat} {R : Frz → Locs → β → γ → Prop} {args : List AV} {t : List Value → Sem γ} {Post : β → Store → Prop} (h : TO prog w Z ht m R args t μ Post) (k : m ≤ n) : TO prog w Z ht n R args t μ Post :=
  fun A s φ loc cs a i r => h A s φ loc cs (a.le k) i r

/-! constants, names -/
theorem TE.int {i : Int} {k : Nat} {pos : Pos} {Post : AV → Store → Prop} (h : Post (.p (.int i)) μ) : TE prog w Z ht n F (.Constant (.int i) k pos) ρ μ Post :=
  fun A s φ loc a I E => wpAny_Constant_int (P.tok h (.p (.int _ _)) I)
theorem TE.bool {b : Bool} {k : Nat} {pos : Pos} {Post : AV → Store → Prop} (h : Post (.p (.bool b)) μ) : TE prog w Z ht n F (.Constant (.bool b) k pos) ρ μ Post :=
  fun A s φ loc a I E => wpAny_Constant_bool (P.here h (.p (.bool _)) I)
theorem TE.str {x : Str} {k : Nat} {pos : Pos} {Post : AV → Store → Prop} (h : Post (.p (.str x)) μ) : TE prog w Z ht n F (.Constant (.str x) k pos) ρ μ Post :=
  fun A s φ loc a I E => wpAny_Constant_str (P.tok h (.p (.str _ _)) I)
theorem TE.flt {x : UInt64} {k : Nat} {pos : Pos} {Post : AV → Store → Prop} (h : Post (.p (.flt x)) μ) : TE prog w Z ht n F (.Constant (.float x) k pos) ρ μ Post :=
  fun A s φ loc a I E => fun _ _ _ => P.tok (s := s) h (.p (.flt _ s.toks)) I
theorem TE.name {x : Str} {pos : Pos} {v : AV} {Post : AV → Store → Prop} (hv : ρ x = some v) (hk : F.env.kindOf x = some .local ∨ F.env.kindOf x = some .cell ∨ F.env.kindOf x = some .free) (h : Post v μ)
    (hd : (x == ("__debug__" : Str)) = false := by decide) (hn : (x == ("__classdict__" : Str)) = false := by decide) : TE prog w Z ht n F (.Name x pos) ρ μ Post := by
  intro A s φ loc a I E
  refine wpAny_Name ?_ hd
  rcases hk with hk | hk | hk
  · obtain ⟨m, h1, h2⟩ := E.ns
    obtain ⟨cv, h3, h4⟩ := h2 x v hk hv
    exact wpAny_loadName_local E.kind hk h1 h3 (P.here h h4 I)
  · obtain ⟨c, cv, h1, h2, h3⟩ := E.cell x v (.inl hk) hv
    exact wpAny_loadName_cell E.kind hk h1 h2 (P.here h h3 I)
  · obtain ⟨c, cv, h1, h2, h3⟩ := E.cell x v (.inr hk) hv
    exact wpAny_loadName_free E.kind hk h1 h2 (P.here h h3 I) hn

/-- the top's names -/
structure Base (ht : Heap) (mg mb : Str → Option Value) : Prop where
  g : ht.Ns mainGlobals mg
  b : ht.Ns builtinsNs mb
  nolimit : ht.NoLimit
theorem InvG.hts {φ : Frz} {loc : Locs} {h : Heap} (I : InvG Z ht μ φ loc h) : ∀ b o, ht.get? b = some o → h.get? b = some o := fun b o e => I.sub _ _ (I.top _ _ e)
theorem TE.glob {mg mb : Str → Option Value} (B : Base ht mg mb) {x : Str} {pos : Pos} {v : Value} {Post : AV → Store → Prop} (hv : mg x = some v) (hk : F.env.kindOf x = some .globalImplicit) (h : Post (.p (.val v)) μ)
    (hd : (x == ("__debug__" : Str)) = false := by decide) : TE prog w Z ht n F (.Name x pos) ρ μ Post := by
  intro A s φ loc a I E
  exact Calls.Name_function_global E.kind hk (Calls.loadGlobal_global (by rw [E.glob]; exact B.g.keeps I.hts) hv (P.here h (.p (.val _)) I)) hd
theorem TE.blt {mg mb : Str → Option Value} (B : Base ht mg mb) {x : Str} {pos : Pos} {v : Value} {Post : AV → Store → Prop} (hg : mg x = none) (hv : mb x = some v) (hk : F.env.kindOf x = some .globalImplicit) (h : Post (.p (.val v)) μ)
    (hd : (x == ("__debug__" : Str)) = false := by decide) : TE prog w Z ht n F (.Name x pos) ρ μ Post := by
  intro A s φ loc a I E
  exact Calls.Name_function_global E.kind hk (Calls.loadGlobal_builtin (by rw [E.glob]; exact B.g.keeps I.hts) hg (by rw [E.blt]; exact B.b.keeps I.hts) hv (P.here h (.p (.val _)) I)) hd

/-! operators -/
theorem TE.bin {l r : Expr} {op : Operator} {pos : Pos} {Post : AV → Store → Prop}
    (h : TE prog w Z ht n F l ρ μ fun a μ₁ => TE prog w Z ht n F r ρ μ₁ fun b μ₂ => TO prog w Z ht n RelA [a, b] (fun cs => match cs with | [x, y] => binaryOp op x y | _ => unsupported "") μ₂ Post) :
    TE prog w Z ht n F (.BinOp l op r pos) ρ μ Post := by
  intro A s φ loc a I E
  rw [eval_BinOp]
  refine seq (h A s φ loc a I E) fun v μ₁ φ₁ loc₁ h₁ tk₁ c p₁ r₁ I₁ x₁ => ?_
  refine seq (wpAny_holding (p₁ A _ _ _ a I₁ (E.ext x₁))) fun v' μ₂ φ₂ loc₂ h₂ tk₂ c' p₂ r₂ I₂ x₂ => ?_
  refine wpAny_bind (wpAny_standAt (wpAny_operateT ?_))
  exact p₂ A _ _ _ [c, c'] a I₂ (.cons (r₁.mono x₂.mono x₂.pre) (.cons r₂ .nil))
theorem TE.un {x : Expr} {op : UnaryOp} {pos : Pos} {Post : AV → Store → Prop}
    (h : TE prog w Z ht n F x ρ μ fun a μ₁ => TO prog w Z ht n RelA [a] (fun cs => match cs with | [x] => unaryOp op x | _ => unsupported "") μ₁ Post) :
    TE prog w Z ht n F (.UnaryOp op x pos) ρ μ Post := by
  intro A s φ loc a I E
  show wpAny _ A (eval x F.env >>= fun v => standAt pos >>= fun _ => holding [v] (unaryOp op v)) _ _ s
  refine seq (h A s φ loc a I E) fun v μ₁ φ₁ loc₁ h₁ tk₁ c p₁ r₁ I₁ x₁ => ?_
  refine wpAny_bind (wpAny_standAt (wpAny_holding ?_))
  exact p₁ A _ _ _ [c] a I₁ (.cons r₁ .nil)
theorem TE.cmp {l r : Expr} {op : CmpOp} {pos : Pos} {Post : AV → Store → Prop}
    (h : TE prog w Z ht n F l ρ μ fun a μ₁ => TE prog w Z ht n F r ρ μ₁ fun b μ₂ => TO prog w Z ht n RelA [a, b] (fun cs => match cs with | [x, y] => compareOp op x y | _ => unsupported "") μ₂ Post)
    (hb : behindInMarks op r = false := by rfl) :
    TE prog w Z ht n F (.Compare l [op] [r] pos) ρ μ Post := by
  intro A s φ loc a I E
  rw [eval_Compare1, markedBehindIn_of_false hb]
  refine seq (h A s φ loc a I E) fun v μ₁ φ₁ loc₁ h₁ tk₁ c p₁ r₁ I₁ x₁ => ?_
  refine seq (wpAny_holding (p₁ A _ _ _ a I₁ (E.ext x₁))) fun v' μ₂ φ₂ loc₂ h₂ tk₂ c' p₂ r₂ I₂ x₂ => ?_
  refine wpAny_bind (wpAny_standAt (wpAny_operateT ?_))
  exact p₂ A _ _ _ [c, c'] a I₂ (.cons (r₁.mono x₂.mono x₂.pre) (.cons r₂ .nil))
end

def upd (ρ : Rho) (x : Str) (v : AV) : Rho := fun y => if y = x then some v else ρ y

section
variable {prog : Program} {w : World} {Z : Tb} {ht : Heap} {n : Nat} {F : Fm} {ρ : Rho} {μ : Store} {A : Around}

/-! tests -/
theorem TB.cmp {l r : Expr} {op : CmpOp} {pos : Pos} {Post : Bool → Store → Prop}
    (h : TE prog w Z ht n F l ρ μ fun a μ₁ => TE prog w Z ht n F r ρ μ₁ fun b μ₂ => TO prog w Z ht n RelA [a, b] (fun cs => match cs with | [x, y] => compareOp op x y | _ => unsupported "") μ₂ fun v μ₃ => ∃ b, v = .p (.bool b) ∧ Post b μ₃)
    (hb : behindInMarks op r = false := by rfl) :
    TB prog w Z ht n F (.Compare l [op] [r] pos) ρ μ Post := by
  intro A s φ loc a I E
  rw [isTrue_Compare1, markedBehindIn_of_false hb]
  refine seq (h A s φ loc a I E) fun v μ₁ φ₁ loc₁ h₁ tk₁ c p₁ r₁ I₁ x₁ => ?_
  refine seq (wpAny_holding (p₁ A _ _ _ a I₁ (E.ext x₁))) fun v' μ₂ φ₂ loc₂ h₂ tk₂ c' p₂ r₂ I₂ x₂ => ?_
  refine wpAny_bind (wpAny_standAt ?_)
  refine seq (wpAny_operateT (p₂ A _ _ _ [c, c'] a I₂ (.cons (r₁.mono x₂.mono x₂.pre) (.cons r₂ .nil)))) fun v'' μ₃ φ₃ loc₃ h₃ tk₃ c'' p₃ r₃ I₃ x₃ => ?_
  obtain ⟨b, rfl, p⟩ := p₃
  cases r₃ with
  | p r => cases r with
    | bool => exact wpAny_holding (wpAny_truthy_bool (P.here p rfl I₃))
theorem TB.not {x : Expr} {pos : Pos} {Post : Bool → Store → Prop} (h : TB prog w Z ht n F x ρ μ fun b μ₁ => Post (!b) μ₁) : TB prog w Z ht n F (.UnaryOp .Not x pos) ρ μ Post := by
  intro A s φ loc a I E
  refine wpAny_isTrue_Not (wpAny_mono (h A s φ loc a I E) (fun b s' p => ?_) fun _ _ e => e)
  obtain ⟨v, μ', φ', loc', h', tk', q1, rfl, q3, q4⟩ := p
  exact ⟨_, _, _, _, _, _, q1, rfl, q3, q4⟩
theorem TB.and2 {x y : Expr} {pos : Pos} {Post : Bool → Store → Prop} (h : TB prog w Z ht n F x ρ μ fun b μ₁ => match b with | true => TB prog w Z ht n F y ρ μ₁ Post | false => Post false μ₁) :
    TB prog w Z ht n F (.BoolOp .And [x, y] pos) ρ μ Post := by
  intro A s φ loc a I E
  refine wpAny_isTrue_BoolOp (wpAny_allTrue_And_cons (wpAny_mono (h A s φ loc a I E) (fun b s' p => ?_) fun _ _ e => e))
  obtain ⟨v, μ', φ', loc', h', tk', q1, rfl, q3, q4⟩ := p
  cases v with
  | false => first | exact P.mk q1 rfl q3 q4 | (simp only [Bool.false_eq_true, if_false]; exact P.mk q1 rfl q3 q4)
  | true =>
    first
      | refine wpAny_allTrue_And_cons ?_
      | (simp only [if_true]; refine wpAny_allTrue_And_cons ?_)
    refine wpAny_mono (q1 A _ _ _ a q3 (E.ext q4)) (fun b s'' p => ?_) fun _ _ e => e
    obtain ⟨v, μ'', φ'', loc'', h'', tk'', p1, rfl, p3, p4⟩ := p
    cases v with
    | false => first | exact P.mk p1 rfl p3 (q4.trans p4) | (simp only [Bool.false_eq_true, if_false]; exact P.mk p1 rfl p3 (q4.trans p4))
    | true => first | exact wpAny_allTrue_And_nil (P.mk p1 rfl p3 (q4.trans p4)) | (simp only [if_true]; exact wpAny_allTrue_And_nil (P.mk p1 rfl p3 (q4.trans p4)))
theorem TB.val {e : Expr} {Post : Bool → Store → Prop} (h : TE prog w Z ht n F e ρ μ fun a μ₁ => TO prog w Z ht n REq [a] (fun cs => match cs with | [x] => truthy x | _ => unsupported "") μ₁ Post)
    (hv : isTrue e F.env (eval e F.env) = (do let v ← eval e F.env; standAt e.pos; holding [v] (truthy v)) := by rfl) : TB prog w Z ht n F e ρ μ Post := by
  intro A s φ loc a I E
  rw [hv]
  refine seq (h A s φ loc a I E) fun v μ₁ φ₁ loc₁ h₁ tk₁ c p₁ r₁ I₁ x₁ => ?_
  refine wpAny_bind (wpAny_standAt (wpAny_holding ?_))
  exact p₁ A _ _ _ [c] a I₁ (.cons r₁ .nil)
theorem TE.ifexp {t b o : Expr} {pos : Pos} {Post : AV → Store → Prop} (h : TB prog w Z ht n F t ρ μ fun c μ₁ => match c with | true => TE prog w Z ht n F b ρ μ₁ Post | false => TE prog w Z ht n F o ρ μ₁ Post) :
    TE prog w Z ht n F (.IfExp t b o pos) ρ μ Post := by
  intro A s φ loc a I E
  show wpAny _ A (isTrue t F.env (eval t F.env) >>= fun c => if c = true then eval b F.env else eval o F.env) _ _ s
  refine seq (h A s φ loc a I E) fun v μ₁ φ₁ loc₁ h₁ tk₁ c p₁ r₁ I₁ x₁ => ?_
  cases r₁
  cases v with
  | true => exact p₁ A _ _ _ a I₁ (E.ext x₁)
  | false => exact p₁ A _ _ _ a I₁ (E.ext x₁)

/-! storing a name -/
theorem Ext.unφ {X : List Addr} {φ φ' : Frz} {loc loc' : Locs} {h h' : Heap} (x : Ext Z X φ loc h φ' loc' h') : True := trivial
theorem store_ok {s : Shared} {φ : Frz} {loc : Locs} {x : Str} {v : AV} {c : Value} (I : InvG Z ht μ φ loc s.heap) (E : EnvOk Z F ρ φ loc s.heap) (r : RelA φ loc v c)
    (hk : F.env.kindOf x = some .local ∨ x ∈ F.wc) {Q : Unit → Shared → Prop}
    (hQ : ∀ h' tk', InvG Z ht μ φ loc h' → EnvOk Z F (upd ρ x v) φ loc h' → Ext Z F.W φ loc s.heap φ loc h' → Q () { s with heap := h', toks := tk' }) :
    wpAny (model prog w) A (storeName F.env x c) Q NoE s := by
  rcases hk with hk | hk
  · obtain ⟨m, hn, hm⟩ := E.ns
    refine wpAny_storeName_local hk hn (fun h' hn' hs' => ?_) (by rw [E.kind]; rfl)
    obtain ⟨w1, w2, w3, ow, w4⟩ := E.woff _ E.wl
    have kp : ∀ b o, b ≠ F.env.locals → s.heap.get? b = some o → h'.get? b = some o := fun b o hb e => (hs'.2 b hb).trans e
    have al : ∀ b o, s.heap.get? b = some o → ∃ o', h'.get? b = some o' := fun b o e => by
      by_cases q : b = F.env.locals
      · subst q; obtain ⟨o', _, _, ho', _⟩ := hn'; exact ⟨o', ho'⟩
      · exact ⟨o, kp b o q e⟩
    refine hQ h' _ (I.but kp w1 w2 w3) ?_ (Ext.but kp (fun o e => al _ o e) (.inl E.wl))
    refine ⟨E.kind, E.glob, E.blt, fun a ha => ?_, E.wl, ⟨_, hn', fun y v' hy hv' => ?_⟩, fun y v' hy hv' => ?_, fun y hy => ?_, E.inj, E.cne, fun y c hc => ?_⟩
    · obtain ⟨a1, a2, a3, o, a4⟩ := E.woff a ha
      exact ⟨a1, a2, a3, al a o a4⟩
    · unfold upd at hv'
      by_cases q : y = x
      · subst q; rw [if_pos rfl] at hv' ⊢; cases hv'; exact ⟨c, rfl, r⟩
      · rw [if_neg q] at hv' ⊢; exact hm y v' hy hv'
    · unfold upd at hv'
      rw [if_neg (fun q => by subst q; rw [hk] at hy; rcases hy with hy | hy <;> cases hy)] at hv'
      obtain ⟨c', cv, h1, ⟨o, ho, hd⟩, h3⟩ := E.cell y v' hy hv'
      exact ⟨c', cv, h1, ⟨o, kp _ _ (E.cne y c' h1) ho, hd⟩, h3⟩
    · obtain ⟨h0, c', v0, h1, h2, ⟨o, ho, hd⟩⟩ := E.cw y hy
      exact ⟨h0, c', v0, h1, h2, ⟨o, kp _ _ (E.cne y c' h1) ho, hd⟩⟩
    · obtain ⟨h1, h2, o, h3⟩ := E.coff y c hc
      exact ⟨h1, h2, al _ _ h3⟩
  · obtain ⟨hkc, c₀, v0, hc, hW, hcell⟩ := E.cw x hk
    refine wpAny_storeName_cell E.kind hkc hc hcell (fun h' hcell' hs' => ?_)
    obtain ⟨w1, w2, w3, ow, w4⟩ := E.woff _ hW
    have kp : ∀ b o, b ≠ c₀ → s.heap.get? b = some o → h'.get? b = some o := fun b o hb e => (hs'.2 b hb).trans e
    have al : ∀ b o, s.heap.get? b = some o → ∃ o', h'.get? b = some o' := fun b o e => by
      by_cases q : b = c₀
      · subst q; obtain ⟨o', ho', _⟩ := hcell'; exact ⟨o', ho'⟩
      · exact ⟨o, kp b o q e⟩
    refine hQ h' s.toks (I.but kp w1 w2 w3) ?_ (Ext.but kp (fun o e => al _ o e) (.inl hW))
    obtain ⟨m, ⟨oL, es, ep, hoL, rL⟩, hm⟩ := E.ns
    refine ⟨E.kind, E.glob, E.blt, fun a ha => ?_, E.wl, ⟨m, ⟨oL, es, ep, kp _ _ (Ne.symm (E.cne x c₀ hc)) hoL, rL⟩, fun y v' hy hv' => ?_⟩, fun y v' hy hv' => ?_, fun y hy => ?_, E.inj, E.cne, fun y c hc => ?_⟩
    · obtain ⟨a1, a2, a3, o, a4⟩ := E.woff a ha
      exact ⟨a1, a2, a3, al a o a4⟩
    · unfold upd at hv'
      rw [if_neg (fun q => by subst q; rw [hkc] at hy; cases hy)] at hv'
      exact hm y v' hy hv'
    · unfold upd at hv'
      by_cases q : y = x
      · subst q; rw [if_pos rfl] at hv'; cases hv'; exact ⟨c₀, c, hc, hcell', r⟩
      · rw [if_neg q] at hv'
        obtain ⟨c', cv, h1, ⟨o, ho, hd⟩, h3⟩ := E.cell y v' hy hv'
        exact ⟨c', cv, h1, ⟨o, kp _ _ (fun q' => q (E.inj y x c₀ (q' ▸ h1) hc)) ho, hd⟩, h3⟩
    · by_cases q : y = x
      · subst q; exact ⟨hkc, c₀, some c, hc, hW, hcell'⟩
      · obtain ⟨h0, c', v0, h1, h2, ⟨o, ho, hd⟩⟩ := E.cw y hy
        exact ⟨h0, c', v0, h1, h2, ⟨o, kp _ _ (fun q' => q (E.inj y x c₀ (q' ▸ h1) hc)) ho, hd⟩⟩
    · obtain ⟨h1, h2, o, h3⟩ := E.coff y c hc
      exact ⟨h1, h2, al _ _ h3⟩

/-! statements -/
theorem PS.on {s : Shared} {φ φ₁ : Frz} {loc loc₁ : Locs} {h₁ : Heap} {tk : Nat} {Post : Fl → Rho → Store → Prop} {c : Flow} {s' : Shared}
    (x : Ext Z F.W φ loc s.heap φ₁ loc₁ h₁) (p : PS Z ht F { s with heap := h₁, toks := tk } φ₁ loc₁ Post c s') : PS Z ht F s φ loc Post c s' := by
  obtain ⟨v, ρ', μ', φ', loc', h', tk', a, b, c, e, d⟩ := p
  exact ⟨v, ρ', μ', φ', loc', h', tk', a, b, c, e, x.trans d⟩
theorem PS.here {s : Shared} {φ : Frz} {loc : Locs} {Post : Fl → Rho → Store → Prop} {fl : Fl} {c : Flow} (p : Post fl ρ μ) (r : RelF φ loc fl c) (I : InvG Z ht μ φ loc s.heap) (E : EnvOk Z F ρ φ loc s.heap) : PS Z ht F s φ loc Post c s :=
  ⟨fl, ρ, μ, φ, loc, s.heap, s.toks, p, r, I, E, Ext.refl ..⟩
theorem seqE {α β : Type} {R : Frz → Locs → α → β → Prop} {s : Shared} {φ : Frz} {loc : Locs} {Post : α → Store → Prop} {Post' : Fl → Rho → Store → Prop} {t : Sem β} {k : β → Sem Flow}
    (h : wpAny (model prog w) A t (P Z ht [] R s φ loc Post) NoE s)
    (hk : ∀ v μ' φ' loc' h' tk' c, Post v μ' → R φ' loc' v c → InvG Z ht μ' φ' loc' h' → Ext Z [] φ loc s.heap φ' loc' h' →
      wpAny (model prog w) A (k c) (PS Z ht F { s with heap := h', toks := tk' } φ' loc' Post') NoE { s with heap := h', toks := tk' }) :
    wpAny (model prog w) A (t >>= k) (PS Z ht F s φ loc Post') NoE s := by
  refine wpAny_bind (wpAny_mono h (fun c s' p => ?_) fun _ _ e => e)
  obtain ⟨v, μ', φ', loc', h', tk', a, b, c', d⟩ := p
  exact wpAny_mono (hk v μ' φ' loc' h' tk' c a b c' d) (fun _ _ q => PS.on (d.weaken (fun _ q => nomatch q)) q) fun _ _ e => e
theorem TS.nil {Post : Fl → Rho → Store → Prop} (h : Post .next ρ μ) : TS prog w Z ht n F [] ρ μ Post :=
  fun A s φ loc a I E => wpAny_execs_nil (PS.here h .next I E)
def thenS (prog : Program) (w : World) (Z : Tb) (ht : Heap) (n : Nat) (F : Fm) (rest : List Stmt) (Post : Fl → Rho → Store → Prop) : Fl → Rho → Store → Prop := fun fl ρ' μ' =>
  match fl with
  | .next => TS prog w Z ht n F rest ρ' μ' Post
  | .brk => Post .brk ρ' μ'
  | .cont => Post .cont ρ' μ'
  | .ret v => Post (.ret v) ρ' μ'
theorem TS.cons {st : Stmt} {rest : List Stmt} {Post : Fl → Rho → Store → Prop} (h : T1 prog w Z ht n F st ρ μ (thenS prog w Z ht n F rest Post)) : TS prog w Z ht n F (st :: rest) ρ μ Post := by
  intro A s φ loc a I E
  refine wpAny_execs_cons (wpAny_mono (h A s φ loc a I E) (fun c s' p => ?_) fun _ _ e => e)
  obtain ⟨v, ρ', μ', φ', loc', h', tk', p, r, I', E', d⟩ := p
  cases r with
  | next => exact wpAny_mono (p A _ _ _ a I' E') (fun _ _ q => PS.on d q) fun _ _ e => e
  | brk => exact ⟨_, _, _, _, _, _, _, p, .brk, I', E', d⟩
  | cont => exact ⟨_, _, _, _, _, _, _, p, .cont, I', E', d⟩
  | ret r => exact ⟨_, _, _, _, _, _, _, p, .ret r, I', E', d⟩
theorem TS.imp {b : List Stmt} {Post Post' : Fl → Rho → Store → Prop} (h : TS prog w Z ht n F b ρ μ Post) (k : ∀ fl ρ μ, Post fl ρ μ → Post' fl ρ μ) : TS prog w Z ht n F b ρ μ Post' :=
  fun A s φ loc a i r => wpAny_mono (h A s φ loc a i r) (fun c s' p => by
    obtain ⟨v, ρ', μ', φ', loc', h', tk', p, r, i, e, x⟩ := p
    exact ⟨_, _, _, _, _, _, _, k _ _ _ p, r, i, e, x⟩) fun _ _ e => e
theorem T1.assign {x : Str} {px pos : Pos} {e : Expr} {Post : Fl → Rho → Store → Prop} (h : TE prog w Z ht n F e ρ μ fun v μ' => Post .next (upd ρ x v) μ') (hk : F.env.kindOf x = some .local ∨ x ∈ F.wc)
    (hs : swapsWith e (some (.Name x px)) pos.line F.env = pure false := by rfl) : T1 prog w Z ht n F (.Assign [.Name x px] e pos) ρ μ Post := by
  intro A s φ loc a I E
  rw [exec_Assign_Name F.env x px e pos hs]
  refine wpAny_bind (wpAny_standAt ?_)
  refine seqE (h A s φ loc a I E) fun v μ₁ φ₁ loc₁ h₁ tk₁ c p₁ r₁ I₁ x₁ => ?_
  refine wpAny_bind (wpAny_standAt (wpAny_bind (wpAny_bindName (store_ok I₁ (E.ext x₁) r₁ hk fun h' tk' I' E' X' => ?_))))
  exact wpAny_pure ⟨_, _, _, _, _, _, _, p₁, .next, I', E', X'⟩
theorem T1.aug {x : Str} {px pos : Pos} {op : Operator} {e : Expr} {v₀ : AV} {Post : Fl → Rho → Store → Prop} (hv : ρ x = some v₀) (hl : F.env.kindOf x = some .local)
    (h : TE prog w Z ht n F e ρ μ fun v μ' => TO prog w Z ht n RelA [v₀, v] (fun cs => match cs with | [x, y] => inplaceOp op x y | _ => unsupported "") μ' fun r μ'' => Post .next (upd ρ x r) μ'') : T1 prog w Z ht n F (.AugAssign (.Name x px) op e pos) ρ μ Post := by
  intro A s φ loc a I E
  rw [exec_AugAssign_Name]
  obtain ⟨m, h1, h2⟩ := E.ns
  obtain ⟨cv, h3, h4⟩ := h2 x v₀ hl hv
  refine wpAny_bind (wpAny_standAt (wpAny_bind (wpAny_loadName_local E.kind hl h1 h3 ?_)))
  refine seqE (wpAny_holding (h A s φ loc a I E)) fun v μ₁ φ₁ loc₁ h₁ tk₁ c p₁ r₁ I₁ x₁ => ?_
  refine wpAny_bind (wpAny_standAt ?_)
  refine seqE (wpAny_operateT (p₁ A _ _ _ [cv, c] a I₁ (.cons (h4.mono x₁.mono x₁.pre) (.cons r₁ .nil)))) fun v₂ μ₂ φ₂ loc₂ h₂ tk₂ c₂ p₂ r₂ I₂ x₂ => ?_
  refine wpAny_bind (wpAny_standAt (wpAny_bind (wpAny_bindName (store_ok I₂ ((E.ext x₁).ext x₂) r₂ (.inl hl) fun h' tk' I' E' X' => ?_))))
  exact wpAny_pure ⟨_, _, _, _, _, _, _, p₂, .next, I', E', X'⟩
theorem T1.if {t : Expr} {b o : List Stmt} {pos : Pos} {Post : Fl → Rho → Store → Prop} (h : TB prog w Z ht n F t ρ μ fun c μ₁ => match c with | true => TS prog w Z ht n F b ρ μ₁ Post | false => TS prog w Z ht n F o ρ μ₁ Post) :
    T1 prog w Z ht n F (.If t b o pos) ρ μ Post := by
  intro A s φ loc a I E
  rw [exec_If]
  refine wpAny_bind (wpAny_standAt ?_)
  refine seqE (h A s φ loc a I E) fun v μ₁ φ₁ loc₁ h₁ tk₁ c p₁ r₁ I₁ x₁ => ?_
  cases r₁
  cases v with
  | true => exact p₁ A _ _ _ a I₁ (E.ext x₁)
  | false => exact p₁ A _ _ _ a I₁ (E.ext x₁)
theorem T1.ret {e : Expr} {pos : Pos} {Post : Fl → Rho → Store → Prop} (h : TE prog w Z ht n F e ρ μ fun v μ' => Post (.ret v) ρ μ') : T1 prog w Z ht n F (.Return (some e) pos) ρ μ Post := by
  intro A s φ loc a I E
  rw [exec_Return_some]
  refine wpAny_bind (wpAny_standAt ?_)
  refine seqE (h A s φ loc a I E) fun v μ₁ φ₁ loc₁ h₁ tk₁ c p₁ r₁ I₁ x₁ => ?_
  exact wpAny_pure (PS.here p₁ (.ret r₁) I₁ (E.ext x₁))
theorem T1.retNone {pos : Pos} {Post : Fl → Rho → Store → Prop} (h : Post (.ret (.p .none)) ρ μ) : T1 prog w Z ht n F (.Return none pos) ρ μ Post := by
  intro A s φ loc a I E
  exact wpAny_Return_none (PS.here h (.ret (.p .none)) I E)
theorem T1.brk {pos : Pos} {Post : Fl → Rho → Store → Prop} (h : Post .brk ρ μ) : T1 prog w Z ht n F (.Break pos) ρ μ Post :=
  fun A s φ loc a I E => wpAny_Break (PS.here h .brk I E)
theorem T1.cont {pos : Pos} {Post : Fl → Rho → Store → Prop} (h : Post .cont ρ μ) : T1 prog w Z ht n F (.Continue pos) ρ μ Post :=
  fun A s φ loc a I E => wpAny_Continue (PS.here h .cont I E)
theorem T1.expr {e : Expr} {pos : Pos} {Post : Fl → Rho → Store → Prop} (h : TE prog w Z ht n F e ρ μ fun v μ' => v = .p .none ∧ Post .next ρ μ')
    (hi : interactive F.env = false := by rfl) (hs : swapsWith e none pos.line F.env = pure false := by rfl) : T1 prog w Z ht n F (.Expr e pos) ρ μ Post := by
  intro A s φ loc a I E
  refine wpAny_Expr (wpAny_mono (h A s φ loc a I E) (fun v s' p => ?_) fun _ _ e => e) hi hs
  obtain ⟨v, μ', φ', loc', h', tk', ⟨rfl, p⟩, r, I', X'⟩ := p
  cases r with
  | p r => cases r with
    | none => exact ⟨_, _, _, _, _, _, _, p, .next, I', E.ext X', X'.weaken (fun _ q => nomatch q)⟩

/-- while: an invariant with a measure -/
theorem T1.while {t : Expr} {b : List Stmt} {pos : Pos} {Post : Fl → Rho → Store → Prop} (Inv : Nat → Rho → Store → Prop)
    (turn : ∀ k ρ μ, Inv k ρ μ → TB prog w Z ht n F t ρ μ fun c μ₁ => match c with
      | true => TS prog w Z ht n F b ρ μ₁ fun fl ρ' μ' => match fl with
        | .next => ∃ m, m < k ∧ Inv m ρ' μ'
        | .cont => ∃ m, m < k ∧ Inv m ρ' μ'
        | .brk => Post .next ρ' μ'
        | .ret v => Post (.ret v) ρ' μ'
      | false => Post .next ρ μ₁)
    (k : Nat) (h0 : Inv k ρ μ) : T1 prog w Z ht n F (.While t b [] pos) ρ μ Post := by
  intro A s φ loc a I E
  refine wpAny_While ?_
  refine codeAny_whileLoop (I := fun k => PS Z ht F s φ loc (fun _ => Inv k) .next) (fun k s₁ hI => ?_) k
    ⟨.next, ρ, μ, φ, loc, s.heap, s.toks, h0, .next, I, E, Ext.refl ..⟩
  obtain ⟨_, ρ₁, μ₁, φ₁, loc₁, h₁, tk₁, hInv, _, I₁, E₁, X₁⟩ := hI
  refine wpAny_mono (turn k ρ₁ μ₁ hInv A _ φ₁ loc₁ a I₁ E₁) (fun c s₂ p => ?_) fun _ _ e => e.elim
  obtain ⟨v, μ₂, φ₂, loc₂, h₂, tk₂, p, rfl, I₂, X₂⟩ := p
  have X₂' : Ext Z F.W φ loc s.heap φ₂ loc₂ h₂ := X₁.trans (X₂.weaken (fun _ q => nomatch q))
  cases v with
  | false =>
    simp only [Bool.false_eq_true, if_false]
    exact wpAny_execs_nil ⟨_, _, _, _, _, _, _, p, .next, I₂, E₁.ext X₂, X₂'⟩
  | true =>
    simp only [if_true]
    refine wpAny_mono (p A _ φ₂ loc₂ a I₂ (E₁.ext X₂)) (fun f s₃ q => ?_) fun _ _ e => e.elim
    obtain ⟨fl, ρ₃, μ₃, φ₃, loc₃, h₃, tk₃, q, r, I₃, E₃, X₃⟩ := q
    cases r with
    | next => obtain ⟨m, hm, q⟩ := q; exact ⟨m, hm, .next, _, _, _, _, _, _, q, .next, I₃, E₃, X₂'.trans X₃⟩
    | cont => obtain ⟨m, hm, q⟩ := q; exact ⟨m, hm, .next, _, _, _, _, _, _, q, .next, I₃, E₃, X₂'.trans X₃⟩
    | brk => exact ⟨_, _, _, _, _, _, _, q, .next, I₃, E₃, X₂'.trans X₃⟩
    | ret r => exact ⟨_, _, _, _, _, _, _, q, .ret r, I₃, E₃, X₂'.trans X₃⟩
/-! the expression apart -/
theorem T1.assignV {x : Str} {px pos : Pos} {e : Expr} {Post : Fl → Rho → Store → Prop} {val : AV} {μ₁ : Store} (h : TE prog w Z ht n F e ρ μ fun v μ' => v = val ∧ μ' = μ₁) (k : Post .next (upd ρ x val) μ₁) (hk : F.env.kindOf x = some .local ∨ x ∈ F.wc)
    (hs : swapsWith e (some (.Name x px)) pos.line F.env = pure false := by rfl) : T1 prog w Z ht n F (.Assign [.Name x px] e pos) ρ μ Post :=
  T1.assign (h.imp fun v μ' e => by obtain ⟨rfl, rfl⟩ := e; exact k) hk hs
theorem T1.ifV {t : Expr} {b o : List Stmt} {pos : Pos} {Post : Fl → Rho → Store → Prop} {c : Bool} {μ₁ : Store} (h : TB prog w Z ht n F t ρ μ fun v μ' => v = c ∧ μ' = μ₁) (k : match (generalizing := false) c with | true => TS prog w Z ht n F b ρ μ₁ Post | false => TS prog w Z ht n F o ρ μ₁ Post) :
    T1 prog w Z ht n F (.If t b o pos) ρ μ Post :=
  T1.if (h.imp fun v μ' e => by obtain ⟨rfl, rfl⟩ := e; exact k)
theorem T1.exprV {e : Expr} {pos : Pos} {Post : Fl → Rho → Store → Prop} {μ₁ : Store} (h : TE prog w Z ht n F e ρ μ fun v μ' => v = .p .none ∧ μ' = μ₁) (k : Post .next ρ μ₁)
    (hi : interactive F.env = false := by rfl) (hs : swapsWith e none pos.line F.env = pure false := by rfl) : T1 prog w Z ht n F (.Expr e pos) ρ μ Post :=
  T1.expr (h.imp fun v μ' e => by obtain ⟨rfl, rfl⟩ := e; exact ⟨rfl, k⟩) hi hs
end

def ownT : List String := ["enumerate", "zip", "dict_itemiterator", "dict_reverseitemiterator", "odict_iterator", "itertools.zip_longest", "itertools.pairwise"]
/-- what can be gone through -/
structure Src (prog : Program) (w : World) (Z : Tb) (ht : Heap) (φ₀ : Frz) (loc₀ : Locs) (it : Addr) (vs : List V) (G : Store → Prop) (J : Nat → Heap → Prop) : Prop where
  next : ∀ (A : Around) (s : Shared) (φ : Frz) (loc : Locs) (μ : Store) (i : Nat) (v : V) (Q : Option Value → Shared → Prop), A.handled = none → InvG Z ht μ φ loc s.heap → Le φ₀ φ → (∃ r, loc = loc₀ ++ r) → G μ → J i s.heap → vs[i]? = some v →
    (∀ cv h' tk', Rel φ v cv → J (i + 1) h' → (∀ b o, b ≠ it → s.heap.get? b = some o → h'.get? b = some o) → Q (some cv) { s with heap := h', toks := tk' }) → wpAny (model prog w) A (pyNext (.ref it)) Q NoE s
  stop : ∀ (A : Around) (s : Shared) (φ : Frz) (loc : Locs) (μ : Store) (i : Nat) (Q : Option Value → Shared → Prop), A.handled = none → InvG Z ht μ φ loc s.heap → Le φ₀ φ → (∃ r, loc = loc₀ ++ r) → G μ → J i s.heap → vs[i]? = none →
    (∀ h' tk', (∀ b o, b ≠ it → s.heap.get? b = some o → h'.get? b = some o) → Q none { s with heap := h', toks := tk' }) → wpAny (model prog w) A (pyNext (.ref it)) Q NoE s
  same : ∀ (A : Around) (s : Shared) (i : Nat) (Q : Value → Shared → Prop) (E : Value → Shared → Prop), J i s.heap → Q (.ref it) s → wpAny (model prog w) A (pyIter (.ref it)) Q E s
  keep : ∀ i h h', J i h → h'.get? it = h.get? it → J i h'
  alive : ∀ i h, J i h → ∃ o, h.get? it = some o
  cls : ∀ i h o, J i h → h.get? it = some o → ∃ T, o.cls = .type T ∧ (ownT.contains T) = false

inductive PI (prog : Program) (w : World) (Z : Tb) (ht : Heap) (s : Shared) (φ : Frz) (loc : Locs) (Post : List V → (Store → Prop) → Store → Prop) : Value → Shared → Prop
  | of (a : Addr) (vs : List V) (G : Store → Prop) (J : Nat → Heap → Prop) (μ' : Store) (φ' : Frz) (loc' : Locs) (h' : Heap) (tk' : Nat) (p : Post vs G μ') (g : G μ') (S : Src prog w Z ht φ' loc' a vs G J) (j : J 0 h') (I : InvG Z ht μ' φ' loc' h') (x : Ext Z [] φ loc s.heap φ' loc' h')
      (d : s.heap.get? a = none) (f : φ' a = none) (l : a ∉ loc') (t : a ∉ Z.tabs) : PI prog w Z ht s φ loc Post (.ref a) { s with heap := h', toks := tk' }
def TI (prog : Program) (w : World) (Z : Tb) (ht : Heap) (n : Nat) (F : Fm) (e : Expr) (ρ : Rho) (μ : Store) (Post : List V → (Store → Prop) → Store → Prop) : Prop :=
  ∀ A s φ loc, AOk A n → InvG Z ht μ φ loc s.heap → EnvOk Z F ρ φ loc s.heap → wpAny (model prog w) A (eval e F.env) (fun x s₁ => wpAny (model prog w) A (pyIter x) (PI prog w Z ht s φ loc Post) NoE s₁) NoE s

section
variable {prog : Program} {w : World} {Z : Tb} {ht : Heap} {n : Nat} {F : Fm} {ρ : Rho} {μ : Store} {A : Around}

theorem eq_of_keep {h h' : Heap} {a : Addr} (e : h'.get? a = h.get? a) {l : Addr} {i : Nat} (x : h.IsListIter a l i) : h'.IsListIter a l i := let ⟨o, ho, r⟩ := x; ⟨o, e.trans ho, r⟩
theorem src_list {φ : Frz} {loc : Locs} {v : AV} {vs : List V} {l it : Addr} (r : RelA φ loc v (.ref l)) : Src prog w Z ht φ loc it vs (fun μ => IsL μ v vs) (fun i h => h.IsListIter it l i) where
  next := fun A s φ' loc' μ i x Q hh I le pr hG hJ hx hQ => by
    obtain ⟨a, items, e, hl, hr, _⟩ := hG.at I (r.mono le pr)
    cases e
    obtain ⟨y, hy, hxy⟩ := hr.get hx
    exact wpAny_pyNext_list_item hJ hl.isList (by simpa using hy) fun h' hi hs => hQ y h' s.toks hxy hi fun b o hb e => (hs.2 b hb).trans e
  stop := fun A s φ' loc' μ i Q hh I le pr hG hJ hx hQ => by
    obtain ⟨a, items, e, hl, hr, _⟩ := hG.at I (r.mono le pr)
    cases e
    have hlen := hr.length
    refine wpAny_pyNext_list_end hh hJ hl.isList (by simp at hx ⊢; omega) fun h' hs => hQ h' s.toks fun b o hb e => hs b o hb e
  same := fun A s i Q E hJ hQ => wpAny_pyIter_listiter hJ hQ
  keep := fun i h h' hJ e => eq_of_keep e hJ
  alive := fun i h hJ => let ⟨o, ho, _⟩ := hJ; ⟨o, ho⟩
  cls := fun i h o hJ e => let ⟨o', ho, hc, _⟩ := hJ; ⟨_, by rw [ho] at e; cases e; exact hc, by decide⟩
theorem TI.imp {e : Expr} {Post Post' : List V → (Store → Prop) → Store → Prop} (h : TI prog w Z ht n F e ρ μ Post) (k : ∀ vs G μ, Post vs G μ → Post' vs G μ) : TI prog w Z ht n F e ρ μ Post' :=
  fun A s φ loc a I E => wpAny_mono (h A s φ loc a I E) (fun _ _ q => wpAny_mono q (fun _ _ q => by
    obtain ⟨a, vs, G, J, μ', φ', loc', h', tk', p, r⟩ := q
    exact .of _ _ _ _ _ _ _ _ _ (k _ _ _ p) (by assumption) (by assumption) (by assumption) (by assumption) (by assumption) (by assumption) (by assumption) (by assumption) (by assumption)) fun _ _ e => e) fun _ _ e => e
theorem not_tab {φ : Frz} {loc : Locs} {h : Heap} {a : Addr} (I : InvG Z ht μ φ loc h) (ha : h.get? a = none) : a ∉ Z.tabs := fun q => by obtain ⟨_, o, ho⟩ := I.talive _ q; rw [ha] at ho; cases ho
theorem not_loc {φ : Frz} {loc : Locs} {h : Heap} {a : Addr} (I : InvG Z ht μ φ loc h) (ha : h.get? a = none) : a ∉ loc := fun q => by obtain ⟨o, ho⟩ := I.aliveL q; rw [ha] at ho; cases ho
theorem TI.list {e : Expr} {Post : List V → (Store → Prop) → Store → Prop} (h : TE prog w Z ht n F e ρ μ fun v μ₁ => ∃ vs, IsL μ₁ v vs ∧ Post vs (fun μ => IsL μ v vs) μ₁) : TI prog w Z ht n F e ρ μ Post := by
  intro A s φ loc a I E
  refine wpAny_mono (h A s φ loc a I E) (fun x s₁ p => ?_) fun _ _ e => e
  obtain ⟨v, μ', φ', loc', h', tk', ⟨vs, hL, p⟩, r, I', X'⟩ := p
  obtain ⟨l, items, rfl, hl, hr, _⟩ := hL.at I' r
  refine wpAny_pyIter_list hl.isList ?_
  have hd := push_dead h'
  exact ⟨_, vs, _, fun i h => h.IsListIter h'.objs.size l i, _, φ', loc', _, _, p, hL, src_list r, ⟨_, Heap.get?_push_size _ rfl, rfl, rfl⟩, I'.gar (push_keep _ _), X'.trans (Ext.gar (push_keep _ _)), none_of_dead X'.alive hd, I'.dead hd, not_loc I' hd, not_tab I' hd⟩

def strVs (x : Str) : List V := x.cps.toList.map fun c => V.str ⟨#[c]⟩
theorem src_str {φ : Frz} {loc : Locs} {x : Str} {t : Tok} {it : Addr} : Src prog w Z ht φ loc it (strVs x) (fun _ => True) (fun i h => h.IsStrIter it "str_ascii_iterator" x t i) where
  next := fun A s φ' loc' μ i v Q hh I le pr hG hJ hx hQ => by
    unfold strVs at hx
    rw [List.getElem?_map] at hx
    obtain ⟨c, hc, rfl⟩ := Option.map_eq_some_iff.mp hx
    exact wpAny_pyNext_ascii_item hJ (by simpa using hc) fun h' hi hs => hQ _ h' _ (.str _ _) hi fun b o hb e => (hs.2 b hb).trans e
  stop := fun A s φ' loc' μ i Q hh I le pr hG hJ hx hQ => by
    unfold strVs at hx
    exact wpAny_pyNext_ascii_end hh hJ (by simpa using hx) fun h' hs => hQ h' s.toks fun b o hb e => hs b o hb e
  same := fun A s i Q E hJ hQ => wpAny_pyIter_striter_ascii hJ hQ
  keep := fun i h h' hJ e => let ⟨o, ho, r⟩ := hJ; ⟨o, e.trans ho, r⟩
  alive := fun i h hJ => let ⟨o, ho, _⟩ := hJ; ⟨o, ho⟩
  cls := fun i h o hJ e => let ⟨o', ho, hc, _⟩ := hJ; ⟨_, by rw [ho] at e; cases e; exact hc, by decide⟩
theorem TI.str {e : Expr} {Post : List V → (Store → Prop) → Store → Prop} (h : TE prog w Z ht n F e ρ μ fun v μ₁ => ∃ x : Str, v = .p (.str x) ∧ x.cps.all (· < 128) = true ∧ Post (strVs x) (fun _ => True) μ₁) : TI prog w Z ht n F e ρ μ Post := by
  intro A s φ loc a I E
  refine wpAny_mono (h A s φ loc a I E) (fun c s₁ p => ?_) fun _ _ e => e
  obtain ⟨v, μ', φ', loc', h', tk', ⟨x, rfl, ha, p⟩, r, I', X'⟩ := p
  cases r with
  | p r => cases r with
    | str _ t =>
      refine wpAny_pyIter_ascii ha ?_
      have hd := push_dead h'
      exact ⟨_, strVs x, _, fun i h => h.IsStrIter h'.objs.size "str_ascii_iterator" x t i, _, φ', loc', _, _, p, trivial, src_str, ⟨_, Heap.get?_push_size _ rfl, rfl, rfl⟩, I'.gar (push_keep _ _), X'.trans (Ext.gar (push_keep _ _)), none_of_dead X'.alive hd, I'.dead hd, not_loc I' hd, not_tab I' hd⟩

def rngVs (n : Int) : List V := (List.range n.toNat).map fun i => V.int (i : Nat)
theorem src_rng {φ : Frz} {loc : Locs} {m : Nat} {it : Addr} : Src prog w Z ht φ loc it ((List.range m).map fun i => V.int (i : Nat)) (fun _ => True) (fun i h => i ≤ m ∧ IsRangeIter h it (i : Nat) ((m : Int) - (i : Nat)) 1) where
  next := fun A s φ' loc' μ i v Q hh I le pr hG hJ hx hQ => by
    obtain ⟨hi, hJ⟩ := hJ
    rw [List.getElem?_map] at hx
    obtain ⟨c, hc, rfl⟩ := Option.map_eq_some_iff.mp hx
    obtain ⟨hlt, rfl⟩ := List.getElem?_eq_some_iff.mp hc
    simp at hlt
    refine wpAny_pyNext_range_item hJ (by omega) fun h' hi' hs => hQ _ h' _ ?_ ⟨by omega, ?_⟩ fun b o hb e => (hs.2 b hb).trans e
    · rw [List.getElem_range]; exact .int _ _
    · have e1 : ((i + 1 : Nat) : Int) = (i : Int) + 1 := by omega
      rw [e1, show (m : Int) - ((i : Int) + 1) = (m : Int) - (i : Int) - 1 from by omega]; exact hi'
  stop := fun A s φ' loc' μ i Q hh I le pr hG hJ hx hQ => by
    obtain ⟨hi, hJ⟩ := hJ
    simp at hx
    exact wpAny_pyNext_range_end hh hJ (by omega) fun h' hs => hQ h' s.toks fun b o hb e => hs b o hb e
  same := fun A s i Q E hJ hQ => wpAny_pyIter_rangeiter hJ.2 hQ
  keep := fun i h h' hJ e => ⟨hJ.1, e.trans hJ.2⟩
  alive := fun i h hJ => ⟨_, hJ.2⟩
  cls := fun i h o hJ e => ⟨"range_iterator", by have := hJ.2; rw [show h.get? it = _ from this] at e; cases e; rfl, by decide⟩
theorem TI.rng {e : Expr} {Post : List V → (Store → Prop) → Store → Prop} (h : TE prog w Z ht n F e ρ μ fun v μ₁ => ∃ m : Int, v = .p (.rng m) ∧ 0 ≤ m ∧ m < 2 ^ 62 ∧ Post (rngVs m) (fun _ => True) μ₁) : TI prog w Z ht n F e ρ μ Post := by
  intro A s φ loc a I E
  refine wpAny_mono (h A s φ loc a I E) (fun c s₁ p => ?_) fun _ _ e => e
  obtain ⟨v, μ', φ', loc', h', tk', ⟨m, rfl, h0, hm, p⟩, r, I', X'⟩ := p
  cases r with
  | p r => cases r with
    | rng hφ =>
      refine wpAny_pyIter_range (I'.sub _ _ hφ) (small_one (by omega) (by omega) (by omega) (by omega)) ?_
      have hd := push_dead h'
      refine ⟨_, rngVs m, _, _, _, φ', loc', _, _, p, trivial, src_rng (m := m.toNat), ⟨Nat.zero_le _, ?_⟩, I'.gar (push_keep _ _), X'.trans (Ext.gar (push_keep _ _)), none_of_dead X'.alive hd, I'.dead hd, not_loc I' hd, not_tab I' hd⟩
      rw [rangeSize_one]
      have e1 : (if (0:Int) < m then m - 0 else 0) = ((m.toNat : Nat) : Int) - ((0 : Nat) : Int) := by split <;> omega
      rw [e1]
      exact Heap.get?_push_size _ rfl

/-! for -/
theorem EnvOk.but {φ : Frz} {loc : Locs} {h h' : Heap} {a : Addr} (E : EnvOk Z F ρ φ loc h) (kp : ∀ b o, b ≠ a → h.get? b = some o → h'.get? b = some o) (hW : a ∉ F.W) (hc : ∀ x c, F.env.cells.lookup x = some c → c ≠ a) : EnvOk Z F ρ φ loc h' where
  kind := E.kind
  glob := E.glob
  blt := E.blt
  woff := fun b hb => let ⟨h1, h2, h3, o, h4⟩ := E.woff b hb; ⟨h1, h2, h3, o, kp _ _ (fun q => hW (q ▸ hb)) h4⟩
  wl := E.wl
  ns := by
    obtain ⟨m, ⟨o, es, ep, ho, r⟩, hm⟩ := E.ns
    exact ⟨m, ⟨o, es, ep, kp _ _ (fun q => hW (q ▸ E.wl)) ho, r⟩, hm⟩
  cell := fun y v hk hv => by
    obtain ⟨c, cv, h1, ⟨o, ho, hd⟩, h3⟩ := E.cell y v hk hv
    exact ⟨c, cv, h1, ⟨o, kp _ _ (hc y c h1) ho, hd⟩, h3⟩
  cw := fun y hy => by
    obtain ⟨h0, c, v0, h1, h2, ⟨o, ho, hd⟩⟩ := E.cw y hy
    exact ⟨h0, c, v0, h1, h2, ⟨o, kp _ _ (hc y c h1) ho, hd⟩⟩
  inj := E.inj
  cne := E.cne
  coff := fun y c h => let ⟨h1, h2, o, h3⟩ := E.coff y c h; ⟨h1, h2, o, kp _ _ (hc y c h) h3⟩
theorem Ext.step {X : List Addr} {φ φ₁ : Frz} {loc loc₁ : Locs} {h h₁ h₂ : Heap} {a : Addr} (x : Ext Z X φ loc h φ₁ loc₁ h₁) (kp : ∀ b o, b ≠ a → h₁.get? b = some o → h₂.get? b = some o) (ha : h.get? a = none) : Ext Z X φ loc h φ₁ loc₁ h₂ :=
  have ne : ∀ b o, h.get? b = some o → b ≠ a := fun b o e q => by subst q; rw [ha] at e; cases e
  { x with
    keep := fun b o h1 h2 h3 e => kp b o (ne b o e) (x.keep b o h1 h2 h3 e)
    alive := fun b o e => let ⟨o', e'⟩ := x.alive b o e; ⟨o', kp b o' (ne b o e) e'⟩ }

def ForI (prog : Program) (w : World) (Z : Tb) (ht : Heap) (n : Nat) (F : Fm) (x : Str) (body : List Stmt) (G : Store → Prop) (Post : Fl → Rho → Store → Prop) : List V → Rho → Store → Prop
  | [], ρ, μ => Post .next ρ μ
  | v :: vs, ρ, μ => TS prog w Z ht n F body (upd ρ x (.p v)) μ fun fl ρ' μ' => match fl with
    | .next => G μ' ∧ ForI prog w Z ht n F x body G Post vs ρ' μ'
    | .cont => G μ' ∧ ForI prog w Z ht n F x body G Post vs ρ' μ'
    | .brk => Post .next ρ' μ'
    | .ret v => Post (.ret v) ρ' μ'

inductive ForS (prog : Program) (w : World) (Z : Tb) (ht : Heap) (n : Nat) (F : Fm) (x : Str) (body : List Stmt) (G : Store → Prop) (Post : Fl → Rho → Store → Prop) (vs : List V) (J : Nat → Heap → Prop) (s : Shared) (φ : Frz) (loc : Locs) (ia : Addr) (φ' : Frz) (loc' : Locs) (k : Nat) : Shared → Prop
  | of (i : Nat) (ρ₁ : Rho) (μ₁ : Store) (φ₁ : Frz) (loc₁ : Locs) (h₁ : Heap) (tk₁ : Nat) (e : k + i = vs.length) (p : ForI prog w Z ht n F x body G Post (vs.drop i) ρ₁ μ₁) (g : G μ₁) (j : J i h₁) (I : InvG Z ht μ₁ φ₁ loc₁ h₁) (en : EnvOk Z F ρ₁ φ₁ loc₁ h₁) (X : Ext Z F.W φ loc s.heap φ₁ loc₁ h₁)
      (le : Le φ' φ₁) (pr : ∃ r, loc₁ = loc' ++ r) (f : φ₁ ia = none) (l : ia ∉ loc₁) : ForS prog w Z ht n F x body G Post vs J s φ loc ia φ' loc' k { s with heap := h₁, toks := tk₁ }
theorem noE {α : Type} {M : Model} {A : Around} {E : Value → Shared → Prop} {s : Shared} {t : Sem α} {Q : α → Shared → Prop} (h : wpAny M A t Q NoE s) : wpAny M A t Q E s := wpAny_mono h (fun _ _ q => q) fun _ _ e => e.elim
theorem for_step {x : Str} {px : Pos} {body : List Stmt} {Post : Fl → Rho → Store → Prop} {vs : List V} {G : Store → Prop} {J : Nat → Heap → Prop} {s : Shared} {φ φ' : Frz} {loc loc' : Locs} {ia : Addr} {k : Nat} {s₁ : Shared} (a : AOk A n) (hk : F.env.kindOf x = some .local ∨ x ∈ F.wc)
    (S : Src prog w Z ht φ' loc' ia vs G J) (hd : s.heap.get? ia = none) (htb : ia ∉ Z.tabs) (hW : ia ∉ F.W) (hcl : ∀ y c, F.env.cells.lookup y = some c → c ≠ ia) (hI : ForS prog w Z ht n F x body G Post vs J s φ loc ia φ' loc' k s₁) :
    wpAny (model prog w) A (pyNext (.ref ia)) (fun r s₂ => match r with
      | none => PS Z ht F s φ loc Post .next s₂
      | some cv => wpAny (model prog w) A (standAt px >>= fun _ => bindName F.env x cv) (fun _ s₃ => wpAny (model prog w) A (execs body F.env) (fun f s₄ => match f with
        | .next => ∃ m, m < k ∧ ForS prog w Z ht n F x body G Post vs J s φ loc ia φ' loc' m s₄
        | .cont => ∃ m, m < k ∧ ForS prog w Z ht n F x body G Post vs J s φ loc ia φ' loc' m s₄
        | .brk => PS Z ht F s φ loc Post .next s₄
        | .ret v => PS Z ht F s φ loc Post (.ret v) s₄) NoE s₃) NoE s₂) NoE s₁ := by
  obtain ⟨i, ρ₁, μ₁, φ₁, loc₁, h₁, tk₁, hk₁, p, hG₁, hJ₁, I₁, E₁, X₁, le₁, pr₁, hφ₁, hl₁⟩ := hI
  cases hv : vs[i]? with
  | none =>
    obtain rfl : i = vs.length := by
      have := List.getElem?_eq_none_iff.mp hv
      omega
    rw [List.drop_length] at p
    exact S.stop A _ φ₁ loc₁ μ₁ _ _ a.handled I₁ le₁ pr₁ hG₁ hJ₁ hv fun h₂ tk₂ kp => ⟨_, _, _, _, _, _, _, p, .next, I₁.but kp hφ₁ hl₁ htb, E₁.but kp hW hcl, X₁.step kp hd⟩
  | some v =>
    have hlt := (List.getElem?_eq_some_iff.mp hv).1
    have hdrop : vs.drop i = v :: vs.drop (i + 1) := by rw [List.drop_eq_getElem_cons hlt, (List.getElem?_eq_some_iff.mp hv).2]
    rw [hdrop] at p
    refine S.next A _ φ₁ loc₁ μ₁ i v _ a.handled I₁ le₁ pr₁ hG₁ hJ₁ hv fun cv h₂ tk₂ hr hJ₂ kp => ?_
    have I₂ := I₁.but kp hφ₁ hl₁ htb
    have E₂ := E₁.but kp hW hcl
    have X₂ := X₁.step kp hd
    refine wpAny_bind (wpAny_standAt (wpAny_bindName (store_ok I₂ E₂ (.p hr) hk fun h₃ tk₃ I₃ E₃ X₃ => ?_)))
    obtain ⟨oi, hoi⟩ := S.alive _ _ hJ₂
    have hJ₃ : J (i + 1) h₃ := S.keep _ _ _ hJ₂ (keep_eq hoi fun e => X₃.keep _ _ hl₁ htb hW e)
    obtain ⟨oi₃, hoi₃⟩ := S.alive _ _ hJ₃
    refine wpAny_mono (p A _ φ₁ loc₁ a I₃ E₃) (fun f s₄ q => ?_) fun _ _ e => e
    obtain ⟨fl, ρ₄, μ₄, φ₄, loc₄, h₄, tk₄, q, r, I₄, E₄, X₄⟩ := q
    have XX : Ext Z F.W φ loc s.heap φ₄ loc₄ h₄ := (X₂.trans X₃).trans X₄
    have again : G μ₄ ∧ ForI prog w Z ht n F x body G Post (vs.drop (i + 1)) ρ₄ μ₄ → ∃ m, m < k ∧ ForS prog w Z ht n F x body G Post vs J s φ loc ia φ' loc' m { s with heap := h₄, toks := tk₄ } := fun ⟨g1, g2⟩ =>
      ⟨k - 1, by omega, i + 1, ρ₄, μ₄, φ₄, loc₄, h₄, tk₄, by omega, g2, g1, S.keep _ _ _ hJ₃ (keep_eq hoi₃ fun e => X₄.keep _ _ hl₁ htb hW e), I₄, E₄, XX, le₁.trans X₄.mono, (by
        obtain ⟨r1, rfl⟩ := pr₁
        obtain ⟨r2, rfl⟩ := X₄.pre
        exact ⟨r1 ++ r2, by rw [List.append_assoc]⟩), X₄.offφ hφ₁ hoi₃, X₄.offl hl₁ hoi₃⟩
    cases r with
    | next => exact again q
    | cont => exact again q
    | brk => exact ⟨_, _, _, _, _, _, _, q, .next, I₄, E₄, XX⟩
    | ret r => exact ⟨_, _, _, _, _, _, _, q, .ret r, I₄, E₄, XX⟩
theorem T1.for {x : Str} {px pos : Pos} {iter : Expr} {body : List Stmt} {Post : Fl → Rho → Store → Prop}
    (h : TI prog w Z ht n F iter ρ μ fun vs G μ₁ => ForI prog w Z ht n F x body G Post vs ρ μ₁) (hk : F.env.kindOf x = some .local ∨ x ∈ F.wc)
    (hs : ∀ v, foldedSetIterable iter F.env v = pure v := by intro _; rfl) : T1 prog w Z ht n F (.For (.Name x px) iter body [] pos) ρ μ Post := by
  intro A s φ loc a I E
  show wpAny _ A (standAt pos >>= fun _ => eval iter F.env >>= fun v => foldedSetIterable iter F.env v >>= fun y => standAt iter.pos >>= fun _ => holding [y] (pyIter y) >>= fun it => runOwn (.forLoop (.Name x px) it body [] F.env) F.env) _ _ s
  refine wpAny_bind (wpAny_standAt (wpAny_bind (wpAny_mono (h A s φ loc a I E) (fun y s₁ p => ?_) fun _ _ e => e)))
  refine wpAny_bind (wpAny_of_eq (hs y) (wpAny_bind (wpAny_standAt (wpAny_bind (wpAny_holding (wpAny_mono p (fun it s₂ p => ?_) fun _ _ e => e))))))
  obtain ⟨ia, vs, G, J, μ', φ', loc', h', tk', p, hG, S, hJ, I', X', hd, hφ, hl, htb⟩ := p
  have hW : ia ∉ F.W := fun q => by obtain ⟨_, _, _, o, ho⟩ := E.woff _ q; rw [hd] at ho; cases ho
  have hcl : ∀ y c, F.env.cells.lookup y = some c → c ≠ ia := fun y c hc q => by obtain ⟨_, _, o, ho⟩ := E.coff y c hc; rw [q, hd] at ho; cases ho
  refine wpAny_runOwn ?_
  show codeAny _ A _ _ _
  refine codeAny_forLoop_any (I := ForS prog w Z ht n F x body G Post vs J s φ loc ia φ' loc') (fun k s₁ hI => ?_) vs.length
    ⟨0, ρ, μ', φ', loc', h', tk', rfl, p, hG, hJ, I', E.ext X', X'.weaken (fun _ q => nomatch q), Le.refl _, ⟨[], by simp⟩, hφ, hl⟩
  refine noE (wpAny_mono (for_step (px := px) a hk S hd htb hW hcl hI) (fun r s₂ q => ?_) fun _ _ e => e)
  cases r with
  | none => exact wpAny_execs_nil q
  | some cv => exact wpAny_pure (noE (wpAny_mono q (fun _ s₃ q => noE (wpAny_mono q (fun f s₄ q => by cases f <;> exact q) fun _ _ e => e)) fun _ _ e => e))
end

def bindR : List (Str × AV) → Rho → Rho
  | [], ρ => ρ
  | (x, v) :: r, ρ => bindR r (upd ρ x v)

section
variable {φ : Frz} {loc : Locs} {k : Str → Option NameKind}
theorem bindL_rel : ∀ (pn : List Str) {args : List AV} {cargs : List Value}, RelAL φ loc args cargs → ∀ {m : Str → Option Value} {ρ : Rho},
    (∀ x v, k x = some .local → ρ x = some v → ∃ cv, m x = some cv ∧ RelA φ loc v cv) →
    ∀ x v, k x = some .local → bindR (pn.zip args) ρ x = some v → ∃ cv, bindL k (pn.zip cargs) m x = some cv ∧ RelA φ loc v cv
  | [], _, _, _, _, _, h => h
  | p :: pn, _, _, .nil, _, _, h => h
  | p :: pn, _, _, .cons (v := v₁) (c := c₁) r rs, m, ρ, h => by
    rw [List.zip_cons_cons, List.zip_cons_cons]
    unfold bindR bindL
    refine bindL_rel pn rs ?_
    intro x v hx hv
    unfold upd at hv
    by_cases q : x = p
    · subst q
      rw [if_pos rfl] at hv; cases hv
      rw [if_pos hx, if_pos rfl]
      exact ⟨_, rfl, r⟩
    · rw [if_neg q] at hv
      obtain ⟨cv, h1, h2⟩ := h x v hx hv
      refine ⟨cv, ?_, h2⟩
      split
      · show (if x = p then some c₁ else m x) = some cv
        rw [if_neg q]; exact h1
      · exact h1
theorem bindC_rel : ∀ (pn : List Str) {args : List AV} {cargs : List Value}, RelAL φ loc args cargs → ∀ {m : Str → Option Value} {ρ : Rho},
    (∀ x v, k x ≠ some .local → ρ x = some v → ∃ cv, m x = some cv ∧ RelA φ loc v cv) →
    ∀ x v, k x ≠ some .local → bindR (pn.zip args) ρ x = some v → ∃ cv, bindC k (pn.zip cargs) m x = some cv ∧ RelA φ loc v cv
  | [], _, _, _, _, _, h => h
  | p :: pn, _, _, .nil, _, _, h => h
  | p :: pn, _, _, .cons (v := v₁) (c := c₁) r rs, m, ρ, h => by
    rw [List.zip_cons_cons, List.zip_cons_cons]
    unfold bindR bindC
    refine bindC_rel pn rs ?_
    intro x v hx hv
    unfold upd at hv
    by_cases q : x = p
    · subst q
      rw [if_pos rfl] at hv; cases hv
      rw [if_neg hx, if_pos rfl]
      exact ⟨_, rfl, r⟩
    · rw [if_neg q] at hv
      obtain ⟨cv, h1, h2⟩ := h x v hx hv
      refine ⟨cv, ?_, h2⟩
      split
      · exact h1
      · show (if x = p then some c₁ else m x) = some cv
        rw [if_neg q]; exact h1
end
theorem RelAL.length {φ : Frz} {loc : Locs} : ∀ {v : List AV} {c : List Value}, RelAL φ loc v c → v.length = c.length
  | _, _, .nil => rfl
  | _, _, .cons _ b => by rw [List.length_cons, List.length_cons, b.length]

theorem cells_mem : ∀ (names : List (Str × NameKind)) (n : Nat) (acc : List (Str × Addr)) {x : Str} {c : Addr}, (x, c) ∈ cellsFrom n names acc → (x, c) ∈ acc ∨ (x, NameKind.cell) ∈ names
  | [], _, _, _, _, h => .inl h
  | (y, k) :: r, n, acc, x, c, h => by
    unfold cellsFrom at h
    split at h
    · rename_i hk
      have hk' : k = .cell := by simpa using hk
      rcases cells_mem r _ _ h with h | h
      · rcases List.mem_cons.mp h with e | h
        · cases e; right; rw [hk']; exact List.mem_cons_self
        · exact .inl h
      · exact .inr (List.mem_cons_of_mem _ h)
    · rcases cells_mem r _ _ h with h | h
      · exact .inl h
      · exact .inr (List.mem_cons_of_mem _ h)
theorem lookup_some_of_mem {α : Type} : ∀ {l : List (Str × α)} {x : Str} {c : α}, (x, c) ∈ l → (l.lookup x).isSome = true
  | (y, d) :: r, x, c, h => by
    rw [List.lookup_cons]
    split
    · rfl
    · rename_i hne
      rcases List.mem_cons.mp h with e | h
      · cases e; simp at hne
      · exact lookup_some_of_mem h
theorem cells_keep : ∀ (names : List (Str × NameKind)) (n : Nat) (acc : List (Str × Addr)) {p : Str × Addr}, p ∈ acc → p ∈ cellsFrom n names acc
  | [], _, _, _, h => h
  | (y, k) :: r, n, acc, p, h => by
    unfold cellsFrom
    split
    · exact cells_keep r _ _ (List.mem_cons_of_mem _ h)
    · exact cells_keep r _ _ h
theorem cells_has : ∀ (names : List (Str × NameKind)) (n : Nat) (acc : List (Str × Addr)) {x : Str}, (x, NameKind.cell) ∈ names → ∃ c, (x, c) ∈ cellsFrom n names acc
  | (y, k) :: r, n, acc, x, h => by
    unfold cellsFrom
    rcases List.mem_cons.mp h with e | h
    · cases e
      rw [if_pos (by decide)]
      exact ⟨n, cells_keep r _ _ List.mem_cons_self⟩
    · split
      · exact cells_has r _ _ h
      · exact cells_has r _ _ h

def ownW (cells : List (Str × Addr)) (names : List (Str × NameKind)) : List Addr := names.filterMap fun p => if p.2 = .cell then cells.lookup p.1 else none
def ownC (names : List (Str × NameKind)) : List Str := (names.filter fun p => p.2 == .cell).map (·.1)
theorem mem_ownW {cells : List (Str × Addr)} {names : List (Str × NameKind)} {a : Addr} (h : a ∈ ownW cells names) : ∃ y, (y, NameKind.cell) ∈ names ∧ cells.lookup y = some a := by
  obtain ⟨p, hp, e⟩ := List.mem_filterMap.mp h
  split at e
  · rename_i hk; exact ⟨p.1, by rw [← hk]; exact hp, e⟩
  · cases e
theorem ownW_mem {cells : List (Str × Addr)} {names : List (Str × NameKind)} {a : Addr} {y : Str} (h : (y, NameKind.cell) ∈ names) (e : cells.lookup y = some a) : a ∈ ownW cells names :=
  List.mem_filterMap.mpr ⟨_, h, by rw [if_pos rfl]; exact e⟩
theorem mem_ownC {names : List (Str × NameKind)} {x : Str} (h : x ∈ ownC names) : (x, NameKind.cell) ∈ names := by
  obtain ⟨p, hp, rfl⟩ := List.mem_map.mp h
  obtain ⟨h1, h2⟩ := List.mem_filter.mp hp
  have : p.2 = .cell := by simpa using h2
  rw [← this]; exact h1
theorem ownC_mem {names : List (Str × NameKind)} {x : Str} (h : (x, NameKind.cell) ∈ names) : x ∈ ownC names :=
  List.mem_map.mpr ⟨_, List.mem_filter.mpr ⟨h, rfl⟩, rfl⟩
def defF (fd : FuncData) (L a : Addr) : Fm := ⟨callEnvC fd L a, L :: ownW (cellsFrom (L + 1) fd.scope.names []) fd.scope.names, ownC fd.scope.names⟩
def RetP (μ : Store) (Post : AV → Store → Prop) (fl : Fl) (μ' : Store) : Prop := match fl with
  | .next => Post (.p .none) (μ'.take μ.length)
  | .ret (.p v) => Post (.p v) (μ'.take μ.length)
  | .ret (.m k) => (k < μ.length ∧ Post (.m k) (μ'.take μ.length)) ∨ (μ.length ≤ k ∧ ∃ vs, μ'[k]? = some vs ∧ Post (.p (.lst vs)) (μ'.take μ.length))
  | _ => False

section
variable {prog : Program} {w : World} {Z : Tb} {ht : Heap} {n : Nat} {F : Fm} {ρ : Rho} {μ : Store} {A : Around}

theorem InvG.take {φ : Frz} {loc loc' : Locs} {h : Heap} {μ' : Store} (I : InvG Z ht μ' φ loc' h) (hp : ∃ r, loc' = loc ++ r) {m : Nat} (hm : loc.length = m) : InvG Z ht (μ'.take m) φ loc h where
  sub := I.sub
  top := I.top
  off := fun a ha => I.off a (by obtain ⟨r, rfl⟩ := hp; exact List.mem_append_left _ ha)
  nd := by obtain ⟨r, rfl⟩ := hp; exact (List.nodup_append.mp I.nd).1
  len := by
    obtain ⟨r, rfl⟩ := hp
    have := I.len
    simp at this
    simp; omega
  lists := fun k a vs h1 h2 => by
    obtain ⟨r, rfl⟩ := hp
    refine I.lists k a vs (getElem?_pre h1) ?_
    rw [List.getElem?_take] at h2
    split at h2
    · exact h2
    · cases h2
  tabs := I.tabs
  talive := I.talive
/-- let a mutable list that is no more written be frozen -/
theorem InvG.fzl {φ : Frz} {loc loc' : Locs} {h : Heap} {μ' : Store} (I : InvG Z ht μ' φ loc' h) (hp : ∃ r, loc' = loc ++ r) {m k : Nat} (hm : loc.length = m) (hk : m ≤ k) {a : Addr} {o : Obj} (ha : loc'[k]? = some a) (ho : h.get? a = some o) : InvG Z ht (μ'.take m) (fz φ a o) loc h :=
  have J := I.take hp hm
  have hφ := (I.off a (List.mem_of_getElem? ha)).1
  have hl : a ∉ loc := fun q => by
    obtain ⟨r, rfl⟩ := hp
    obtain ⟨i, hi, e⟩ := List.mem_iff_getElem.mp q
    obtain ⟨l1, e1⟩ := List.getElem?_eq_some_iff.mp ha
    have : k = i := nodup_inj I.nd l1 (by simp; omega) (by rw [e1, List.getElem_append_left hi, e])
    omega
  { sub := fun b o' e => by
      unfold fz at e
      by_cases q : b = a
      · subst q; rw [if_pos rfl] at e; cases e; exact ho
      · rw [if_neg q] at e; exact J.sub _ _ e
    top := fun b o' e => fz_le hφ _ _ (J.top b o' e)
    off := fun b hb => ⟨by
      have q' : ¬ b = a := fun q => hl (q ▸ hb)
      unfold fz; rw [if_neg q']; exact (J.off b hb).1, (J.off b hb).2⟩
    nd := J.nd
    len := J.len
    lists := fun k a vs h1 h2 => let ⟨items, h3, h4⟩ := J.lists k a vs h1 h2; ⟨items, h3, h4.mono (fz_le hφ)⟩
    tabs := Z.stable _ _ _ _ J.tabs (fz_le hφ) fun _ _ => rfl
    talive := fun b hb => ⟨by
      have q' : ¬ b = a := fun q => (I.off a (List.mem_of_getElem? ha)).2 (q ▸ hb)
      unfold fz; rw [if_neg q']; exact (J.talive b hb).1, (J.talive b hb).2⟩ }

theorem TC.def {mg mb : Str → Option Value} (B : Base ht mg mb) {f : Addr} {o : Obj} {fd : FuncData} {body : List Stmt} {pn : List Str} {args : List AV} {Post : AV → Store → Prop}
    (ho : ht.get? f = some o) (hd : o.data = .func fd) (hcd : ht.CodeRec fd.code fd.qualname) (hb : fd.body = .stmts body)
    (hbind : ∀ cargs : List Value, cargs.length = args.length → bindArgs fd ⟨cargs, []⟩ = pure (pn.zip cargs))
    (hclo : fd.closure = []) (hg : fd.globals = mainGlobals) (hbl : fd.builtins = builtinsNs)
    (hpn : (pn.all fun x => fd.scope.names.lookup x == some .local || fd.scope.names.lookup x == some .cell) = true)
    (hcw : (fd.scope.names.all fun p => p.2 != .cell || fd.scope.names.lookup p.1 == some .cell) = true)
    (hco : fd.scope.isCoroutine = false) (hgen : fd.scope.isGenerator = false) (hk : fd.scope.kind = .function)
    (h : ∀ L, TS prog w Z ht n (defF fd L f) body (bindR (pn.zip args) fun _ => none) μ fun fl ρ' μ' => RetP μ Post fl μ') :
    TC prog w Z ht (n + 1) (.ref f) args μ Post := by
  intro A s φ loc cs a I r
  refine wpAny_call (codeAny_call_cells (by have := a.depth; show A.depth < 1000; omega) (I.hts _ _ ho) hd (B.nolimit.keeps I.hts) (hcd.keeps I.hts) hb (hbind cs r.length.symm) hclo ?_ ?_ hco hgen hk)
  · intro x hx
    have hx1 : x.1 ∈ pn := (List.of_mem_zip (a := x.1) (b := x.2) hx).1
    have := List.all_eq_true.mp hpn _ hx1
    simp only [Bool.or_eq_true, beq_iff_eq] at this
    rcases this with h1 | h1
    · exact .inl h1
    · refine .inr ⟨h1, ?_⟩
      obtain ⟨c, hc⟩ := cells_has fd.scope.names (s.heap.objs.size + 1) [] (mem_of_lookup h1)
      exact lookup_some_of_mem hc
  · intro s₁ x
    obtain ⟨h₁, tk₁, rfl⟩ := x.toInCall.same
    have hfr := x.toInCall.fresh
    have hL : (callEnvC fd s.heap.objs.size f).locals = s.heap.objs.size := rfl
    have I₁ := I.gar (h' := h₁) x.toInCall.keep
    have hcl : ∀ y c, (callEnvC fd s.heap.objs.size f).cells.lookup y = some c → s.heap.objs.size < c ∧ h₁.IsCell c (bindC (callEnvC fd s.heap.objs.size f).kindOf (pn.zip cs) (fun _ => none) y) := by
      intro y c hm
      exact ⟨x.above y c (mem_of_lookup hm), x.cell y c hm⟩
    have dead : ∀ c, s.heap.objs.size ≤ c → s.heap.get? c = none := fun c hc => by
      cases q : s.heap.get? c with
      | none => rfl
      | some o => exact absurd (Heap.lt_size q) (Nat.not_lt.mpr hc)
    have hdead : ∀ c ∈ (defF fd s.heap.objs.size f).W, s.heap.get? c = none := by
      intro c hc
      rcases List.mem_cons.mp hc with rfl | hc
      · exact dead _ (Nat.le_refl _)
      · obtain ⟨y, _, hy⟩ := mem_ownW hc
        exact dead _ (Nat.le_of_lt (hcl y c hy).1)
    have E₁ : EnvOk Z (defF fd s.heap.objs.size f) (bindR (pn.zip args) fun _ => none) φ loc h₁ := by
      refine ⟨hk, hg, hbl, fun c hc => ?_, List.mem_cons_self, ⟨_, x.toInCall.ns, fun y v hy hv => ?_⟩, fun y v hy hv => ?_, fun y hy => ?_, fun y z c h1 h2 => ?_, fun y c h1 => ?_, fun y c h1 => ?_⟩
      · have hd' := hdead c hc
        refine ⟨I.dead hd', not_loc I hd', not_tab I hd', ?_⟩
        rcases List.mem_cons.mp hc with rfl | hc
        · obtain ⟨o, _, _, ho, _⟩ := x.toInCall.ns; exact ⟨o, ho⟩
        · obtain ⟨y, _, hy⟩ := mem_ownW hc
          obtain ⟨o, ho, _⟩ := (hcl y c hy).2
          exact ⟨o, ho⟩
      · exact bindL_rel pn r (fun _ _ _ h => by cases h) y v hy hv
      · have hnl : (callEnvC fd s.heap.objs.size f).kindOf y ≠ some .local := by
          intro q; rcases hy with hy | hy <;> (rw [show (defF fd s.heap.objs.size f).env.kindOf y = (callEnvC fd s.heap.objs.size f).kindOf y from rfl, q] at hy; cases hy)
        obtain ⟨cv, h1, h2⟩ := bindC_rel (k := (callEnvC fd s.heap.objs.size f).kindOf) pn r (fun _ _ _ h => by cases h) y v hnl hv
        -- a parameter that is a cell
        have hyp : y ∈ pn := by
          by_cases q : y ∈ pn
          · exact q
          · exfalso
            have : ∀ (l : List Str) (as : List AV) (ρ : Rho), y ∉ l → bindR (l.zip as) ρ y = ρ y := by
              intro l
              induction l with
              | nil => intro as ρ _; rfl
              | cons z l ih =>
                intro as ρ hz
                cases as with
                | nil => rfl
                | cons b as =>
                  rw [List.zip_cons_cons]
                  unfold bindR
                  rw [ih as _ (fun q => hz (List.mem_cons_of_mem _ q))]
                  have q' : ¬ y = z := fun q => hz (q ▸ List.mem_cons_self)
                  unfold upd
                  rw [if_neg q']
            rw [this pn args _ q] at hv
            cases hv
        have hk' := List.all_eq_true.mp hpn _ hyp
        simp only [Bool.or_eq_true, beq_iff_eq] at hk'
        have hk'' : fd.scope.names.lookup y = some .cell := hk'.resolve_left hnl
        obtain ⟨c, hc⟩ := cells_has fd.scope.names (s.heap.objs.size + 1) [] (mem_of_lookup hk'')
        obtain ⟨c', hc'⟩ := Option.isSome_iff_exists.mp (lookup_some_of_mem hc)
        exact ⟨c', cv, hc', h1 ▸ (hcl y c' hc').2, h2⟩
      · have hm := mem_ownC hy
        have hk' := List.all_eq_true.mp hcw _ hm
        simp only [bne_self_eq_false, Bool.false_or, beq_iff_eq] at hk'
        obtain ⟨c, hc⟩ := cells_has fd.scope.names (s.heap.objs.size + 1) [] hm
        obtain ⟨c', hc'⟩ := Option.isSome_iff_exists.mp (lookup_some_of_mem hc)
        exact ⟨hk', c', _, hc', List.mem_cons_of_mem _ (ownW_mem hm hc'), (hcl y c' hc').2⟩
      · exact name_of_addr x.apart (mem_of_lookup h1) (mem_of_lookup h2)
      · exact Nat.ne_of_gt (hcl y c h1).1
      · have hd' := dead c (Nat.le_of_lt (hcl y c h1).1)
        obtain ⟨o, ho, _⟩ := (hcl y c h1).2
        exact ⟨not_loc I hd', not_tab I hd', o, ho⟩
    refine wpAny_mono (h s.heap.objs.size _ _ φ loc (a.deeper _) I₁ E₁) (fun fl s' p => ?_) fun _ _ e => e.elim
    obtain ⟨fl', ρ', μ', φ', loc', h', tk', p, rf, I', E', X'⟩ := p
    have hlen : loc.length = μ.length := I.len
    have X₀ : Ext Z [] φ loc s.heap φ' loc' h' := by
      have k1 : ∀ b o, b ∉ loc → b ∉ Z.tabs → s.heap.get? b = some o → h'.get? b = some o := fun b o h1 h2 e => X'.keep b o h1 h2 (fun q => by rw [hdead b q] at e; cases e) (x.toInCall.keep b o e)
      refine ⟨X'.mono, X'.pre, fun b o h1 h2 _ e => k1 b o h1 h2 e, fun b o e => X'.alive b o (x.toInCall.keep b o e), fun b e => ?_, fun b e => ?_⟩
      · rcases X'.newφ b e with h1 | h1
        · exact .inl h1
        · exact .inr (none_of_dead (fun b o e => ⟨o, x.toInCall.keep b o e⟩) h1)
      · rcases X'.newl b e with h1 | h1
        · exact .inl h1
        · exact .inr (none_of_dead (fun b o e => ⟨o, x.toInCall.keep b o e⟩) h1)
    have Xc : Ext Z [] φ loc s.heap φ' loc h' := { X₀ with pre := ⟨[], by simp⟩, newl := fun b e => .inl e }
    have It := I'.take X₀.pre hlen
    cases rf with
    | next => exact ⟨_, _, _, _, _, _, p, .p .none, It, Xc⟩
    | brk => exact p.elim
    | cont => exact p.elim
    | ret rv =>
      cases rv with
      | p rv => exact ⟨_, _, _, _, _, _, p, .p rv, It, Xc⟩
      | m rv =>
        rename_i k c
        rcases p with ⟨hk1, p⟩ | ⟨hk1, vs, hvs, p⟩
        · refine ⟨_, _, _, _, _, _, p, .m ?_, It, Xc⟩
          obtain ⟨r', rfl⟩ := X₀.pre
          rw [List.getElem?_append_left (by omega)] at rv; exact rv
        · obtain ⟨items, ⟨n', ho'⟩, hr'⟩ := I'.lists k c vs rv hvs
          have hcd : s.heap.get? c = none := by
            rcases X₀.newl c (List.mem_of_getElem? rv) with h1 | h1
            · exfalso
              obtain ⟨r', rfl⟩ := X₀.pre
              obtain ⟨i, hi, e⟩ := List.mem_iff_getElem.mp h1
              obtain ⟨l1, e1⟩ := List.getElem?_eq_some_iff.mp rv
              have : k = i := nodup_inj I'.nd l1 (by simp; omega) (by rw [e1, List.getElem_append_left hi, e])
              omega
            · exact h1
          have hφ := (I'.off c (List.mem_of_getElem? rv)).1
          refine ⟨_, _, _, _, _, _, p, .p (.lst fz_at (hr'.mono (fz_le hφ))), I'.fzl X₀.pre hlen hk1 rv ho', ?_⟩
          refine { Xc with mono := Xc.mono.trans (fz_le hφ), newφ := fun b e => ?_ }
          unfold fz at e
          by_cases q : b = c
          · subst q; exact .inr hcd
          · rw [if_neg q] at e; exact Xc.newφ b e
end
theorem bind1 {fd : FuncData} {p0 : Str} (h : ∀ x0 : Value, bindArgs fd ⟨[x0], []⟩ = pure [(p0, x0)]) (cargs : List Value) (hl : cargs.length = 1) : bindArgs fd ⟨cargs, []⟩ = pure ([p0].zip cargs) := by
  match cargs, hl with
  | [x0], _ => exact h x0
theorem bind2 {fd : FuncData} {p0 p1 : Str} (h : ∀ x0 x1 : Value, bindArgs fd ⟨[x0, x1], []⟩ = pure [(p0, x0), (p1, x1)]) (cargs : List Value) (hl : cargs.length = 2) : bindArgs fd ⟨cargs, []⟩ = pure ([p0, p1].zip cargs) := by
  match cargs, hl with
  | [x0, x1], _ => exact h x0 x1
theorem bind3 {fd : FuncData} {p0 p1 p2 : Str} (h : ∀ x0 x1 x2 : Value, bindArgs fd ⟨[x0, x1, x2], []⟩ = pure [(p0, x0), (p1, x1), (p2, x2)]) (cargs : List Value) (hl : cargs.length = 3) : bindArgs fd ⟨cargs, []⟩ = pure ([p0, p1, p2].zip cargs) := by
  match cargs, hl with
  | [x0, x1, x2], _ => exact h x0 x1 x2
theorem bind4 {fd : FuncData} {p0 p1 p2 p3 : Str} (h : ∀ x0 x1 x2 x3 : Value, bindArgs fd ⟨[x0, x1, x2, x3], []⟩ = pure [(p0, x0), (p1, x1), (p2, x2), (p3, x3)]) (cargs : List Value) (hl : cargs.length = 4) : bindArgs fd ⟨cargs, []⟩ = pure ([p0, p1, p2, p3].zip cargs) := by
  match cargs, hl with
  | [x0, x1, x2, x3], _ => exact h x0 x1 x2 x3

section
variable {prog : Program} {w : World} {Z : Tb} {ht : Heap} {n : Nat} {F : Fm} {ρ : Rho} {μ : Store} {A : Around}

/-! lists of expressions -/
def TL (prog : Program) (w : World) (Z : Tb) (ht : Heap) (n : Nat) (F : Fm) (pos : Pos) (es : List Expr) (ρ : Rho) (μ : Store) (Post : List AV → Store → Prop) : Prop :=
  ∀ A s φ loc, AOk A n → InvG Z ht μ φ loc s.heap → EnvOk Z F ρ φ loc s.heap → wpAny (model prog w) A (spliced (backTo pos (starEach es F.env))) (P Z ht [] RelAL s φ loc Post) NoE s
theorem TL.nil {pos : Pos} {Post : List AV → Store → Prop} (h : Post [] μ) : TL prog w Z ht n F pos [] ρ μ Post :=
  fun A s φ loc a I E => wpAny_items_nil (P.here h .nil I)
theorem TL.cons {pos : Pos} {e : Expr} {es : List Expr} {Post : List AV → Store → Prop} (h : TE prog w Z ht n F e ρ μ fun v μ₁ => TL prog w Z ht n F pos es ρ μ₁ fun vs μ₂ => Post (v :: vs) μ₂)
    (he : starEach (e :: es) F.env = (false, eval e F.env) :: starEach es F.env := by rfl) : TL prog w Z ht n F pos (e :: es) ρ μ Post := by
  intro A s φ loc a I E
  refine wpAny_items_cons (wpAny_mono (h A s φ loc a I E) (fun c s₁ p => ?_) fun _ _ e => e) he
  obtain ⟨v, μ₁, φ₁, loc₁, h₁, tk₁, p, r, I₁, X₁⟩ := p
  refine wpAny_mono (p A _ φ₁ loc₁ a I₁ (E.ext X₁)) (fun cs s₂ q => ?_) fun _ _ e => e
  obtain ⟨vs, μ₂, φ₂, loc₂, h₂, tk₂, q, rs, I₂, X₂⟩ := q
  exact ⟨_, _, _, _, _, _, q, .cons (r.mono X₂.mono X₂.pre) rs, I₂, X₁.trans X₂⟩

/-! calls -/
def Callee (ht : Heap) (f : Value) : Prop := (∃ id, f = .builtin id) ∨ (∃ T, f = .type T) ∨ ∃ a o fd, f = .ref a ∧ ht.get? a = some o ∧ o.data = .func fd
theorem call_with {f : Value} {pos : Pos} {s : Shared} {φ : Frz} {loc : Locs} {first : List AV} {cfirst : List Value} {e : Expr} {es : List Expr} {Post : AV → Store → Prop} (hf : Callee ht f) (a : AOk A n) (I : InvG Z ht μ φ loc s.heap) (E : EnvOk Z F ρ φ loc s.heap) (rf : RelAL φ loc first cfirst)
    (h : TL prog w Z ht n F pos (e :: es) ρ μ fun vs μ₂ => TC prog w Z ht n f (first ++ vs) μ₂ Post)
    (he : starEach (e :: es) F.env = (false, eval e F.env) :: starEach es F.env) (hp : ((backTo pos (starEach (e :: es) F.env)).any (·.1)) = false) :
    wpAny (model prog w) A (callWith pos f cfirst (backTo pos (starEach (e :: es) F.env)) []) (P Z ht [] RelA s φ loc Post) NoE s := by
  have e1 : backTo pos (starEach (e :: es) F.env) = (false, eval e F.env) :: backTo pos (starEach es F.env) := by rw [he]; rfl
  have key : wpAny (model prog w) A (evalArgs f true (backTo pos (starEach (e :: es) F.env)) []) (fun x s₁ => (∀ b o, ht.get? b = some o → s₁.heap.get? b = some o) ∧ wpAny (model prog w) A (call f (cfirst ++ x.pos) x.kw) (P Z ht [] RelA s φ loc Post) NoE s₁) NoE s := by
    have h1 := h A s φ loc a I E
    rw [e1] at h1 ⊢
    refine Calls.evalArgs_plain (wpAny_mono h1 (fun cs s₁ p => ?_) fun _ _ e => e)
    obtain ⟨vs, μ₂, φ₂, loc₂, h₂, tk₂, q, rs, I₂, X₂⟩ := p
    refine ⟨I₂.hts, wpAny_mono (q A _ φ₂ loc₂ (cfirst ++ cs) a I₂ ?_) (fun _ _ q => P.on X₂ q) fun _ _ e => e⟩
    have : ∀ {v : List AV} {c : List Value}, RelAL φ₂ loc₂ v c → RelAL φ₂ loc₂ (v ++ vs) (c ++ cs) := by
      intro v c r
      induction r with
      | nil => exact rs
      | cons a b ih => exact .cons a ih
    exact this (rf.mono X₂.mono X₂.pre)
  rcases hf with ⟨id, rfl⟩ | ⟨T, rfl⟩ | ⟨b, o, fd, rfl, ho, hd⟩
  · exact Calls.callWith_builtin hp (wpAny_mono key (fun _ _ p => p.2) fun _ _ e => e)
  · exact PySem.callWith_type hp (wpAny_mono key (fun _ _ p => p.2) fun _ _ e => e)
  · exact Calls.callWith_function (o := o) (fd := fd) (wpAny_mono key (fun _ _ p => ⟨⟨p.1 _ _ ho, hd⟩, p.2⟩) fun _ _ e => e)
theorem TE.call {id : Str} {p pos : Pos} {e : Expr} {es : List Expr} {Post : AV → Store → Prop}
    (h : TE prog w Z ht n F (.Name id p) ρ μ fun f μ₁ => ∃ fv, f = .p (.val fv) ∧ Callee ht fv ∧ TL prog w Z ht n F pos (e :: es) ρ μ₁ fun vs μ₂ => TC prog w Z ht n fv vs μ₂ Post)
    (he : starEach (e :: es) F.env = (false, eval e F.env) :: starEach es F.env := by rfl) (hp : ((backTo pos (starEach (e :: es) F.env)).any (·.1)) = false := by rfl) :
    TE prog w Z ht n F (.Call (.Name id p) (e :: es) [] pos) ρ μ Post := by
  intro A s φ loc a I E
  show wpAny _ A (eval (.Name id p) F.env >>= fun f => callWith pos f [] (backTo pos (starEach (e :: es) F.env)) []) _ _ s
  refine seq (h A s φ loc a I E) fun v μ₁ φ₁ loc₁ h₁ tk₁ c p₁ r₁ I₁ x₁ => ?_
  obtain ⟨fv, rfl, hf, hl⟩ := p₁
  cases r₁ with
  | p r => cases r with
    | val => exact call_with hf a I₁ (E.ext x₁) (first := []) .nil hl he hp
/-- a built-in's method -/
def GM (prog : Program) (w : World) (Z : Tb) (ht : Heap) (μ : Store) (v : AV) (name : Str) (id : String) : Prop :=
  ∀ (A : Around) (s : Shared) (φ : Frz) (loc : Locs) (c : Value) (pl : Sem Bool) (Q : Value × List Value → Shared → Prop), InvG Z ht μ φ loc s.heap → RelA φ loc v c → Q (.builtin id, [c]) s → wpAny (model prog w) A (getMethod c name pl) Q NoE s
theorem TE.meth {o : Expr} {name : Str} {id : String} {apos pos : Pos} {e : Expr} {es : List Expr} {pl : Sem Bool} {Post : AV → Store → Prop}
    (h : TE prog w Z ht n F o ρ μ fun v μ₁ => GM prog w Z ht μ₁ v name id ∧ TL prog w Z ht n F pos (e :: es) ρ μ₁ fun vs μ₂ => TC prog w Z ht n (.builtin id) (v :: vs) μ₂ Post)
    (hev : eval (.Call (.Attribute o name apos) (e :: es) [] pos) F.env = (do
      let ov ← eval o F.env
      standAt apos.atName
      let (f, first) ← holding [ov] (getMethod ov name pl)
      callWith pos f first (backTo pos (starEach (e :: es) F.env)) []) := by rfl)
    (he : starEach (e :: es) F.env = (false, eval e F.env) :: starEach es F.env := by rfl) (hp : ((backTo pos (starEach (e :: es) F.env)).any (·.1)) = false := by rfl) :
    TE prog w Z ht n F (.Call (.Attribute o name apos) (e :: es) [] pos) ρ μ Post := by
  intro A s φ loc a I E
  refine MethodCall_ (pl := pl) (wpAny_mono (h A s φ loc a I E) (fun c s₁ p => ?_) fun _ _ e => e) hev
  obtain ⟨v, μ₁, φ₁, loc₁, h₁, tk₁, ⟨gm, hl⟩, r, I₁, X₁⟩ := p
  refine gm A _ φ₁ loc₁ c pl _ I₁ r ?_
  exact wpAny_mono (call_with (.inl ⟨_, rfl⟩) a I₁ (E.ext X₁) (first := [v]) (.cons r .nil) hl he hp) (fun _ _ q => P.on X₁ q) fun _ _ e => e
theorem TE.meth0 {o : Expr} {name : Str} {id : String} {apos pos : Pos} {pl : Sem Bool} {Post : AV → Store → Prop}
    (h : TE prog w Z ht n F o ρ μ fun v μ₁ => GM prog w Z ht μ₁ v name id ∧ TC prog w Z ht n (.builtin id) [v] μ₁ Post)
    (hev : eval (.Call (.Attribute o name apos) [] [] pos) F.env = (do
      let ov ← eval o F.env
      standAt apos.atName
      let (f, first) ← holding [ov] (getMethod ov name pl)
      callWith pos f first (backTo pos (starEach [] F.env)) []) := by rfl) :
    TE prog w Z ht n F (.Call (.Attribute o name apos) [] [] pos) ρ μ Post := by
  intro A s φ loc a I E
  refine MethodCall_ (pl := pl) (wpAny_mono (h A s φ loc a I E) (fun c s₁ p => ?_) fun _ _ e => e) hev
  obtain ⟨v, μ₁, φ₁, loc₁, h₁, tk₁, ⟨gm, hl⟩, r, I₁, X₁⟩ := p
  refine gm A _ φ₁ loc₁ c pl _ I₁ r ?_
  refine callWith_method0 ?_
  exact wpAny_mono (hl A _ φ₁ loc₁ [c] a I₁ (.cons r .nil)) (fun _ _ q => P.on X₁ q) fun _ _ e => e

/-! displays -/
def pv : AV → Option V
  | .p v => some v
  | .m _ => none
def AllP (as : List AV) (vs : List V) : Prop := as = vs.map .p
theorem AllP.rel {φ : Frz} {loc : Locs} : ∀ {vs : List V} {cs : List Value}, RelAL φ loc (vs.map .p) cs → RelL φ vs cs
  | [], _, .nil => .nil
  | v :: vs, _, .cons (.p r) rs => .cons r (AllP.rel rs)
theorem TE.tup {es : List Expr} {k : Nat} {pos : Pos} {Post : AV → Store → Prop} (h : TL prog w Z ht n F pos es ρ μ fun as μ₁ => ∃ vs, as = List.map AV.p vs ∧ vs.length ≤ 1000000 ∧ Post (.p (.tup vs)) μ₁) : TE prog w Z ht n F (.Tuple es k pos) ρ μ Post := by
  intro A s φ loc a I E
  refine wpAny_Tuple (wpAny_mono (h A s φ loc a I E) (fun cs s₁ p => ?_) fun _ _ e => e)
  obtain ⟨as, μ₁, φ₁, loc₁, h₁, tk₁, ⟨vs, rfl, hz, p⟩, r, I₁, X₁⟩ := p
  have hr := AllP.rel r
  have hd := push_dead h₁
  refine ⟨by have := hr.length; show cs.length ≤ 2 ^ 24; omega, _, _, fz φ₁ h₁.objs.size (tupObj cs 0), loc₁, _, _, p, .p (.tup fz_at (hr.mono (fz_le (I₁.dead hd)))), I₁.freeze hd (Heap.get?_push_size _ rfl) (push_keep _ _), X₁.trans (Ext.freeze (I₁.dead hd) hd (push_keep _ _))⟩
theorem TE.lst {es : List Expr} {pos : Pos} {Post : AV → Store → Prop} (h : TL prog w Z ht n F pos es ρ μ fun as μ₁ => ∃ vs, as = List.map AV.p vs ∧ vs.length ≤ 1000000 ∧ Post (.p (.lst vs)) μ₁) : TE prog w Z ht n F (.List es pos) ρ μ Post := by
  intro A s φ loc a I E
  refine wpAny_List (wpAny_mono (h A s φ loc a I E) (fun cs s₁ p => ?_) fun _ _ e => e)
  obtain ⟨as, μ₁, φ₁, loc₁, h₁, tk₁, ⟨vs, rfl, hz, p⟩, r, I₁, X₁⟩ := p
  have hr := AllP.rel r
  have hd := push_dead h₁
  refine ⟨by have := hr.length; show cs.length ≤ 2 ^ 24; omega, _, _, fz φ₁ h₁.objs.size (lstObj cs 0), loc₁, _, _, p, .p (.lst fz_at (hr.mono (fz_le (I₁.dead hd)))), I₁.freeze hd (Heap.get?_push_size _ rfl) (push_keep _ _), X₁.trans (Ext.freeze (I₁.dead hd) hd (push_keep _ _))⟩
/-- a list that will be changed -/
theorem TE.lstM {es : List Expr} {pos : Pos} {Post : AV → Store → Prop} (h : TL prog w Z ht n F pos es ρ μ fun as μ₁ => ∃ vs, as = List.map AV.p vs ∧ vs.length ≤ 1000000 ∧ Post (.m μ₁.length) (μ₁ ++ [vs])) : TE prog w Z ht n F (.List es pos) ρ μ Post := by
  intro A s φ loc a I E
  refine wpAny_List (wpAny_mono (h A s φ loc a I E) (fun cs s₁ p => ?_) fun _ _ e => e)
  obtain ⟨as, μ₁, φ₁, loc₁, h₁, tk₁, ⟨vs, rfl, hz, p⟩, r, I₁, X₁⟩ := p
  have hr := AllP.rel r
  have hd := push_dead h₁
  refine ⟨by have := hr.length; show cs.length ≤ 2 ^ 24; omega, _, _, φ₁, loc₁ ++ [h₁.objs.size], _, _, p, .m ?_, I₁.newlist hd ⟨0, Heap.get?_push_size _ rfl⟩ hr (push_keep _ _), X₁.trans (Ext.newlist hd (push_keep _ _))⟩
  rw [← I₁.len, List.getElem?_append_right (Nat.le_refl _)]; simp

/-! items -/
theorem seqIndex_nat {k : Int} {m : Nat} (h0 : 0 ≤ k) (hm : k < (m : Int)) : seqIndex? k m = some k.toNat := by
  unfold seqIndex?
  have e : (if k < 0 then k + (m : Int) else k) = k := if_neg (by omega)
  simp only [e]
  rw [if_pos]
  simp only [Bool.and_eq_true, decide_eq_true_eq]
  exact ⟨h0, hm⟩
def SubOk (prog : Program) (w : World) (Z : Tb) (ht : Heap) (μ : Store) (v : AV) : Prop := ∀ (s : Shared) (φ : Frz) (loc : Locs) (c : Value), InvG Z ht μ φ loc s.heap → RelA φ loc v c → ∃ T id, s.TypeIs c T ∧ typeLookup (.type T) "__getitem__" = pure (some (.builtin id))
theorem sub_list {v : AV} {vs : List V} (h : IsL μ v vs) : SubOk prog w Z ht μ v := fun s φ loc c I r => by
  obtain ⟨a, items, rfl, hl, _⟩ := h.at I r
  exact ⟨_, _, hl.isList.typeIs, PySem.slot_list_getitem.lookup⟩
theorem sub_tup {vs : List V} : SubOk prog w Z ht μ (.p (.tup vs)) := fun s φ loc c I r => by
  cases r with
  | p r => cases r with
    | tup h1 h2 => exact ⟨_, _, ⟨_, I.sub _ _ h1, rfl⟩, PySem.F.slot_tuple_getitem.lookup⟩
theorem sub_str {x : Str} : SubOk prog w Z ht μ (.p (.str x)) := fun s φ loc c I r => by
  cases r with
  | p r => cases r with
    | str _ t => exact ⟨_, _, typeIs_str s x t, PySem.F.slot_str_getitem.lookup⟩
theorem TE.sub {value slice : Expr} {pos : Pos} {Post : AV → Store → Prop}
    (h : TE prog w Z ht n F value ρ μ fun o μ₁ => TE prog w Z ht n F slice ρ μ₁ fun i μ₂ => SubOk prog w Z ht μ₂ o ∧ TO prog w Z ht n RelA [o, i] (fun cs => match cs with | [x, y] => getItem x y | _ => unsupported "") μ₂ Post)
    (hs : ∀ o i, subscripted slice false o i = operate [o, i] (getItem o i) := by intro _ _; rfl) : TE prog w Z ht n F (.Subscript value slice pos) ρ μ Post := by
  intro A s φ loc a I E
  refine Subscript_ (wpAny_mono (h A s φ loc a I E) (fun c s₁ p => ?_) fun _ _ e => e)
  obtain ⟨v, μ₁, φ₁, loc₁, h₁, tk₁, p, r, I₁, X₁⟩ := p
  refine wpAny_mono (p A _ φ₁ loc₁ a I₁ (E.ext X₁)) (fun c' s₂ q => ?_) fun _ _ e => e
  obtain ⟨v', μ₂, φ₂, loc₂, h₂, tk₂, ⟨hT, q⟩, r', I₂, X₂⟩ := q
  have r2 := r.mono X₂.mono X₂.pre
  obtain ⟨T, id, hty, hlk⟩ := hT { s with heap := h₂, toks := tk₂ } φ₂ loc₂ c I₂ r2
  exact tail_any hty hlk (wpAny_mono (q A _ φ₂ loc₂ [c, c'] a I₂ (.cons r2 (.cons r' .nil))) (fun _ _ q => P.on (X₁.trans X₂) q) fun _ _ e => e) (hs c c')
theorem item_list {v : AV} {vs : List V} {k : Int} {x : V} {Post : AV → Store → Prop} (hL : IsL μ v vs) (h0 : 0 ≤ k) (hk : k < 2 ^ 62) (hx : vs[k.toNat]? = some x) (h : Post (.p x) μ) :
    TO prog w Z ht n RelA [v, .p (.int k)] (fun cs => match cs with | [x, y] => getItem x y | _ => unsupported "") μ Post := by
  intro A s φ loc cs a I r
  cases r with
  | cons r1 r => cases r with
    | cons r2 r => cases r with
      | nil =>
        obtain ⟨b, items, rfl, hl, hr, _⟩ := hL.at I r1
        cases r2 with
        | p r2 => cases r2 with
          | int _ t =>
            obtain ⟨y, hy, hxy⟩ := hr.get hx
            exact wpAny_getItem_list hl.isList h0 (by omega) (by simpa using hy) (P.here h (.p hxy) I)
theorem item_tup {vs : List V} {k : Int} {x : V} {Post : AV → Store → Prop} (h0 : 0 ≤ k) (hk : k < 2 ^ 62) (hx : vs[k.toNat]? = some x) (h : Post (.p x) μ) :
    TO prog w Z ht n RelA [.p (.tup vs), .p (.int k)] (fun cs => match cs with | [x, y] => getItem x y | _ => unsupported "") μ Post := by
  intro A s φ loc cs a I r
  cases r with
  | cons r1 r => cases r with
    | cons r2 r => cases r with
      | nil =>
        cases r1 with
        | p r1 => cases r1 with
          | tup h1 hr =>
            rename_i b m items
            cases r2 with
            | p r2 => cases r2 with
              | int _ t =>
                obtain ⟨y, hy, hxy⟩ := hr.get hx
                have hlt := (List.getElem?_eq_some_iff.mp hy).1
                refine PyProof.Rows.getItem_tuple (items := items.toArray) (j := k.toNat) ⟨_, I.sub _ _ h1, rfl, _, rfl⟩ (by omega) (by omega) ?_ (by simpa using hy) (P.here h (.p hxy) I)
                exact seqIndex_nat h0 (by simp; omega)
theorem item_str {x : Str} {k : Int} {c : Nat} {Post : AV → Store → Prop} (h0 : 0 ≤ k) (hk : k < 2 ^ 62) (hx : x.cps[k.toNat]? = some c) (h : Post (.p (.str ⟨#[c]⟩)) μ) :
    TO prog w Z ht n RelA [.p (.str x), .p (.int k)] (fun cs => match cs with | [x, y] => getItem x y | _ => unsupported "") μ Post := by
  intro A s φ loc cs a I r
  cases r with
  | cons r1 r => cases r with
    | cons r2 r => cases r with
      | nil =>
        cases r1 with
        | p r1 => cases r1 with
          | str _ t =>
            cases r2 with
            | p r2 => cases r2 with
              | int _ u =>
                have hlt : k.toNat < x.cps.size := (Array.getElem?_eq_some_iff.mp hx).1
                refine PyProof.Rows.getItem_str (c := c) (by simp; omega) ?_ (P.tok h (.p (.str _ _)) I)
                rw [seqIndex_nat (m := x.length) h0 (show k < ((x.cps.size : Nat) : Int) by omega)]
                exact hx
/-! slices -/
def TP (prog : Program) (w : World) (Z : Tb) (ht : Heap) (n : Nat) (F : Fm) (e : Option Expr) (ρ : Rho) (μ : Store) (Post : Option Int → Store → Prop) : Prop := match e with
  | none => Post none μ
  | some e => TE prog w Z ht n F e ρ μ fun v μ₁ => ∃ i, v = .p (.int i) ∧ Post (some i) μ₁
def RPart : Frz → Locs → Option Int → Value → Prop := fun _ _ o c => match o with
  | none => c = .none
  | some i => ∃ t, c = .int i t
theorem part_ok {e : Option Expr} {Post : Option Int → Store → Prop} (h : TP prog w Z ht n F e ρ μ Post) {s : Shared} {φ : Frz} {loc : Locs} (a : AOk A n) (I : InvG Z ht μ φ loc s.heap) (E : EnvOk Z F ρ φ loc s.heap) :
    wpAny (model prog w) A (evalPart e F.env) (P Z ht [] RPart s φ loc Post) NoE s := by
  cases e with
  | none => rw [evalPart_none]; exact wpAny_pure (P.here h rfl I)
  | some e =>
    rw [evalPart_some]
    refine wpAny_mono (h A s φ loc a I E) (fun c s₁ p => ?_) fun _ _ e => e
    obtain ⟨v, μ₁, φ₁, loc₁, h₁, tk₁, ⟨i, rfl, p⟩, r, I₁, X₁⟩ := p
    cases r with
    | p r => cases r with
      | int _ t => exact ⟨_, _, _, _, _, _, p, ⟨t, rfl⟩, I₁, X₁⟩
theorem RPart.isPart {φ : Frz} {loc : Locs} {o : Option Int} {c : Value} (h : RPart φ loc o c) : IsPart c o := by
  cases o with
  | none => cases h; exact .none
  | some i => obtain ⟨t, rfl⟩ := h; exact .int i t
def pick (vs : List V) (lo hi st : Option Int) : List V := (sliceRange (sliceBounds lo hi st vs.length).1 (sliceBounds lo hi st vs.length).2.1 (sliceBounds lo hi st vs.length).2.2).filterMap (vs[·]?)
theorem RelL.filterMap {φ : Frz} {vs : List V} {cs : List Value} (h : RelL φ vs cs) : ∀ l : List Nat, RelL φ (l.filterMap (vs[·]?)) (l.filterMap (cs[·]?))
  | [] => .nil
  | i :: l => by
    rw [List.filterMap_cons, List.filterMap_cons]
    cases hv : vs[i]? with
    | none =>
      have : cs[i]? = none := by
        have := h.length
        rw [List.getElem?_eq_none_iff] at hv ⊢; omega
      rw [this]; exact h.filterMap l
    | some x =>
      obtain ⟨y, hy, hxy⟩ := h.get hv
      rw [hy]; exact .cons hxy (h.filterMap l)
theorem TE.sliceL {value : Expr} {lo hi st : Option Expr} {p pos : Pos} {Post : AV → Store → Prop}
    (h : TE prog w Z ht n F value ρ μ fun v μ₁ => TP prog w Z ht n F lo ρ μ₁ fun l μ₂ => TP prog w Z ht n F hi ρ μ₂ fun u μ₃ => TP prog w Z ht n F st ρ μ₃ fun k μ₄ => k ≠ some 0 ∧ ∃ vs, IsL μ₄ v vs ∧ vs.length ≤ 1000000 ∧ Post (.p (.lst (pick vs l u k))) μ₄)
    (hs : ∃ f : Value → Value → List Value, ∀ o i, subscripted (.Slice lo hi st p) false o i = operate (f o i) (getItem o i) := by first | exact ⟨fun o i => [o, i], fun _ _ => rfl⟩ | exact ⟨fun o i => [i, o], fun _ _ => rfl⟩) :
    TE prog w Z ht n F (.Subscript value (.Slice lo hi st p) pos) ρ μ Post := by
  intro A s φ loc a I E
  obtain ⟨fo, hs⟩ := hs
  refine Subscript_ (wpAny_mono (h A s φ loc a I E) (fun c s₁ p => ?_) fun _ _ e => e)
  obtain ⟨v, μ₁, φ₁, loc₁, h₁, tk₁, p, r, I₁, X₁⟩ := p
  have E₁ := E.ext X₁
  refine wpAny_Slice (wpAny_mono (part_ok p a I₁ E₁) (fun c1 s₂ q => ?_) fun _ _ e => e)
  obtain ⟨l, μ₂, φ₂, loc₂, h₂, tk₂, q, rl, I₂, X₂⟩ := q
  have E₂ := E₁.ext X₂
  refine wpAny_mono (part_ok q a I₂ E₂) (fun c2 s₃ q => ?_) fun _ _ e => e
  obtain ⟨u, μ₃, φ₃, loc₃, h₃, tk₃, q, ru, I₃, X₃⟩ := q
  have E₃ := E₂.ext X₃
  refine wpAny_mono (part_ok q a I₃ E₃) (fun c3 s₄ q => ?_) fun _ _ e => e
  obtain ⟨k, μ₄, φ₄, loc₄, h₄, tk₄, ⟨hk, vs, hL, hz, q⟩, rk, I₄, X₄⟩ := q
  have XX := ((X₁.trans X₂).trans X₃).trans X₄
  have I₅ := I₄.gar (push_keep h₄ { cls := .type "slice", data := .fields #[c1, c2, c3] })
  have X₅ : Ext Z [] φ loc s.heap φ₄ loc₄ (h₄.push { cls := .type "slice", data := .fields #[c1, c2, c3] }) := XX.trans (Ext.gar (push_keep _ _))
  have r4 := ((r.mono X₂.mono X₂.pre).mono X₃.mono X₃.pre).mono X₄.mono X₄.pre
  obtain ⟨b, items, rfl, hl, hr, _⟩ := hL.at I₅ r4
  have hlen := hr.length
  refine tail_any (s := { s with heap := h₄.push { cls := .type "slice", data := .fields #[c1, c2, c3] }, toks := tk₄ }) hl.isList.typeIs PySem.slot_list_getitem.lookup (wpAny_getItem_list_slice hl.isList (Heap.IsSliceOf.new _ _ _ _) rl.isPart ru.isPart rk.isPart hk ?_ (by show items.toArray.size ≤ 2 ^ 24; simp; omega)) (hs _ _)
  have hd := push_dead (h₄.push { cls := .type "slice", data := .fields #[c1, c2, c3] })
  have hpk : RelL φ₄ (pick vs l u k) ((slicePick items.toArray l u k).toList) := by
    unfold pick slicePick
    simp only [List.size_toArray, ← hlen]
    have := hr.filterMap (sliceRange (sliceBounds l u k vs.length).1 (sliceBounds l u k vs.length).2.1 (sliceBounds l u k vs.length).2.2)
    simpa using this
  refine ⟨_, _, fz φ₄ _ (lstObj ((slicePick items.toArray l u k).toList) 0), loc₄, _, _, q, .p (.lst fz_at (hpk.mono (fz_le (I₅.dead hd)))), I₅.freeze hd (Heap.get?_push_size _ rfl) (push_keep _ _), X₅.trans (Ext.freeze (I₅.dead hd) hd (push_keep _ _))⟩
end

section
variable {prog : Program} {w : World} {Z : Tb} {ht : Heap} {n : Nat} {F : Fm} {ρ : Rho} {μ : Store} {A : Around}

/-! two targets -/
def nameElts (l : List (Str × Pos)) : List Expr := l.map fun p => .Name p.1 p.2
def updAll (ρ : Rho) : List (Str × Pos) → List V → Rho
  | (x, _) :: l, v :: vs => updAll (upd ρ x (.p v)) l vs
  | _, _ => ρ
theorem assignEach_names (env : Env) : ∀ l : List (Str × Pos), assignEach (nameElts l) env = l.map fun p => (false, assign (.Name p.1 p.2) env)
  | [] => rfl
  | (x, p) :: l => by
    show (false, assign (.Name x p) env) :: assignEach (nameElts l) env = _
    rw [assignEach_names env l]; rfl
def Writable (F : Fm) (l : List (Str × Pos)) : Prop := ∀ p ∈ l, F.env.kindOf p.1 = some .local ∨ p.1 ∈ F.wc
theorem inOrder_ok : ∀ (l : List (Str × Pos)) (vs : List V) (cs : List Value) (ρ : Rho) (s : Shared) (φ : Frz) (loc : Locs), Writable F l → InvG Z ht μ φ loc s.heap → EnvOk Z F ρ φ loc s.heap → RelL φ vs cs →
    ∀ (Q : Unit → Shared → Prop), (∀ h' tk', InvG Z ht μ φ loc h' → EnvOk Z F (updAll ρ l vs) φ loc h' → Ext Z F.W φ loc s.heap φ loc h' → Q () { s with heap := h', toks := tk' }) →
    wpAny (model prog w) A (assignInOrder (l.map fun p => assign (.Name p.1 p.2) F.env) cs) Q NoE s
  | [], vs, cs, ρ, s, φ, loc, _, I, E, _, Q, hQ => by
    have := hQ s.heap s.toks I (by cases vs <;> exact E) (Ext.refl ..)
    exact wpAny_pure this
  | p :: l, _, _, ρ, s, φ, loc, _, I, E, .nil, Q, hQ => wpAny_pure (hQ s.heap s.toks I (by cases p; exact E) (Ext.refl ..))
  | (x, px) :: l, _, _, ρ, s, φ, loc, hw, I, E, .cons (v := v) (c := c) (vs := vs) (cs := cs) r rs, Q, hQ => by
    show wpAny _ A (holding cs (assign (.Name x px) F.env c) >>= fun _ => assignInOrder (l.map fun p => assign (.Name p.1 p.2) F.env) cs) Q NoE s
    refine wpAny_bind (wpAny_holding ?_)
    show wpAny _ A (standAt px >>= fun _ => bindName F.env x c) _ _ s
    refine wpAny_bind (wpAny_standAt (wpAny_bindName (store_ok I E (.p r) (hw (x, px) List.mem_cons_self) fun h' tk' I' E' X' => ?_)))
    exact inOrder_ok l vs cs _ _ φ loc (fun p hp => hw p (List.mem_cons_of_mem _ hp)) I' E' rs Q fun h'' tk'' I'' E'' X'' => hQ h'' tk'' I'' E'' (X'.trans X'')
theorem assignTup_ok {l : List (Str × Pos)} {vs : List V} {k : Nat} {pos : Pos} {c : Value} {s : Shared} {φ : Frz} {loc : Locs} (a : AOk A n) (hw : Writable F l) (hlen : l.length = vs.length) (I : InvG Z ht μ φ loc s.heap) (E : EnvOk Z F ρ φ loc s.heap) (r : Rel φ (.tup vs) c)
    {Q : Unit → Shared → Prop} (hQ : ∀ h' tk', InvG Z ht μ φ loc h' → EnvOk Z F (updAll ρ l vs) φ loc h' → Ext Z F.W φ loc s.heap φ loc h' → Q () { s with heap := h', toks := tk' }) :
    wpAny (model prog w) A (assign (.Tuple (nameElts l) k pos) F.env c) Q NoE s := by
  cases r with
  | tup h1 hr =>
    rename_i b m items
    have hl2 := hr.length
    refine assign_Tuple_tuple (items := items.toArray) a.handled ⟨_, I.sub _ _ h1, rfl, _, rfl⟩ ?_ ?_ fun h' he => ?_
    · rw [assignEach_names]; simp; omega
    · rw [assignEach_names, List.findIdx?_eq_none_iff]
      intro x hx
      obtain ⟨p, _, rfl⟩ := List.mem_map.mp hx
      rfl
    · rw [assignEach_names, List.map_map]
      have kp : ∀ b o, s.heap.get? b = some o → h'.get? b = some o := fun b o e => he b o (Nat.ne_of_lt (Heap.lt_size e)) e
      have X0 : Ext Z [] φ loc s.heap φ loc h' := Ext.gar kp
      exact inOrder_ok l vs items ρ { s with heap := h' } φ loc hw (I.gar kp) (E.ext X0) hr Q fun h'' tk'' I'' E'' X'' => hQ h'' tk'' I'' E'' ((X0.weaken (fun _ q => nomatch q)).trans X'')
theorem T1.assignTup {l : List (Str × Pos)} {k : Nat} {tpos pos : Pos} {e : Expr} {Post : Fl → Rho → Store → Prop} (h : TE prog w Z ht n F e ρ μ fun v μ' => ∃ vs, v = .p (.tup vs) ∧ l.length = vs.length ∧ Post .next (updAll ρ l vs) μ') (hw : Writable F l)
    (hs : swapsWithSole [.Tuple (nameElts l) k tpos] e pos.line F.env = pure false := by rfl) (hsw : swappedStores [.Tuple (nameElts l) k tpos] e F.env = pure none := by rfl) : T1 prog w Z ht n F (.Assign [.Tuple (nameElts l) k tpos] e pos) ρ μ Post := by
  intro A s φ loc a I E
  refine Assign_Tuple (wpAny_mono (h A s φ loc a I E) (fun c s₁ p => ?_) fun _ _ e => e) hs hsw
  obtain ⟨v, μ₁, φ₁, loc₁, h₁, tk₁, ⟨vs, rfl, hlen, p⟩, r, I₁, X₁⟩ := p
  cases r with
  | p r =>
    refine assignTup_ok a hw hlen I₁ (E.ext X₁) r fun h' tk' I' E' X' => ?_
    exact ⟨_, _, _, _, _, _, _, p, .next, I', E', (X₁.weaken (fun _ q => nomatch q)).trans X'⟩

/-! storing an item -/
theorem setItem_exact {l : Addr} {items : List Value} {k : Int} {t : Tok} {v : Value} {s : Shared} {Q : Unit → Shared → Prop} (hl : LstAt s.heap l items) (h0 : 0 ≤ k) (hfit : k < 2 ^ 63) (hn : k < items.length)
    (hQ : ∀ h', LstAt h' l (items.set k.toNat v) → Heap.SameBut l s.heap h' → Q () { s with heap := h' }) :
    wpAny (model prog w) A (setItem (.ref l) (.int k t) v) Q NoE s := by
  obtain ⟨ne, ho⟩ := id hl
  unfold setItem
  try with_reducible refine wpAny_holding ?_
  first | refine wpAny_bind (wpAny_pure ?_) | skip
  refine wpAny_bind (wpAny_sequenceKey hl.isList.typeIs (by decide) ?_)
  refine wpAny_bind (wpAny_callSpecial?_slot (name := Str.ofString "__setitem__") hl.isList.typeIs slot_list_setitem
    (wpAny_call_entry slot_list_setitem hl.isList.typeIs entry_list_setitem ?_ (args_list_setitem _ _ _)))
  show wpAny _ _ (Builtin.List.listSubscript? (.int k t) >>= _) _ _ s
  refine wpAny_bind (wpAny_listSubscript_int (fitsIndex_of h0 hfit) ?_)
  clear hfit
  obtain ⟨j, rfl⟩ := Int.eq_ofNat_of_zero_le h0
  have hj : j < items.toArray.size := by simp; omega
  have hx' : items.toArray[j]? = some items.toArray[j] := Array.getElem?_eq_getElem hj
  show wpAny _ _ ((seqItemAt l j >>= fun r => pure (r.map (j, ·))) >>= _) _ _ s
  refine wpAny_bind (wpAny_bind (wpAny_seqItemAt ho rfl (wpAny_pure ?_)))
  rw [hx']
  show wpAny _ _ (setSeqItemAt l j v >>= _) _ _ s
  have hfin : LstAt (s.heap.update l (Obj.mapSeq (·.setIfInBounds j v))) l (items.set j v) := by
    refine ⟨ne, ?_⟩
    rw [Heap.get?_update_self (h := s.heap) (a := l) (f := Obj.mapSeq (·.setIfInBounds j v)) ho rfl]
    simp [Obj.mapSeq, lstObj]
  refine wpAny_bind (wpAny_setSeqItemAt ho rfl ?_)
  first
    | exact wpAny_bind (wpAny_pure (wpAny_pure ⟨.none, rfl, wpAny_pure (hQ _ hfin (Heap.SameBut.update ..))⟩))
    | exact wpAny_pure ⟨.none, rfl, wpAny_pure (hQ _ hfin (Heap.SameBut.update ..))⟩
theorem T1.assignSub {o i e : Expr} {spos pos : Pos} {Post : Fl → Rho → Store → Prop}
    (h : TE prog w Z ht n F e ρ μ fun v μ₁ => ∃ x, v = .p x ∧ TE prog w Z ht n F o ρ μ₁ fun l μ₂ => ∃ k, l = .m k ∧ TE prog w Z ht n F i ρ μ₂ fun j μ₃ => ∃ (idx : Int) (vs : List V), j = .p (.int idx) ∧ μ₃[k]? = some vs ∧ 0 ≤ idx ∧ idx < vs.length ∧ idx < 2 ^ 62 ∧ Post .next ρ (μ₃.set k (vs.set idx.toNat x)))
    (hs : swapsWith e (some (.Subscript o i spos)) pos.line F.env = pure false := by rfl) : T1 prog w Z ht n F (.Assign [.Subscript o i spos] e pos) ρ μ Post := by
  intro A s φ loc a I E
  refine wpAny_Assign_Subscript (wpAny_mono (h A s φ loc a I E) (fun c s₁ p => ?_) fun _ _ e => e) hs
  obtain ⟨v, μ₁, φ₁, loc₁, h₁, tk₁, ⟨x, rfl, p⟩, r, I₁, X₁⟩ := p
  refine wpAny_mono (p A _ φ₁ loc₁ a I₁ (E.ext X₁)) (fun c' s₂ q => ?_) fun _ _ e => e
  obtain ⟨v', μ₂, φ₂, loc₂, h₂, tk₂, ⟨k, rfl, p⟩, r', I₂, X₂⟩ := q
  refine wpAny_mono (p A _ φ₂ loc₂ a I₂ ((E.ext X₁).ext X₂)) (fun c'' s₃ q => ?_) fun _ _ e => e
  obtain ⟨v'', μ₃, φ₃, loc₃, h₃, tk₃, ⟨idx, vs, rfl, hm, h0, hi, hf, p⟩, r'', I₃, X₃⟩ := q
  have r3 := (r.mono X₂.mono X₂.pre).mono X₃.mono X₃.pre
  cases r'' with
  | p r'' => cases r'' with
    | int _ t =>
      cases (r'.mono X₃.mono X₃.pre) with
      | m hk =>
        cases r3 with
        | p r3 =>
          obtain ⟨items, hl, hr⟩ := I₃.lists k _ vs hk hm
          have hlen := hr.length
          refine setItem_exact hl h0 (by omega) (by omega) fun h' hl' hs' => ?_
          have kp : ∀ b o, b ≠ _ → h₃.get? b = some o → h'.get? b = some o := fun b o hb e => (hs'.2 b hb).trans e
          have I' := I₃.setl hk hl' (hr.set r3) kp
          have X' : Ext Z [] φ₃ loc₃ h₃ φ₃ loc₃ h' := Ext.setl hk (let ⟨n, e⟩ := hl'; ⟨_, e⟩) kp
          have XX := ((X₁.trans X₂).trans X₃).trans X'
          exact ⟨_, _, _, _, _, _, _, p, .next, I', E.ext XX, XX.weaken (fun _ q => nomatch q)⟩

/-! methods of lists -/
theorem gm_list {v : AV} {vs : List V} {name : Str} {id : String} (hL : IsL μ v vs) (slot : Slot "list" name id) (hty : typeOf (.builtin id) = pure (.type "method_descriptor")) : GM prog w Z ht μ v name id := by
  intro A s φ loc c pl Q I r hQ
  obtain ⟨a, items, rfl, hl, _⟩ := hL.at I r
  obtain ⟨m, ho⟩ := hl
  exact getMethod_builtin ⟨_, ho, rfl⟩ PySem.F.plainAttrs_list slot hty (fun a e => by cases e; exact ⟨_, ho, rfl⟩) hQ
theorem upd_exact {h : Heap} {l : Addr} {items items' : List Value} (hl : LstAt h l items) (f : Array Value → Array Value) (hf : f items.toArray = items'.toArray) : LstAt (h.update l (Obj.mapSeq f)) l items' := by
  obtain ⟨m, ho⟩ := hl
  refine ⟨if (f items.toArray).size == items.toArray.size then m else m + 1, (Heap.get?_update_self (Obj.mapSeq f) ho rfl).trans ?_⟩
  simp only [Obj.mapSeq, lstObj, hf]
theorem upd_alive {h : Heap} {l : Addr} {items : List Value} (hl : LstAt h l items) : ∃ o, h.get? l = some o := let ⟨_, e⟩ := hl; ⟨_, e⟩
theorem tc_append {k : Nat} {vs : List V} {x : V} {Post : AV → Store → Prop} (hm : μ[k]? = some vs) (hz : vs.length ≤ 1000000) (h : Post (.p .none) (μ.set k (vs ++ [x]))) : TC prog w Z ht n (.builtin "list.append") [.m k, .p x] μ Post := by
  intro A s φ loc cs a I r
  cases r with
  | cons r1 r => cases r with
    | cons r2 r => cases r with
      | nil =>
        cases r1 with
        | m hk => cases r2 with
          | p r2 =>
            rename_i c l
            obtain ⟨items, hl, hr⟩ := I.lists k _ vs hk hm
            have hlen := hr.length
            obtain ⟨m, ho⟩ := id hl
            refine call_meets slot_list_append ⟨_, ho, rfl⟩ entry_list_append (args_list_append _ _) (AutoListH.list_append_list_val_0 l items.toArray m c (by show items.toArray.size ≤ 2 ^ 24; simp; omega)) ⟨ho, ?_⟩
            have hl' := upd_exact (items' := items ++ [c]) hl (fun x => x.push c) (by simp)
            have kp : ∀ b o, b ≠ l → s.heap.get? b = some o → (s.heap.update l (Obj.mapSeq fun x => x.push c)).get? b = some o := fun b o hb e => ((Heap.SameBut.update ..).2 b hb).trans e
            exact ⟨_, _, _, _, _, _, h, .p .none, I.setl hk hl' (hr.append (.cons r2 .nil)) kp, Ext.setl hk (upd_alive hl') kp⟩
theorem tc_reverse {k : Nat} {vs : List V} {Post : AV → Store → Prop} (hm : μ[k]? = some vs) (hz : vs.length ≤ 1000000) (h : Post (.p .none) (μ.set k vs.reverse)) : TC prog w Z ht n (.builtin "list.reverse") [.m k] μ Post := by
  intro A s φ loc cs a I r
  cases r with
  | cons r1 r => cases r with
    | nil =>
      cases r1 with
      | m hk =>
        rename_i l
        obtain ⟨items, hl, hr⟩ := I.lists k _ vs hk hm
        have hlen := hr.length
        obtain ⟨m, ho⟩ := id hl
        refine call_meets PySem.F.slot_list_reverse ⟨_, ho, rfl⟩ PySem.F.entry_list_reverse (PySem.F.args_list_reverse_1 _) (AutoListH.list_reverse_list_0 l items.toArray m (by show items.toArray.size ≤ 2 ^ 24; simp; omega)) ⟨ho, ?_⟩
        have hl' := upd_exact (items' := items.reverse) hl (fun x => x.reverse) (by simp)
        have kp : ∀ b o, b ≠ l → s.heap.get? b = some o → (s.heap.update l (Obj.mapSeq fun x => x.reverse)).get? b = some o := fun b o hb e => ((Heap.SameBut.update ..).2 b hb).trans e
        exact ⟨_, _, _, _, _, _, h, .p .none, I.setl hk hl' hr.reverse kp, Ext.setl hk (upd_alive hl') kp⟩
theorem RelL.snoc {φ : Frz} {vs : List V} {x : V} {cs : List Value} (h : RelL φ (vs ++ [x]) cs) : ∃ ds d, cs = ds ++ [d] ∧ RelL φ vs ds ∧ Rel φ x d := by
  induction vs generalizing cs with
  | nil => cases h with
    | cons a b => cases b; exact ⟨[], _, rfl, .nil, a⟩
  | cons v vs ih => cases h with
    | cons a b =>
      obtain ⟨ds, d, rfl, h1, h2⟩ := ih b
      exact ⟨_ :: ds, d, rfl, .cons a h1, h2⟩
theorem tc_pop {k : Nat} {vs : List V} {x : V} {Post : AV → Store → Prop} (hm : μ[k]? = some (vs ++ [x])) (hz : vs.length ≤ 1000000) (h : Post (.p x) (μ.set k vs)) : TC prog w Z ht n (.builtin "list.pop") [.m k] μ Post := by
  intro A s φ loc cs a I r
  cases r with
  | cons r1 r => cases r with
    | nil =>
      cases r1 with
      | m hk =>
        rename_i l
        obtain ⟨items, hl, hr⟩ := I.lists k _ _ hk hm
        obtain ⟨ds, d, rfl, hr1, hr2⟩ := hr.snoc
        have hlen := hr1.length
        obtain ⟨m, ho⟩ := id hl
        have hkk : (ds ++ [d]).toArray.size - 1 = ds.length := by simp
        refine call_meets PySem.F.slot_list_pop ⟨_, ho, rfl⟩ PySem.F.entry_list_pop (PySem.F.args_list_pop_1 _) (PySem.MeetsSeq.list_pop_last l _ m d (by rw [hkk]; simp) (by show (ds ++ [d]).toArray.size ≤ 2 ^ 24; simp; omega)) ⟨ho, ?_⟩
        have hl' := upd_exact (items' := ds) hl (fun xs => xs.eraseIdxIfInBounds ((ds ++ [d]).toArray.size - 1)) (by rw [hkk, kl_erase, List.append_nil])
        have kp : ∀ b o, b ≠ l → s.heap.get? b = some o → (s.heap.update l (Obj.mapSeq fun xs => xs.eraseIdxIfInBounds ((ds ++ [d]).toArray.size - 1))).get? b = some o := fun b o hb e => ((Heap.SameBut.update ..).2 b hb).trans e
        exact ⟨_, _, _, _, _, _, h, .p hr2, I.setl hk hl' hr1 kp, Ext.setl hk (upd_alive hl') kp⟩
end

/-! a comprehension's block -/
def clGo (cells : List (Str × Addr)) : List (Str × NameKind) → List (Str × Addr) → List (Str × Addr)
  | [], acc => acc
  | (x, k) :: r, acc => clGo cells r (if k == .free then (x, (cells.lookup x).getD 0) :: acc else acc)
theorem closure_eq {scope : Scope} {env : Env} (h : ∀ p ∈ scope.names, p.2 = .free → (env.cells.lookup p.1).isSome = true) : closureFor scope env = pure (clGo env.cells scope.names []) := by
  unfold closureFor
  have key : ∀ (l : List (Str × NameKind)) (acc : List (Str × Addr)), (∀ p ∈ l, p.2 = .free → (env.cells.lookup p.1).isSome = true) →
      forIn l acc (fun (x : Str × NameKind) (r : List (Str × Addr)) => if (x.2 == NameKind.free) = true then (do let a ← cellOf env x.1; pure (ForInStep.yield ((x.1, a) :: r))) else pure (ForInStep.yield r)) = (pure (clGo env.cells l acc) : Sem (List (Str × Addr))) := by
    intro l
    induction l with
    | nil => intro acc _; rfl
    | cons p l ih =>
      intro acc hl
      obtain ⟨x, k⟩ := p
      rw [List.forIn_cons]
      have ih' := fun acc => ih acc (fun p hp => hl p (List.mem_cons_of_mem _ hp))
      by_cases hk : k = .free
      · subst hk
        obtain ⟨c, hc⟩ := Option.isSome_iff_exists.mp (hl (x, .free) List.mem_cons_self rfl)
        have e1 : (NameKind.free == NameKind.free) = true := by decide
        have e2 : cellOf env x = pure c := by unfold cellOf; rw [hc]
        simp only [e1, if_true, e2, pure_bind]
        rw [ih']
        show _ = pure (clGo env.cells l (if (NameKind.free == NameKind.free) = true then (x, (env.cells.lookup x).getD 0) :: acc else acc))
        rw [if_pos e1, hc]
        try rfl
      · have e1 : (k == NameKind.free) = false := by simpa using hk
        simp only [e1, Bool.false_eq_true, if_false, pure_bind]
        rw [ih']
        show _ = pure (clGo env.cells l (if (k == NameKind.free) = true then _ else acc))
        rw [e1]; rfl
  have := key scope.names [] h
  simpa using this
theorem clGo_sound {cells : List (Str × Addr)} : ∀ (l : List (Str × NameKind)) (acc : List (Str × Addr)), (∀ p ∈ l, p.2 = .free → (cells.lookup p.1).isSome = true) → (∀ z d, acc.lookup z = some d → cells.lookup z = some d) →
    ∀ y c, (clGo cells l acc).lookup y = some c → cells.lookup y = some c
  | [], acc, _, h, y, c, e => h y c e
  | (x, k) :: l, acc, hl, h, y, c, e => by
    unfold clGo at e
    refine clGo_sound l _ (fun p hp => hl p (List.mem_cons_of_mem _ hp)) ?_ y c e
    intro z d hz
    split at hz
    · rename_i hk
      have hk' : k = .free := by simpa using hk
      obtain ⟨c', hc'⟩ := Option.isSome_iff_exists.mp (hl (x, k) List.mem_cons_self hk')
      rw [List.lookup_cons] at hz
      split at hz
      · rename_i hzx
        cases hz
        rw [beq_iff_eq.mp hzx, hc']; rfl
      · exact h z d hz
    · exact h z d hz
theorem clGo_keep {cells : List (Str × Addr)} : ∀ (l : List (Str × NameKind)) (acc : List (Str × Addr)) {y : Str}, (acc.lookup y).isSome = true → ((clGo cells l acc).lookup y).isSome = true
  | [], acc, y, h => h
  | (x, k) :: l, acc, y, h => by
    unfold clGo
    refine clGo_keep l _ ?_
    split
    · rw [List.lookup_cons]
      split
      · rfl
      · exact h
    · exact h
theorem clGo_has {cells : List (Str × Addr)} : ∀ (l : List (Str × NameKind)) (acc : List (Str × Addr)) {y : Str}, (y, NameKind.free) ∈ l → ((clGo cells l acc).lookup y).isSome = true
  | (x, k) :: l, acc, y, h => by
    unfold clGo
    rcases List.mem_cons.mp h with e | h
    · cases e
      refine clGo_keep l _ ?_
      rw [if_pos (by decide), List.lookup_cons]
      simp
    · exact clGo_has l _ h
theorem cellsFrom_append : ∀ (names : List (Str × NameKind)) (n : Nat) (acc acc' : List (Str × Addr)), cellsFrom n names (acc ++ acc') = cellsFrom n names acc ++ acc'
  | [], _, _, _ => rfl
  | (x, k) :: r, n, acc, acc' => by
    unfold cellsFrom
    split
    · exact cellsFrom_append r (n + 1) ((x, n) :: acc) acc'
    · exact cellsFrom_append r n acc acc'
theorem lookup_append {α : Type} : ∀ (l r : List (Str × α)) (x : Str), (l ++ r).lookup x = match l.lookup x with | some c => some c | none => r.lookup x
  | [], r, x => rfl
  | (y, d) :: l, r, x => by
    rw [List.cons_append, List.lookup_cons, List.lookup_cons]
    cases hxy : x == y with
    | true => rfl
    | false => exact lookup_append l r x

def mask (scope : Scope) (ρ : Rho) : Rho := fun y => match scope.names.lookup y with
  | some .free => ρ y
  | _ => none
def compF (scope : Scope) (F : Fm) (C : Addr) : Fm :=
  ⟨compEnvC scope (cellsFrom (C + 1) scope.names (clGo F.env.cells scope.names [])) C F.env, C :: ownW (cellsFrom (C + 1) scope.names []) scope.names, ownC scope.names⟩

theorem relabel_lookup {env : Env} : ∀ (names : List (Str × NameKind)) (x : Str) (k : NameKind), (names.map fun (p : Str × NameKind) => if (p.2 == NameKind.free && env.scope.kind == .function && env.kindOf p.1 == some .cell) then (p.1, NameKind.cell) else (p.1, p.2)).lookup x = some k →
    names.lookup x = some k ∨ (names.lookup x = some .free ∧ k = .cell)
  | [], x, k, h => by cases h
  | (y, k') :: r, x, k, h => by
    rw [List.map_cons] at h
    rw [List.lookup_cons]
    have e : ∀ (b : Bool), (if b = true then (y, NameKind.cell) else (y, k') : Str × NameKind).1 = y := by intro b; cases b <;> rfl
    generalize hb : (k' == NameKind.free && env.scope.kind == .function && env.kindOf y == some .cell) = b at h
    cases hx : x == y with
    | true =>
      cases b with
      | false =>
        simp only [Bool.false_eq_true, if_false, List.lookup_cons, hx] at h
        exact .inl h
      | true =>
        simp only [if_true, List.lookup_cons, hx] at h
        simp only [Bool.and_eq_true, beq_iff_eq] at hb
        cases h
        exact .inr ⟨by rw [hb.1.1], rfl⟩
    | false =>
      refine relabel_lookup (env := env) r x k ?_
      cases b <;> simpa [List.lookup_cons, hx] using h
theorem compF_kind {scope : Scope} {F : Fm} {C : Addr} {x : Str} {k : NameKind} (h : (compF scope F C).env.kindOf x = some k) : scope.names.lookup x = some k ∨ (scope.names.lookup x = some .free ∧ k = .cell) :=
  relabel_lookup (env := F.env) scope.names x k h
theorem compF_local {scope : Scope} {F : Fm} {C : Addr} {x : Str} (h : scope.names.lookup x = some .local) : (compF scope F C).env.kindOf x = some .local := lookup_relabel_local (env := F.env) h
theorem relabel_keep {env : Env} : ∀ (names : List (Str × NameKind)) (x : Str) (k : NameKind), k ≠ .free → names.lookup x = some k → (names.map fun (p : Str × NameKind) => if (p.2 == NameKind.free && env.scope.kind == .function && env.kindOf p.1 == some .cell) then (p.1, NameKind.cell) else (p.1, p.2)).lookup x = some k
  | [], x, k, _, h => by cases h
  | (y, k') :: r, x, k, hk, h => by
    rw [List.map_cons]
    rw [List.lookup_cons] at h
    generalize hb : (k' == NameKind.free && env.scope.kind == .function && env.kindOf y == some .cell) = b
    cases hx : x == y with
    | true =>
      rw [hx] at h
      cases h
      cases b with
      | false => simp [List.lookup_cons, hx]
      | true =>
        simp only [Bool.and_eq_true, beq_iff_eq] at hb
        exact absurd hb.1.1 hk
    | false =>
      rw [hx] at h
      have := relabel_keep (env := env) r x k hk h
      cases b <;> simpa [List.lookup_cons, hx] using this

/-- what a look at the block's names shows -/
structure ScopeOk (scope : Scope) (F : Fm) : Prop where
  kind : scope.kind = .function
  cap : ∀ p ∈ scope.names, p.2 = .free → (F.env.cells.lookup p.1).isSome = true ∧ (F.env.kindOf p.1 = some .cell ∨ F.env.kindOf p.1 = some .free)
  own : ∀ p ∈ scope.names, p.2 = .cell → scope.names.lookup p.1 = some .cell
  loc : ∀ x ∈ scope.names, x.2 = .local → scope.names.lookup x.1 = some .local
theorem ScopeOk.of {scope : Scope} {F : Fm} (h1 : scope.kind = .function)
    (h2 : (scope.names.all fun p => p.2 != .free || ((F.env.cells.lookup p.1).isSome && (F.env.kindOf p.1 == some .cell || F.env.kindOf p.1 == some .free))) = true)
    (h3 : (scope.names.all fun p => p.2 != .cell || scope.names.lookup p.1 == some .cell) = true)
    (h4 : (scope.names.all fun p => p.2 != .local || scope.names.lookup p.1 == some .local) = true) : ScopeOk scope F where
  kind := h1
  cap := fun p hp hk => by
    have := List.all_eq_true.mp h2 p hp
    rw [hk] at this
    simp only [bne_self_eq_false, Bool.false_or, Bool.and_eq_true, Bool.or_eq_true, beq_iff_eq] at this
    exact this
  own := fun p hp hk => by
    have := List.all_eq_true.mp h3 p hp
    rw [hk] at this
    simpa using this
  loc := fun p hp hk => by
    have := List.all_eq_true.mp h4 p hp
    rw [hk] at this
    simpa using this

section
variable {prog : Program} {w : World} {Z : Tb} {ht : Heap} {n : Nat} {F : Fm} {ρ : Rho} {μ : Store} {A : Around}

theorem newCompEnv {M : Model} {E : Value → Shared → Prop} {s : Shared} {scope : Scope} {cl : List (Str × Addr)} {env : Env} {Q : Env → Shared → Prop}
    (h : Q { scope := scope, locals := s.heap.objs.size, globals := env.globals, cells := cellsFrom (s.heap.objs.size + 1) scope.names cl, qual := env.qual, func := none, code := env.code, frame := env.frame, builtins := env.builtins }
      { s with heap := pushCells (s.heap.push { cls := .type "dict", data := .dict #[] }) scope.names }) :
    wpAny M A (newFunctionEnv scope env.globals cl [] env.qual none .none (some env)) Q E s := by
  simp only [newFunctionEnv, Option.isSome_some, if_true]
  refine wpAny_bind (wpAny_alloc ?_)
  refine wpAny_bind (wpAny_layCells _ (fun name kind cells => by cases hkc : kind == NameKind.cell <;> simp [hkc]) _ _ _ _ ?_)
  rw [show ({ s with heap := s.heap.push { cls := .type "dict", data := .dict #[] } } : Shared).heap.objs.size = s.heap.objs.size + 1 from Heap.size_push ..]
  refine wpAny_bind ?_
  rw [List.forIn_nil]
  exact wpAny_pure (wpAny_pure h)

theorem compEnv_ok {scope : Scope} {φ : Frz} {loc : Locs} {h : Heap} (S : ScopeOk scope F) (I : InvG Z ht μ φ loc h) (E : EnvOk Z F ρ φ loc h) :
    let h' := pushCells (h.push { cls := .type "dict", data := .dict #[] }) scope.names
    EnvOk Z (compF scope F h.objs.size) (mask scope ρ) φ loc h' ∧ (∀ b o, h.get? b = some o → h'.get? b = some o) ∧ (∀ a ∈ (compF scope F h.objs.size).W, h.get? a = none) ∧
    (∀ x c, (compF scope F h.objs.size).env.cells.lookup x = some c → h.get? c = none ∨ ∃ y, F.env.cells.lookup y = some c) := by
  intro h'
  have kp : ∀ b o, h.get? b = some o → h'.get? b = some o := fun b o e => pushCells_keeps _ _ b o (Heap.get?_push_of_some _ e)
  have ok := cellsFrom_ok scope.names (h.push { cls := .type "dict", data := .dict #[] }) (h.objs.size + 1) [] ⟨fun _ _ hm => (nomatch hm), List.Pairwise.nil⟩ (by rw [Heap.size_push]; exact Nat.le_refl _)
  rw [Heap.size_push] at ok
  have dead : ∀ c, h.objs.size ≤ c → h.get? c = none := fun c hc => by
    cases q : h.get? c with
    | none => rfl
    | some o => exact absurd (Heap.lt_size q) (Nat.not_lt.mpr hc)
  have hcells : (compF scope F h.objs.size).env.cells = cellsFrom (h.objs.size + 1) scope.names [] ++ clGo F.env.cells scope.names [] := cellsFrom_append scope.names _ [] _
  have cap' : ∀ p ∈ scope.names, p.2 = .free → (F.env.cells.lookup p.1).isSome = true := fun p hp hk => (S.cap p hp hk).1
  have hlook : ∀ x c, (compF scope F h.objs.size).env.cells.lookup x = some c → ((cellsFrom (h.objs.size + 1) scope.names []).lookup x = some c ∧ (x, NameKind.cell) ∈ scope.names) ∨ ((cellsFrom (h.objs.size + 1) scope.names []).lookup x = none ∧ F.env.cells.lookup x = some c) := by
    intro x c hc
    rw [hcells, lookup_append] at hc
    cases hq : (cellsFrom (h.objs.size + 1) scope.names []).lookup x with
    | some c' =>
      rw [hq] at hc; cases hc
      refine .inl ⟨rfl, ?_⟩
      rcases cells_mem scope.names _ [] (mem_of_lookup hq) with q | q
      · cases q
      · exact q
    | none =>
      rw [hq] at hc
      exact .inr ⟨rfl, clGo_sound scope.names [] cap' (fun _ _ e => by cases e) x c hc⟩
  have hown : ∀ x c, (cellsFrom (h.objs.size + 1) scope.names []).lookup x = some c → h'.IsCell c none ∧ h.objs.size + 1 ≤ c := fun x c hc => ok.empty x c (mem_of_lookup hc)
  have hW : ∀ a ∈ (compF scope F h.objs.size).W, h.get? a = none := by
    intro a ha
    rcases List.mem_cons.mp ha with rfl | ha
    · exact dead _ (Nat.le_refl _)
    · obtain ⟨y, _, hy⟩ := mem_ownW ha
      exact dead _ (Nat.le_of_succ_le (hown y a hy).2)
  refine ⟨⟨S.kind, E.glob, E.blt, fun a ha => ?_, List.mem_cons_self, ⟨fun _ => none, (Heap.Ns.new h (.type "dict")).keeps (pushCells_keeps _ _), fun x v hk hv => ?_⟩, fun x v hk hv => ?_, fun x hx => ?_, fun x y c h1 h2 => ?_, fun x c h1 => ?_, fun x c h1 => ?_⟩, kp, hW, fun x c hc => ?_⟩
  · have hd := hW a ha
    refine ⟨I.dead hd, not_loc I hd, not_tab I hd, ?_⟩
    rcases List.mem_cons.mp ha with rfl | ha
    · obtain ⟨o, _, _, ho, _⟩ := (Heap.Ns.new h (.type "dict")).keeps (pushCells_keeps scope.names _)
      exact ⟨o, ho⟩
    · obtain ⟨y, _, hy⟩ := mem_ownW ha
      obtain ⟨o, ho, _⟩ := (hown y a hy).1
      exact ⟨o, ho⟩
  · exfalso
    unfold mask at hv
    rcases compF_kind hk with q | ⟨_, q⟩
    · rw [q] at hv; cases hv
    · cases q
  · unfold mask at hv
    cases hl : scope.names.lookup x with
    | none => rw [hl] at hv; cases hv
    | some k =>
      rw [hl] at hv
      cases k with
      | free =>
        obtain ⟨hs, hkk⟩ := S.cap _ (mem_of_lookup hl) rfl
        obtain ⟨c, cv, h1, ⟨o, ho, hd⟩, h3⟩ := E.cell x v hkk hv
        refine ⟨c, cv, ?_, ⟨o, kp _ _ ho, hd⟩, h3⟩
        rw [hcells, lookup_append]
        cases hq : (cellsFrom (h.objs.size + 1) scope.names []).lookup x with
        | some c' =>
          exfalso
          rcases cells_mem scope.names _ [] (mem_of_lookup hq) with q | q
          · cases q
          · have := S.own _ q rfl
            rw [hl] at this; cases this
        | none =>
          obtain ⟨c', hc'⟩ := Option.isSome_iff_exists.mp (clGo_has (cells := F.env.cells) scope.names [] (mem_of_lookup hl))
          rw [hc']
          have := clGo_sound scope.names [] cap' (fun _ _ e => by cases e) x c' hc'
          rw [h1] at this; cases this; rfl
      | _ => cases hv
  · have hm := mem_ownC hx
    have hk' := S.own _ hm rfl
    obtain ⟨c, hc⟩ := cells_has scope.names (h.objs.size + 1) [] hm
    obtain ⟨c', hc'⟩ := Option.isSome_iff_exists.mp (lookup_some_of_mem hc)
    refine ⟨relabel_keep (env := F.env) scope.names x .cell (by decide) hk', c', none, ?_, List.mem_cons_of_mem _ (ownW_mem hm hc'), (hown x c' hc').1⟩
    rw [hcells, lookup_append, hc']
  · rcases hlook x c h1 with ⟨a1, _⟩ | ⟨_, a1⟩ <;> rcases hlook y c h2 with ⟨b1, _⟩ | ⟨_, b1⟩
    · exact name_of_addr ok.apart (mem_of_lookup a1) (mem_of_lookup b1)
    · exfalso
      obtain ⟨_, _, o, ho⟩ := E.coff y c b1
      exact absurd (Heap.lt_size ho) (Nat.not_lt.mpr (Nat.le_of_succ_le (hown x c a1).2))
    · exfalso
      obtain ⟨_, _, o, ho⟩ := E.coff x c a1
      exact absurd (Heap.lt_size ho) (Nat.not_lt.mpr (Nat.le_of_succ_le (hown y c b1).2))
    · exact E.inj x y c a1 b1
  · show c ≠ h.objs.size
    rcases hlook x c h1 with ⟨a1, _⟩ | ⟨_, a1⟩
    · exact Nat.ne_of_gt (hown x c a1).2
    · obtain ⟨_, _, o, ho⟩ := E.coff x c a1
      exact Nat.ne_of_lt (Heap.lt_size ho)
  · rcases hlook x c h1 with ⟨a1, _⟩ | ⟨_, a1⟩
    · have hd := dead c (Nat.le_of_succ_le (hown x c a1).2)
      obtain ⟨o, ho, _⟩ := (hown x c a1).1
      exact ⟨not_loc I hd, not_tab I hd, o, ho⟩
    · obtain ⟨a2, a3, o, ho⟩ := E.coff x c a1
      exact ⟨a2, a3, o, kp _ _ ho⟩
  · rcases hlook x c hc with ⟨a1, _⟩ | ⟨_, a1⟩
    · exact .inl (dead c (Nat.le_of_succ_le (hown x c a1).2))
    · exact .inr ⟨x, a1⟩
end

inductive Tgt where
  | name (x : Str) (p : Pos)
  | tup (l : List (Str × Pos)) (k : Nat) (p : Pos)
def Tgt.e : Tgt → Expr
  | .name x p => .Name x p
  | .tup l k p => .Tuple (nameElts l) k p
def Tgt.ρ : Tgt → Rho → V → Rho
  | .name x _, ρ, v => upd ρ x (.p v)
  | .tup l _ _, ρ, v => match v with
    | .tup vs => updAll ρ l vs
    | _ => ρ
def Tgt.ok : Tgt → V → Prop
  | .name _ _, _ => True
  | .tup l _ _, v => ∃ vs, v = .tup vs ∧ l.length = vs.length
def Tgt.w (F : Fm) : Tgt → Prop
  | .name x _ => F.env.kindOf x = some .local ∨ x ∈ F.wc
  | .tup l _ _ => Writable F l

section
variable {prog : Program} {w : World} {Z : Tb} {ht : Heap} {n : Nat} {F : Fm} {ρ : Rho} {μ : Store} {A : Around}

theorem assign_tgt {t : Tgt} {v : V} {c : Value} {s : Shared} {φ : Frz} {loc : Locs} (a : AOk A n) (hw : t.w F) (hok : t.ok v) (I : InvG Z ht μ φ loc s.heap) (E : EnvOk Z F ρ φ loc s.heap) (r : Rel φ v c)
    {Q : Unit → Shared → Prop} (hQ : ∀ h' tk', InvG Z ht μ φ loc h' → EnvOk Z F (t.ρ ρ v) φ loc h' → Ext Z F.W φ loc s.heap φ loc h' → Q () { s with heap := h', toks := tk' }) :
    wpAny (model prog w) A (assign t.e F.env c) Q NoE s := by
  cases t with
  | name x p =>
    show wpAny _ A (standAt p >>= fun _ => bindName F.env x c) _ _ s
    exact wpAny_bind (wpAny_standAt (wpAny_bindName (store_ok I E (.p r) hw hQ)))
  | tup l k p =>
    obtain ⟨vs, rfl, hlen⟩ := hok
    exact assignTup_ok a hw hlen I E r hQ
theorem owned_tgt {t : Tgt} {it : Addr} {c : Value} {o : Obj} {s : Shared} {Q : Unit → Shared → Prop} {E : Value → Shared → Prop} (ho : s.heap.get? it = some o) (hc : ∃ T, o.cls = .type T ∧ (ownT.contains T) = false) (h : Q () s) :
    wpAny (model prog w) A (letOwnedTupleGo t.e (.ref it) c) Q E s := by
  cases t with
  | name x p => exact wpAny_pure h
  | tup l k p =>
    obtain ⟨T, hT, hn⟩ := hc
    show wpAny _ A (letOwnedTupleGo (.Tuple (nameElts l) k p) (.ref it) c) Q E s
    unfold letOwnedTupleGo
    cases c with
    | ref a =>
      refine wpAny_bind (wpAny_load ho ?_)
      obtain ⟨cls, dd, dt, sl⟩ := o
      simp only at hT
      subst hT
      cases dt with
      | fields vs =>
        have : (["enumerate", "zip", "dict_itemiterator", "dict_reverseitemiterator", "odict_iterator", "itertools.zip_longest", "itertools.pairwise"].contains T) = false := hn
        simp only [this, Bool.false_and, Bool.false_eq_true, if_false]
        exact wpAny_pure h
      | _ => exact wpAny_pure h
    | _ => exact wpAny_pure h

def StepOk (prog : Program) (w : World) (Z : Tb) (ht : Heap) (n : Nat) (F : Fm) (ifs : List Expr) (elt : Expr) (ρ : Rho) (μ : Store) (r : Option V) : Prop := match ifs with
  | [] => TE prog w Z ht n F elt ρ μ fun v μ' => μ' = μ ∧ ∃ y, v = .p y ∧ r = some y
  | [c] => TB prog w Z ht n F c ρ μ fun b μ' => μ' = μ ∧ match b with
    | true => TE prog w Z ht n F elt ρ μ fun v μ' => μ' = μ ∧ ∃ y, v = .p y ∧ r = some y
    | false => r = none
  | _ => False

theorem ext_same {X : List Addr} {φ φ' : Frz} {loc loc' : Locs} {h h' : Heap} {μ' : Store} (I : InvG Z ht μ φ loc h) (I' : InvG Z ht μ' φ' loc' h') (x : Ext Z X φ loc h φ' loc' h') (e : μ' = μ) : loc' = loc := by
  subst e
  obtain ⟨r, rfl⟩ := x.pre
  have h1 := I.len
  have h2 := I'.len
  simp at h2
  have : r = [] := List.eq_nil_of_length_eq_zero (by omega)
  rw [this, List.append_nil]

/-- what stands behind an element -/
inductive Emitted (Z : Tb) (ht : Heap) (F : Fm) (ρ : Rho) (μ : Store) (φ : Frz) (loc : Locs) (s : Shared) (D : Addr) (rs : List V) : Shared → Prop
  | of (φ' : Frz) (h' : Heap) (tk' : Nat) (I : InvG Z ht μ φ' loc h') (e : EnvOk Z F ρ φ' loc h') (l : ∃ items, LstAt h' D items ∧ RelL φ' rs items) (x : Ext Z [D] φ loc s.heap φ' loc h') (f : φ' D = none) : Emitted Z ht F ρ μ φ loc s D rs { s with heap := h', toks := tk' }
theorem elt_ok {elt : Expr} {D : Addr} {rs : List V} {y : V} {s : Shared} {φ : Frz} {loc : Locs} (a : AOk A n) (I : InvG Z ht μ φ loc s.heap) (E : EnvOk Z F ρ φ loc s.heap) (hl : ∃ items, LstAt s.heap D items ∧ RelL φ rs items) (hz : rs.length ≤ 1000000)
    (hD : φ D = none ∧ D ∉ loc ∧ D ∉ Z.tabs ∧ D ∉ F.W ∧ ∀ x c, F.env.cells.lookup x = some c → c ≠ D)
    (h : TE prog w Z ht n F elt ρ μ fun v μ' => μ' = μ ∧ ∃ z, v = .p z ∧ some y = some z) :
    wpAny (model prog w) A (eval elt F.env) (fun x s₄ => wpAny (model prog w) A (call (.builtin "list.append") [.ref D, x]) (fun _ s₅ => Emitted Z ht F ρ μ φ loc s D (rs ++ [y]) s₅) NoE s₄) NoE s := by
  obtain ⟨items, ⟨m0, hl0⟩, hr⟩ := hl
  refine wpAny_mono (h A s φ loc a I E) (fun c s₁ p => ?_) fun _ _ e => e
  obtain ⟨v, μ₁, φ₁, loc₁, h₁, tk₁, ⟨rfl, z, rfl, hz'⟩, r, I₁, X₁⟩ := p
  cases hz'
  have e := ext_same I I₁ X₁ rfl
  subst e
  obtain ⟨d1, d2, d3, d4, d5⟩ := hD
  have hl1 : h₁.get? D = some (lstObj items m0) := X₁.keep _ _ d2 d3 (fun q => nomatch q) hl0
  have hlen := hr.length
  cases r with
  | p r =>
    refine call_meets slot_list_append ⟨_, hl1, rfl⟩ entry_list_append (args_list_append _ _) (AutoListH.list_append_list_val_0 D items.toArray m0 c (by show items.toArray.size ≤ 2 ^ 24; simp; omega)) ⟨hl1, ?_⟩
    have hl' := upd_exact (items' := items ++ [c]) ⟨m0, hl1⟩ (fun x => x.push c) (by simp)
    have kp : ∀ b o, b ≠ D → h₁.get? b = some o → (h₁.update D (Obj.mapSeq fun x => x.push c)).get? b = some o := fun b o hb e => ((Heap.SameBut.update ..).2 b hb).trans e
    have hφD := X₁.offφ d1 hl0
    refine ⟨φ₁, _, _, I₁.but kp hφD d2 d3, (E.ext X₁).but kp d4 d5, ⟨_, hl', (hr.mono X₁.mono).append (.cons r .nil)⟩, (X₁.weaken (fun _ q => nomatch q)).trans (Ext.but kp (fun o _ => upd_alive hl') (.inl List.mem_cons_self)), hφD⟩
theorem emit_ok {ifs : List Expr} {elt : Expr} {D : Addr} {rs : List V} {r : Option V} {s : Shared} {φ : Frz} {loc : Locs} (a : AOk A n) (I : InvG Z ht μ φ loc s.heap) (E : EnvOk Z F ρ φ loc s.heap) (hl : ∃ items, LstAt s.heap D items ∧ RelL φ rs items) (hz : rs.length ≤ 1000000)
    (hD : φ D = none ∧ D ∉ loc ∧ D ∉ Z.tabs ∧ D ∉ F.W ∧ ∀ x c, F.env.cells.lookup x = some c → c ≠ D)
    (h : StepOk prog w Z ht n F ifs elt ρ μ r) :
    wpAny (model prog w) A (forIn ifs true fun c r => if r = true then do let ok ← isTrue c F.env (eval c F.env); pure (ForInStep.yield ok) else pure (ForInStep.yield r)) (fun ok s₃ =>
      if ok = true then wpAny (model prog w) A (eval elt F.env) (fun x s₄ => wpAny (model prog w) A (call (.builtin "list.append") [.ref D, x]) (fun _ s₅ => Emitted Z ht F ρ μ φ loc s D (rs ++ r.toList) s₅) NoE s₄) NoE s₃
      else Emitted Z ht F ρ μ φ loc s D (rs ++ r.toList) s₃) NoE s := by
  match ifs, h with
  | [], h =>
    refine wpAny_tests_nil ?_
    simp only [if_true]
    cases r with
    | none =>
      refine wpAny_mono (h A s φ loc a I E) (fun c s₁ p => ?_) fun _ _ e => e
      obtain ⟨v, μ₁, φ₁, loc₁, h₁, tk₁, ⟨_, z, _, hz'⟩, _⟩ := p
      cases hz'
    | some y => exact elt_ok a I E hl hz hD h
  | [c], h =>
    refine wpAny_tests_one (wpAny_mono (h A s φ loc a I E) (fun b s₁ p => ?_) fun _ _ e => e)
    obtain ⟨b', μ₁, φ₁, loc₁, h₁, tk₁, ⟨rfl, q⟩, rfl, I₁, X₁⟩ := p
    have e := ext_same I I₁ X₁ rfl
    subst e
    obtain ⟨items, ⟨m0, hl0⟩, hr⟩ := hl
    obtain ⟨d1, d2, d3, d4, d5⟩ := hD
    have hl1 : LstAt h₁ D items := ⟨m0, X₁.keep _ _ d2 d3 (fun q => nomatch q) hl0⟩
    have hφD := X₁.offφ d1 hl0
    cases b' with
    | false =>
      simp only [Bool.false_eq_true, if_false]
      have q' : r = none := q
      subst q'
      exact ⟨φ₁, _, _, I₁, E.ext X₁, ⟨items, hl1, by simpa using hr.mono X₁.mono⟩, X₁.weaken (fun _ q => nomatch q), hφD⟩
    | true =>
      simp only [if_true]
      cases r with
      | none =>
        refine wpAny_mono (q A _ φ₁ loc₁ a I₁ (E.ext X₁)) (fun c s₁ p => ?_) fun _ _ e => e
        obtain ⟨v, μ₁, φ₁, loc₁, h₁, tk₁, ⟨_, z, _, hz'⟩, _⟩ := p
        cases hz'
      | some y =>
        refine wpAny_mono (elt_ok a I₁ (E.ext X₁) ⟨items, hl1, hr.mono X₁.mono⟩ hz ⟨hφD, d2, d3, d4, d5⟩ q) (fun c s₁ p => ?_) fun _ _ e => e
        refine wpAny_mono p (fun c s₁ p => ?_) fun _ _ e => e
        obtain ⟨φ', h', tk', I', E', hl', X', hφ'⟩ := p
        exact ⟨φ', h', tk', I', E', hl', (X₁.weaken (fun _ q => nomatch q)).trans X', hφ'⟩
  | _ :: _ :: _, h => exact h.elim

/-- the loop of one clause -/
def TurnIs (gens : List Comprehension) (d : Nat) (t : Tgt) (elt iter : Expr) (ifs : List Expr) (scope : Scope) (pos : Pos) : Prop := ∀ (it acc : Value) (env : Env),
    compTurn (.ListComp elt gens scope pos) d it acc env = (do
      standAt iter.pos
      match ← pyNext it with
      | none => pure (.done .next)
      | some v =>
        letOwnedTupleGo t.e it v
        assign t.e env v
        let mut ok := true
        for c in ifs do
          if ok then ok ← isTrue c env (eval c env)
        if ok then
          (do let _ ← call (.builtin "list.append") [acc, ← eval elt env])
        again (.compLoop (.ListComp elt gens scope pos) d it acc env))
theorem comp_loop {gens : List Comprehension} {d : Nat} {t : Tgt} {elt iter : Expr} {ifs : List Expr} {scope : Scope} {pos : Pos} {it acc : Value} {env : Env} {R : Result → Shared → Prop} {s : Shared} (hturn : TurnIs gens d t elt iter ifs scope pos) (I : Nat → Shared → Prop)
    (turn : ∀ n s, I n s → wpAny (model prog w) A (pyNext it) (fun r s₁ => match r with
      | none => R (.ok .next) s₁
      | some v => wpAny (model prog w) A (letOwnedTupleGo t.e it v) (fun _ s₁' => wpAny (model prog w) A (assign t.e env v) (fun _ s₂ =>
          wpAny (model prog w) A (forIn ifs true fun c r => if r = true then do let ok ← isTrue c env (eval c env); pure (ForInStep.yield ok) else pure (ForInStep.yield r)) (fun ok s₃ =>
            if ok = true then wpAny (model prog w) A (eval elt env) (fun x s₄ =>
              wpAny (model prog w) A (call (.builtin "list.append") [acc, x]) (fun _ s₅ => ∃ m, m < n ∧ I m s₅) NoE s₄) NoE s₃
            else ∃ m, m < n ∧ I m s₃) NoE s₂) NoE s₁') NoE s₁) NoE s)
    (n : Nat) (h : I n s) : codeAny (model prog w) A (.compLoop (.ListComp elt gens scope pos) d it acc env) R s := by
  refine codeAny_loop rfl I (fun n s hI => ?_) n h
  show wpAny _ A ((compTurn (.ListComp elt gens scope pos) d it acc env).onRaise (fun x => do noteFrame x env; theTreesLotGoes x)) _ _ s
  refine wpAny_noted ?_
  rw [hturn]
  refine wpAny_bind (wpAny_standAt (wpAny_bind (wpAny_mono (turn n s hI) (fun r s₁ h₁ => ?_) fun _ _ h' => h'.elim)))
  cases r with
  | none => exact wpAny_pure h₁
  | some v =>
    refine wpAny_bind (wpAny_mono h₁ (fun _ s₁' h₁ => ?_) fun _ _ h' => h'.elim)
    refine wpAny_bind (wpAny_mono h₁ (fun _ s₂ h₂ => wpAny_bind (wpAny_mono h₂ (fun ok s₃ h₃ => ?_) fun _ _ h' => h'.elim)) fun _ _ h' => h'.elim)
    cases ok with
    | false => exact wpAny_pure ⟨rfl, h₃⟩
    | true =>
      exact wpAny_bind (wpAny_bind (wpAny_mono h₃ (fun x s₄ h₄ => wpAny_bind (wpAny_mono h₄ (fun _ s₅ h₅ => wpAny_pure (wpAny_pure ⟨rfl, h₅⟩)) fun _ _ h' => h'.elim)) fun _ _ h' => h'.elim))

theorem Ext.transW {X Y : List Addr} {φ φ₁ φ₂ : Frz} {loc loc₁ loc₂ : Locs} {h h₁ h₂ : Heap}
    (x : Ext Z X φ loc h φ₁ loc₁ h₁) (y : Ext Z Y φ₁ loc₁ h₁ φ₂ loc₂ h₂) (hY : ∀ a ∈ Y, a ∈ X ∨ h.get? a = none) : Ext Z X φ loc h φ₂ loc₂ h₂ where
  mono := x.mono.trans y.mono
  pre := by obtain ⟨r, rfl⟩ := x.pre; obtain ⟨r', rfl⟩ := y.pre; exact ⟨r ++ r', by rw [List.append_assoc]⟩
  keep := fun b o h1 h2 h3 e => y.keep b o (fun hm => (x.newl b hm).elim h1 (fun e' => by rw [e] at e'; cases e')) h2 (fun q => by
    rcases hY b q with q | q
    · exact h3 q
    · rw [q] at e; cases e) (x.keep b o h1 h2 h3 e)
  alive := fun b o e => let ⟨o', e'⟩ := x.alive b o e; y.alive b o' e'
  newφ := fun a e => (y.newφ a e).elim (fun e => x.newφ a e) fun e => .inr (none_of_dead x.alive e)
  newl := fun a e => (y.newl a e).elim (fun e => x.newl a e) fun e => .inr (none_of_dead x.alive e)
theorem Ext.transDead {X Y : List Addr} {φ φ₁ φ₂ : Frz} {loc loc₁ loc₂ : Locs} {h h₁ h₂ : Heap}
    (x : Ext Z X φ loc h φ₁ loc₁ h₁) (y : Ext Z Y φ₁ loc₁ h₁ φ₂ loc₂ h₂) (hY : ∀ a ∈ Y, h.get? a = none) : Ext Z X φ loc h φ₂ loc₂ h₂ where
  mono := x.mono.trans y.mono
  pre := by obtain ⟨r, rfl⟩ := x.pre; obtain ⟨r', rfl⟩ := y.pre; exact ⟨r ++ r', by rw [List.append_assoc]⟩
  keep := fun b o h1 h2 h3 e => y.keep b o (fun hm => (x.newl b hm).elim h1 (fun e' => by rw [e] at e'; cases e')) h2 (fun q => by rw [hY b q] at e; cases e) (x.keep b o h1 h2 h3 e)
  alive := fun b o e => let ⟨o', e'⟩ := x.alive b o e; y.alive b o' e'
  newφ := fun a e => (y.newφ a e).elim (fun e => x.newφ a e) fun e => .inr (none_of_dead x.alive e)
  newl := fun a e => (y.newl a e).elim (fun e => x.newl a e) fun e => .inr (none_of_dead x.alive e)

theorem updAll_ext : ∀ (l : List (Str × Pos)) (vs : List V) (ρ ρ' : Rho), l.length = vs.length → (∀ y, y ∉ l.map (·.1) → ρ y = ρ' y) → updAll ρ l vs = updAll ρ' l vs
  | [], [], ρ, ρ', _, h => by
    funext y
    exact h y (by simp)
  | (x, px) :: l, v :: vs, ρ, ρ', hl, h => by
    unfold updAll
    refine updAll_ext l vs _ _ (by simpa using hl) fun y hy => ?_
    unfold upd
    by_cases q : y = x
    · rw [if_pos q, if_pos q]
    · rw [if_neg q, if_neg q]
      refine h y ?_
      rw [List.map_cons, List.mem_cons]
      rintro (r | r)
      · exact q r
      · exact hy r
theorem updAll_off : ∀ (l : List (Str × Pos)) (vs : List V) (ρ : Rho) (y : Str), y ∉ l.map (·.1) → updAll ρ l vs y = ρ y
  | [], vs, ρ, y, _ => by cases vs <;> rfl
  | (x, px) :: l, [], ρ, y, _ => rfl
  | (x, px) :: l, v :: vs, ρ, y, h => by
    rw [List.map_cons, List.mem_cons] at h
    unfold updAll
    rw [updAll_off l vs _ y (fun q => h (.inr q))]
    unfold upd
    rw [if_neg (fun q => h (.inl q))]
theorem tgt_idem {t : Tgt} {u v : V} (ρ : Rho) (hu : t.ok u) (hv : t.ok v) : t.ρ (t.ρ ρ u) v = t.ρ ρ v := by
  cases t with
  | name x p =>
    funext y
    show upd (upd ρ x (.p u)) x (.p v) y = upd ρ x (.p v) y
    unfold upd
    by_cases q : y = x
    · rw [if_pos q, if_pos q]
    · rw [if_neg q, if_neg q, if_neg q]
  | tup l k p =>
    obtain ⟨us, rfl, hlu⟩ := hu
    obtain ⟨vs, rfl, hlv⟩ := hv
    show updAll (updAll ρ l us) l vs = updAll ρ l vs
    exact updAll_ext l vs _ _ hlv fun y hy => updAll_off l us ρ y hy

inductive CompS (Z : Tb) (ht : Heap) (μ : Store) (N : Nat) (J : Nat → Heap → Prop) (F : Fm) (ro : Rho → Prop) (acc : Nat → List V) (X : List Addr) (s : Shared) (φ₀ : Frz) (loc : Locs) (h₀ : Heap) (φs : Frz) (ia D : Addr) (k : Nat) : Shared → Prop
  | of (i : Nat) (ρ₁ : Rho) (φ₁ : Frz) (h₁ : Heap) (tk₁ : Nat) (items : List Value) (e : k = N + 1 - i) (ile : i ≤ N) (j : J i h₁) (I : InvG Z ht μ φ₁ loc h₁) (en : EnvOk Z F ρ₁ φ₁ loc h₁) (hρ : ro ρ₁) (hl : LstAt h₁ D items) (hr : RelL φ₁ (acc i) items) (x : Ext Z X φ₀ loc h₀ φ₁ loc h₁)
      (le : Le φs φ₁) (fD : φ₁ D = none) (fi : φ₁ ia = none) : CompS Z ht μ N J F ro acc X s φ₀ loc h₀ φs ia D k { s with heap := h₁, toks := tk₁ }
/-- one clause, whole: from the block's start to its end -/
theorem comp_one {gens : List Comprehension} {d : Nat} {t : Tgt} {elt iter : Expr} {ifs : List Expr} {scope : Scope} {pos : Pos} {ia D : Addr} {ρc : Rho} {vs rs₀ : List V} {items₀ : List Value} {G : Store → Prop} {J : Nat → Heap → Prop} {R : Result → Shared → Prop} {s : Shared} {φ φs : Frz} {loc : Locs} {g : V → Option V} {h₀ : Heap} {φ₀ : Frz} {X : List Addr}
    (hturn : TurnIs gens d t elt iter ifs scope pos)
    (a : AOk A n) (S : Src prog w Z ht φs loc ia vs G J) (les : Le φs φ) (hG : G μ) (hJ : J 0 s.heap) (hz : rs₀.length + vs.length ≤ 1000000) (hw : t.w F) (hok : ∀ v ∈ vs, t.ok v) (hstep : ∀ v ∈ vs, StepOk prog w Z ht n F ifs elt (t.ρ ρc v) μ (g v))
    (I : InvG Z ht μ φ loc s.heap) (E : EnvOk Z F ρc φ loc s.heap) (hl : LstAt s.heap D items₀) (hr : RelL φ rs₀ items₀)
    (hD : φ D = none ∧ D ∉ loc ∧ D ∉ Z.tabs ∧ D ∉ F.W ∧ ∀ x c, F.env.cells.lookup x = some c → c ≠ D)
    (hi : φ ia = none ∧ ia ∉ loc ∧ ia ∉ Z.tabs ∧ ia ∉ F.W ∧ ia ≠ D ∧ ∀ x c, F.env.cells.lookup x = some c → c ≠ ia)
    (hd : h₀.get? ia = none ∧ (D ∈ X ∨ h₀.get? D = none) ∧ ∀ b ∈ F.W, b ∈ X ∨ h₀.get? b = none) (X₀ : Ext Z X φ₀ loc h₀ φ loc s.heap)
    (hR : ∀ φ' h' tk' items ρ', InvG Z ht μ φ' loc h' → EnvOk Z F ρ' φ' loc h' → (ρ' = ρc ∨ ∃ u, t.ok u ∧ ρ' = t.ρ ρc u) → LstAt h' D items → RelL φ' (rs₀ ++ vs.filterMap g) items → Ext Z X φ₀ loc h₀ φ' loc h' → φ' D = none → R (.ok .next) { s with heap := h', toks := tk' }) :
    codeAny (model prog w) A (.compLoop (.ListComp elt gens scope pos) d (.ref ia) (.ref D) F.env) R s := by
  obtain ⟨i1, i2, i3, i4, i5, i6⟩ := hi
  obtain ⟨d1, d2, d3, d4, d5⟩ := hD
  refine comp_loop hturn (I := CompS Z ht μ vs.length J F (fun ρ₁ => ρ₁ = ρc ∨ ∃ u, t.ok u ∧ ρ₁ = t.ρ ρc u) (fun i => rs₀ ++ (vs.take i).filterMap g) X s φ₀ loc h₀ φs ia D) (fun k s₁ hI => ?_) (vs.length + 1)
    ⟨0, ρc, φ, s.heap, s.toks, items₀, rfl, Nat.zero_le _, hJ, I, E, .inl rfl, hl, by simpa using hr, X₀, les, d1, i1⟩
  obtain ⟨i, ρ₁, φ₁, h₁, tk₁, items, rfl, hile, hJ₁, I₁, E₁, hρ, hl₁, hr₁, X₁, le₁, hφD, hφi⟩ := hI
  have hρ' : ∀ v, t.ok v → t.ρ ρ₁ v = t.ρ ρc v := by
    intro v hv
    rcases hρ with rfl | ⟨u, hu, rfl⟩
    · rfl
    · exact tgt_idem ρc hu hv
  cases hv : vs[i]? with
  | none =>
    have hin : i = vs.length := by
      have := List.getElem?_eq_none_iff.mp hv
      omega
    subst hin
    rw [List.take_length] at hr₁
    refine S.stop A _ φ₁ loc μ _ _ a.handled I₁ le₁ ⟨[], by simp⟩ hG hJ₁ hv fun h₂ tk₂ kp => ?_
    obtain ⟨m0, hl0⟩ := hl₁
    exact hR φ₁ h₂ tk₂ items ρ₁ (I₁.but kp hφi i2 i3) (E₁.but kp i4 i6) hρ ⟨m0, kp _ _ (Ne.symm i5) hl0⟩ hr₁ (X₁.step kp hd.1) hφD
  | some v =>
    have hlt := (List.getElem?_eq_some_iff.mp hv).1
    have hmem : v ∈ vs := List.mem_of_getElem? hv
    refine S.next A _ φ₁ loc μ i v _ a.handled I₁ le₁ ⟨[], by simp⟩ hG hJ₁ hv fun cv h₂ tk₂ hr hJ₂ kp => ?_
    · · skip
        obtain ⟨oi, hoi⟩ := S.alive _ _ hJ₂
        refine owned_tgt (s := { s with heap := h₂, toks := tk₂ }) hoi (S.cls _ _ _ hJ₂ hoi) ?_
        have I₂ := I₁.but kp hφi i2 i3
        have E₂ := E₁.but kp i4 i6
        have X₂ := X₁.step kp hd.1
        have hl₂ : LstAt h₂ D items := let ⟨m0, hl0⟩ := hl₁; ⟨m0, kp _ _ (Ne.symm i5) hl0⟩
        refine assign_tgt (s := { s with heap := h₂, toks := tk₂ }) a hw (hok v hmem) I₂ E₂ hr fun h₃ tk₃ I₃ E₃ X₃ => ?_
        rw [hρ' v (hok v hmem)] at E₃
        have hl₃ : LstAt h₃ D items := let ⟨m0, hl0⟩ := hl₂; ⟨m0, X₃.keep _ _ d2 d3 d4 hl0⟩
        have hJ₃ : J (i + 1) h₃ := S.keep _ _ _ hJ₂ (keep_eq hoi fun e => X₃.keep _ _ i2 i3 i4 e)
        obtain ⟨oi₃, hoi₃⟩ := S.alive _ _ hJ₃
        have hzz : (rs₀ ++ (vs.take i).filterMap g).length ≤ 1000000 := by
          have h1 := List.length_filterMap_le g (vs.take i)
          have h2 : (vs.take i).length ≤ vs.length := by rw [List.length_take]; omega
          rw [List.length_append]; omega
        have fin : ∀ s₅, Emitted Z ht F (t.ρ ρc v) μ φ₁ loc { s with heap := h₃, toks := tk₃ } D (rs₀ ++ (vs.take i).filterMap g ++ (g v).toList) s₅ → ∃ m, m < vs.length + 1 - i ∧ CompS Z ht μ vs.length J F (fun ρ₁ => ρ₁ = ρc ∨ ∃ u, t.ok u ∧ ρ₁ = t.ρ ρc u) (fun i => rs₀ ++ (vs.take i).filterMap g) X s φ₀ loc h₀ φs ia D m s₅ := by
          rintro s₅ ⟨φ₅, h₅, tk₅, I₅, E₅, ⟨items₅, hl₅, hr₅⟩, X₅, hφ₅⟩
          refine ⟨vs.length + 1 - (i + 1), by omega, i + 1, t.ρ ρc v, φ₅, h₅, tk₅, items₅, rfl, hlt, ?_, I₅, E₅, .inr ⟨v, hok v hmem, rfl⟩, hl₅, ?_, ?_, le₁.trans X₅.mono, hφ₅, X₅.offφ hφi hoi₃⟩
          · exact S.keep _ _ _ hJ₃ (keep_eq hoi₃ fun e => X₅.keep _ _ i2 i3 (by simpa using i5) e)
          · rw [List.take_add_one, hv, List.filterMap_append, ← List.append_assoc]
            have e1 : List.filterMap g (some v).toList = (g v).toList := by
              cases q : g v <;> simp [q]
            rw [e1]; exact hr₅
          · exact (X₂.transW X₃ hd.2.2).transW X₅ (fun b hb => by rw [List.mem_singleton.mp hb]; exact hd.2.1)
        refine wpAny_mono (emit_ok (s := { s with heap := h₃, toks := tk₃ }) a I₃ E₃ ⟨items, hl₃, hr₁⟩ hzz ⟨hφD, d2, d3, d4, d5⟩ (hstep v hmem)) (fun ok s₄ q => ?_) fun _ _ e => e
        cases ok with
        | false =>
          simp only [Bool.false_eq_true, if_false] at q ⊢
          exact fin _ q
        | true =>
          simp only [if_true] at q ⊢
          exact wpAny_mono q (fun x s₅ q => wpAny_mono q (fun _ s₆ q => fin _ q) fun _ _ e => e) fun _ _ e => e
end

section
variable {prog : Program} {w : World} {Z : Tb} {ht : Heap} {n : Nat} {F : Fm} {ρ : Rho} {μ : Store} {A : Around}

def CompOk (prog : Program) (w : World) (Z : Tb) (ht : Heap) (n : Nat) (F : Fm) (scope : Scope) (t : Tgt) (ifs : List Expr) (elt : Expr) (ρ : Rho) (μ : Store) (vs : List V) (g : V → Option V) : Prop :=
  vs.length ≤ 1000000 ∧ (∀ v ∈ vs, t.ok v) ∧ (∀ C, t.w (compF scope F C)) ∧ ∀ C, ∀ v ∈ vs, StepOk prog w Z ht n (compF scope F C) ifs elt (t.ρ (mask scope ρ) v) μ (g v)

/-- the block stands: what is known when its loop begins -/
theorem comp_begin {e elt iter : Expr} {target : Expr} {ifs : List Expr} {rest : List Comprehension} {scope : Scope} {pos p0 : Pos} {use : Option (Value → Sem Unit)} {Q : Value → Shared → Prop} {s : Shared} {φ : Frz} {loc : Locs} {PostI : List V → (Store → Prop) → Prop}
    (he : e = .ListComp elt (⟨target, iter, ifs, 0⟩ :: rest) scope pos)
    (hs : ∀ x, foldedSetIterable iter F.env x = pure x) (S : ScopeOk scope F)
    (h : TI prog w Z ht n F iter ρ μ fun vs G μ₁ => μ₁ = μ ∧ PostI vs G)
    (a : AOk A n) (I : InvG Z ht μ φ loc s.heap) (E : EnvOk Z F ρ φ loc s.heap)
    (loop : ∀ vs G J ia D C φ₁ h₃ tk₃, PostI vs G → G μ → Src prog w Z ht φ₁ loc ia vs G J → J 0 h₃ → InvG Z ht μ φ₁ loc h₃ → EnvOk Z (compF scope F C) (mask scope ρ) φ₁ loc h₃ → LstAt h₃ D [] →
      (φ₁ D = none ∧ D ∉ loc ∧ D ∉ Z.tabs ∧ D ∉ (compF scope F C).W ∧ ∀ x c, (compF scope F C).env.cells.lookup x = some c → c ≠ D) →
      (φ₁ ia = none ∧ ia ∉ loc ∧ ia ∉ Z.tabs ∧ ia ∉ (compF scope F C).W ∧ ia ≠ D ∧ ∀ x c, (compF scope F C).env.cells.lookup x = some c → c ≠ ia) →
      (s.heap.get? ia = none ∧ s.heap.get? D = none ∧ ∀ b ∈ (compF scope F C).W, s.heap.get? b = none) → Ext Z [] φ loc s.heap φ₁ loc h₃ →
      codeAny (model prog w) A (.compLoop e 0 (.ref ia) (.ref D) (compF scope F C).env) (compPost (model prog w) A NoE use Q (.ref D) C) { s with heap := h₃, toks := tk₃ }) :
    wpAny (model prog w) A (comprehension e scope F.env p0 (newList []) false (eval iter F.env) use) Q NoE s := by
  refine wpAny_comprehension_free (g := ⟨target, iter, ifs, 0⟩) (gs := rest) (by rw [he]; rfl) hs (closure_eq fun p hp hk => (S.cap p hp hk).1) S.kind S.loc (wpAny_mono (h A s φ loc a I E) (fun x s₁ p => wpAny_mono p (fun it s₂ p => ?_) fun _ _ e => e) fun _ _ e => e)
  obtain ⟨ia, vs, G, J, μ₁, φ₁, loc₁, h₁, tk₁, ⟨rfl, pI⟩, hG, Sr, hJ, I₁, X₁, hdi, hφi, hli, hti⟩ := p
  have e := ext_same I I₁ X₁ rfl
  subst e
  refine wpAny_newList ?_ (by decide)
  have hd₁ := push_dead h₁
  have kp₁ := push_keep h₁ { cls := .type "list", data := .seq #[] }
  have I₂ := I₁.gar kp₁
  have X₂ : Ext Z [] φ loc₁ s.heap φ₁ loc₁ (h₁.push { cls := .type "list", data := .seq #[] }) := X₁.trans (Ext.gar kp₁)
  have E₂ := E.ext X₂
  refine newCompEnv ?_
  obtain ⟨E₃, kp₂, hW, hcl⟩ := compEnv_ok S I₂ E₂
  have hia : ∃ o, h₁.get? ia = some o := Sr.alive _ _ hJ
  obtain ⟨oi, hoi⟩ := hia
  have hDs : s.heap.get? h₁.objs.size = none := none_of_dead X₁.alive hd₁
  have hWs : ∀ b ∈ (compF scope F (h₁.push { cls := .type "list", data := .seq #[] }).objs.size).W, s.heap.get? b = none := fun b hb => none_of_dead X₂.alive (hW b hb)
  have hDal : (h₁.push { cls := .type "list", data := .seq #[] }).get? h₁.objs.size = some (lstObj [] 0) := Heap.get?_push_size _ rfl
  have X₃ : Ext Z [] φ loc₁ s.heap φ₁ loc₁ (pushCells ((h₁.push { cls := .type "list", data := .seq #[] }).push { cls := .type "dict", data := .dict #[] }) scope.names) := X₂.trans (Ext.gar kp₂)
  have hDW : h₁.objs.size ∉ (compF scope F (h₁.push { cls := .type "list", data := .seq #[] }).objs.size).W := fun q => by rw [hW _ q] at hDal; cases hDal
  have hiW : ia ∉ (compF scope F (h₁.push { cls := .type "list", data := .seq #[] }).objs.size).W := fun q => by
    have := kp₁ _ _ hoi
    rw [hW _ q] at this; cases this
  have hiD : ia ≠ h₁.objs.size := fun q => by rw [q, hd₁] at hoi; cases hoi
  have hcD : ∀ x c, (compF scope F (h₁.push { cls := .type "list", data := .seq #[] }).objs.size).env.cells.lookup x = some c → c ≠ h₁.objs.size := by
    intro x c hc q
    subst q
    rcases hcl x _ hc with q | ⟨y, q⟩
    · rw [q] at hDal; cases hDal
    · obtain ⟨_, _, o, ho⟩ := E.coff y _ q
      rw [hDs] at ho; cases ho
  have hci : ∀ x c, (compF scope F (h₁.push { cls := .type "list", data := .seq #[] }).objs.size).env.cells.lookup x = some c → c ≠ ia := by
    intro x c hc q
    subst q
    rcases hcl x _ hc with q | ⟨y, q⟩
    · have := kp₁ _ _ hoi
      rw [q] at this; cases this
    · obtain ⟨_, _, o, ho⟩ := E.coff y _ q
      rw [hdi] at ho; cases ho
  have go := loop vs G J ia h₁.objs.size _ φ₁ _ tk₁ pI hG Sr (Sr.keep _ _ _ hJ (keep_eq hoi fun e => kp₂ _ _ (kp₁ _ _ e))) (I₂.gar kp₂) E₃ ⟨0, kp₂ _ _ hDal⟩
    ⟨I₁.dead hd₁, not_loc I₁ hd₁, not_tab I₁ hd₁, hDW, hcD⟩ ⟨hφi, hli, hti, hiW, hiD, hci⟩ ⟨hdi, hDs, hWs⟩ X₃
  subst he
  refine codeAny_compStart_list go ?_
  exact Sr.same A _ 0 _ _ (Sr.keep _ _ _ hJ (keep_eq hoi fun e => kp₂ _ _ (kp₁ _ _ e))) go

/-- what a loop over the clauses makes -/
def LoopC (prog : Program) (w : World) (Z : Tb) (ht : Heap) (n : Nat) (F : Fm) (e : Expr) (scope : Scope) (ρ : Rho) (μ : Store) (vs rs : List V) : Prop :=
  ∀ (A : Around) (s : Shared) (φ φs : Frz) (loc : Locs) (ia D C : Addr) (G : Store → Prop) (J : Nat → Heap → Prop) (R : Result → Shared → Prop) (h₀ : Heap) (φ₀ : Frz), AOk A n → Src prog w Z ht φs loc ia vs G J → Le φs φ → G μ → J 0 s.heap →
    InvG Z ht μ φ loc s.heap → EnvOk Z (compF scope F C) (mask scope ρ) φ loc s.heap → LstAt s.heap D [] →
    (φ D = none ∧ D ∉ loc ∧ D ∉ Z.tabs ∧ D ∉ (compF scope F C).W ∧ ∀ x c, (compF scope F C).env.cells.lookup x = some c → c ≠ D) →
    (φ ia = none ∧ ia ∉ loc ∧ ia ∉ Z.tabs ∧ ia ∉ (compF scope F C).W ∧ ia ≠ D ∧ ∀ x c, (compF scope F C).env.cells.lookup x = some c → c ≠ ia) →
    (h₀.get? ia = none ∧ h₀.get? D = none ∧ ∀ b ∈ (compF scope F C).W, h₀.get? b = none) → Ext Z [] φ₀ loc h₀ φ loc s.heap →
    (∀ φ' h' tk' items, InvG Z ht μ φ' loc h' → LstAt h' D items → RelL φ' rs items → Ext Z [] φ₀ loc h₀ φ' loc h' → φ' D = none → (∃ m, h'.Ns C m) → φ' C = none → R (.ok .next) { s with heap := h', toks := tk' }) →
    codeAny (model prog w) A (.compLoop e 0 (.ref ia) (.ref D) (compF scope F C).env) R s
theorem LoopC.one {t : Tgt} {elt iter : Expr} {ifs : List Expr} {scope : Scope} {pos : Pos} {vs : List V} {g : V → Option V} (h : CompOk prog w Z ht n F scope t ifs elt ρ μ vs g) :
    LoopC prog w Z ht n F (.ListComp elt [⟨t.e, iter, ifs, 0⟩] scope pos) scope ρ μ vs (vs.filterMap g) := by
  intro A s φ φs loc ia D C G J R h₀ φ₀ a S le hG hJ I E hl hD hi hd X₀ hR
  obtain ⟨hz, hok, hw, hst⟩ := h
  refine comp_one (X := []) (rs₀ := []) (items₀ := []) (fun it acc env => compTurn_list elt t.e iter ifs scope pos it acc env) a S le hG hJ (by simpa using hz) (hw C) hok (hst C) I E hl .nil hD hi ⟨hd.1, .inr hd.2.1, fun b hb => .inr (hd.2.2 b hb)⟩ X₀ fun φ' h' tk' items ρ' I' E' _ hl' hr' X' hφ' => ?_
  obtain ⟨m, hm, _⟩ := E'.ns
  exact hR φ' h' tk' items I' hl' (by simpa using hr') X' hφ' ⟨m, hm⟩ (E'.woff _ E'.wl).1

theorem freeze_at {φ : Frz} {loc : Locs} {h : Heap} {D : Addr} {o : Obj} (I : InvG Z ht μ φ loc h) (ho : h.get? D = some o) (hφ : φ D = none) (hD : D ∉ loc ∧ D ∉ Z.tabs) : InvG Z ht μ (fz φ D o) loc h := by
  refine ⟨fun b o' e => ?_, fun b o' e => fz_le hφ _ _ (I.top b o' e), fun b hb => ?_, I.nd, I.len, fun k a vs h1 h2 => let ⟨items, h3, h4⟩ := I.lists k a vs h1 h2; ⟨items, h3, h4.mono (fz_le hφ)⟩, Z.stable _ _ _ _ I.tabs (fz_le hφ) fun _ _ => rfl, fun b hb => ?_⟩
  · unfold fz at e
    by_cases q : b = D
    · subst q; rw [if_pos rfl] at e; cases e; exact ho
    · rw [if_neg q] at e; exact I.sub _ _ e
  · have q : ¬ b = D := fun q => hD.1 (q ▸ hb)
    unfold fz; rw [if_neg q]; exact I.off b hb
  · have q : ¬ b = D := fun q => hD.2 (q ▸ hb)
    unfold fz; rw [if_neg q]; exact I.talive b hb
theorem freeze_ext {X : List Addr} {φ φ' : Frz} {loc loc' : Locs} {h h' : Heap} {D : Addr} {o : Obj} (x : Ext Z X φ loc h φ' loc' h') (hφ : φ' D = none) (hd : h.get? D = none) : Ext Z X φ loc h (fz φ' D o) loc' h' := by
  refine { x with mono := x.mono.trans (fz_le hφ), newφ := fun b e => ?_ }
  unfold fz at e
  by_cases q : b = D
  · subst q; exact .inr hd
  · rw [if_neg q] at e; exact x.newφ b e

/-- a comprehension -/
theorem TE.comp {elt iter target : Expr} {ifs : List Expr} {rest : List Comprehension} {scope : Scope} {pos : Pos} {Post : AV → Store → Prop}
    (h : TI prog w Z ht n F iter ρ μ fun vs G μ₁ => μ₁ = μ ∧ ∃ rs, LoopC prog w Z ht n F (.ListComp elt (⟨target, iter, ifs, 0⟩ :: rest) scope pos) scope ρ μ vs rs ∧ Post (.p (.lst rs)) μ)
    (S : ScopeOk scope F) (hs : ∀ x, foldedSetIterable iter F.env x = pure x := by intro _; rfl) :
    TE prog w Z ht n F (.ListComp elt (⟨target, iter, ifs, 0⟩ :: rest) scope pos) ρ μ Post := by
  intro A s φ loc a I E
  rw [eval_ListComp]
  refine comp_begin (PostI := fun vs G => ∃ rs, LoopC prog w Z ht n F (.ListComp elt (⟨target, iter, ifs, 0⟩ :: rest) scope pos) scope ρ μ vs rs ∧ Post (.p (.lst rs)) μ) (use := none) rfl hs S h a I E ?_
  intro vs G J ia D C φ₁ h₃ tk₃ hp hG Sr hJ I₁ E₁ hl hD hi hd X₀
  obtain ⟨rs, hL, hp⟩ := hp
  refine hL A _ φ₁ φ₁ loc ia D C G J _ s.heap φ a Sr (Le.refl _) hG hJ I₁ E₁ hl hD hi hd X₀ fun φ' h' tk' items I' hl' hr' X' hφ' hns hφC => ?_
  obtain ⟨m, hm⟩ := hns
  obtain ⟨m0, hl0⟩ := hl'
  obtain ⟨d1, d2, d3, d4, d5⟩ := hD
  have hCW : C ∈ (compF scope F C).W := List.mem_cons_self
  have hCD : C ≠ D := fun q => d4 (q ▸ hCW)
  have hCs := hd.2.2 C hCW
  refine ⟨m, hm, fun h'' hs' => ?_⟩
  have kp : ∀ b o, b ≠ C → h'.get? b = some o → h''.get? b = some o := fun b o hb e => (hs'.2 b hb).trans e
  have I'' : InvG Z ht μ φ' loc h'' := I'.but kp hφC (not_loc I hCs) (not_tab I hCs)
  have hl'' : h''.get? D = some (lstObj items m0) := kp _ _ (Ne.symm hCD) hl0
  exact ⟨_, μ, fz φ' D (lstObj items m0), loc, h'', tk', hp, .p (.lst fz_at (hr'.mono (fz_le hφ'))), freeze_at I'' hl'' hφ' ⟨d2, d3⟩, freeze_ext (X'.step kp hCs) hφ' hd.2.1⟩

/-- a name = a comprehension, the stores exchanged -/
theorem T1.assignComp {x : Str} {px : Pos} {elt iter target : Expr} {ifs : List Expr} {rest : List Comprehension} {scope : Scope} {pos spos : Pos} {Post : Fl → Rho → Store → Prop}
    (h : TI prog w Z ht n F iter ρ μ fun vs G μ₁ => μ₁ = μ ∧ ∃ rs, LoopC prog w Z ht n F (.ListComp elt (⟨target, iter, ifs, 0⟩ :: rest) scope pos) scope ρ μ vs rs ∧ Post .next (upd ρ x (.p (.lst rs))) μ)
    (S : ScopeOk scope F) (hk : F.env.kindOf x = some .local ∨ x ∈ F.wc) (hs : ∀ x, foldedSetIterable iter F.env x = pure x := by intro _; rfl)
    (hsw : swapsWithSole [.Name x px] (.ListComp elt (⟨target, iter, ifs, 0⟩ :: rest) scope pos) spos.line F.env = pure true := by rfl) :
    T1 prog w Z ht n F (.Assign [.Name x px] (.ListComp elt (⟨target, iter, ifs, 0⟩ :: rest) scope pos) spos) ρ μ Post := by
  intro A s φ loc a I E
  rw [exec_Assign_arm]
  refine wpAny_bind (wpAny_standAt ?_)
  rw [hsw]
  refine wpAny_bind (wpAny_pure ?_)
  rw [if_pos rfl]
  refine wpAny_bind ?_
  rw [arm_evalThenUse_ListComp]
  refine wpAny_bind ?_
  refine comp_begin (PostI := fun vs G => ∃ rs, LoopC prog w Z ht n F (.ListComp elt (⟨target, iter, ifs, 0⟩ :: rest) scope pos) scope ρ μ vs rs ∧ Post .next (upd ρ x (.p (.lst rs))) μ) rfl hs S h a I E ?_
  intro vs G J ia D C φ₁ h₃ tk₃ hp hG Sr hJ I₁ E₁ hl hD hi hd X₀
  obtain ⟨rs, hL, hp⟩ := hp
  refine hL A _ φ₁ φ₁ loc ia D C G J _ s.heap φ a Sr (Le.refl _) hG hJ I₁ E₁ hl hD hi hd X₀ fun φ' h' tk' items I' hl' hr' X' hφ' hns hφC => ?_
  obtain ⟨m, oC, es, ep, hoC, rC⟩ := hns
  obtain ⟨m0, hl0⟩ := hl'
  obtain ⟨d1, d2, d3, d4, d5⟩ := hD
  have hCW : C ∈ (compF scope F C).W := List.mem_cons_self
  have hCD : C ≠ D := fun q => d4 (q ▸ hCW)
  have hCs := hd.2.2 C hCW
  have hCF : C ∉ F.W := fun q => by obtain ⟨_, _, _, o, ho⟩ := E.woff _ q; rw [hCs] at ho; cases ho
  have hCc : ∀ y c, F.env.cells.lookup y = some c → c ≠ C := fun y c hc q => by obtain ⟨_, _, o, ho⟩ := E.coff y c hc; rw [q, hCs] at ho; cases ho
  have I'' := freeze_at I' hl0 hφ' ⟨d2, d3⟩
  have X'' : Ext Z [] φ loc s.heap (fz φ' D (lstObj items m0)) loc h' := freeze_ext X' hφ' hd.2.1
  have r'' : RelA (fz φ' D (lstObj items m0)) loc (.p (.lst rs)) (.ref D) := .p (.lst fz_at (hr'.mono (fz_le hφ')))
  show wpAny _ A (standAt px >>= fun _ => bindName F.env x (.ref D)) _ _ _
  refine wpAny_bind (wpAny_standAt (wpAny_bindName (store_ok (s := { s with heap := h', toks := tk' }) I'' (E.ext X'') r'' hk fun h₂ tk₂ I₂ E₂ X₂ => ?_)))
  refine ⟨m, ⟨oC, es, ep, X₂.keep _ _ (not_loc I hCs) (not_tab I hCs) hCF hoC, rC⟩, fun h₄ hs' => ?_⟩
  have kp : ∀ b o, b ≠ C → h₂.get? b = some o → h₄.get? b = some o := fun b o hb e => (hs'.2 b hb).trans e
  have hφC' : fz φ' D (lstObj items m0) C = none := by unfold fz; rw [if_neg hCD]; exact hφC
  refine wpAny_pure (wpAny_pure ⟨.next, _, μ, _, loc, h₄, tk₂, hp, .next, I₂.but kp hφC' (not_loc I hCs) (not_tab I hCs), E₂.but kp hCF hCc, ((X''.weaken (fun _ q => nomatch q)).trans X₂).step kp hCs⟩)
end

section
variable {prog : Program} {w : World} {Z : Tb} {ht : Heap} {n : Nat} {F : Fm} {ρ : Rho} {μ : Store} {A : Around}

def e2 (elt iter0 iter1 : Expr) (x0 x1 : Str) (p0 p1 : Pos) (ifs : List Expr) (scope : Scope) (pos : Pos) : Expr := .ListComp elt [⟨.Name x0 p0, iter0, [], 0⟩, ⟨.Name x1 p1, iter1, ifs, 0⟩] scope pos
theorem compTurn2 (elt iter0 iter1 : Expr) (x0 x1 : Str) (p0 p1 : Pos) (ifs : List Expr) (scope : Scope) (pos : Pos) (it acc : Value) (env : Env) :
    compTurn (e2 elt iter0 iter1 x0 x1 p0 p1 ifs scope pos) 0 it acc env = (do
      standAt iter0.pos
      match ← pyNext it with
      | none => pure (.done .next)
      | some v =>
        letOwnedTupleGo (.Name x0 p0) it v
        assign (.Name x0 p0) env v
        let x ← eval iter1 env
        standAt iter1.pos
        let x ← foldedSetIterable iter1 env x
        let it' ← holding [x] (pyIter x)
        let _ ← runOwn (.compStart (e2 elt iter0 iter1 x0 x1 p0 p1 ifs scope pos) 1 it' acc env) env
        again (.compLoop (e2 elt iter0 iter1 x0 x1 p0 p1 ifs scope pos) 0 it acc env)) := by rfl
theorem compStart2 {elt iter0 iter1 : Expr} {x0 x1 : Str} {p0 p1 : Pos} {ifs : List Expr} {scope : Scope} {pos : Pos} {it acc : Value} {env : Env} {R : Result → Shared → Prop} {s : Shared}
    (h0 : codeAny (model prog w) A (.compLoop (e2 elt iter0 iter1 x0 x1 p0 p1 ifs scope pos) 1 it acc env) R s)
    (h : wpAny (model prog w) A (pyIter it) (fun it' s' => codeAny (model prog w) A (.compLoop (e2 elt iter0 iter1 x0 x1 p0 p1 ifs scope pos) 1 it' acc env) R s') NoE s) :
    codeAny (model prog w) A (.compStart (e2 elt iter0 iter1 x0 x1 p0 p1 ifs scope pos) 1 it acc env) R s := by
  refine codeAny_of_tree ?_
  show wpAny _ _ ((compStart (e2 elt iter0 iter1 x0 x1 p0 p1 ifs scope pos) 1 it acc env).onRaise (fun x => do noteFrame x env; standAt theWindowsPlace)) _ _ s
  refine wpAny_notedAt ?_
  unfold compStart
  show wpAny _ _ (ask >>= _) _ _ s
  refine wpAny_bind (wpAny_askSetting (wpAny_ite ?_))
  split
  · first
      | exact wpAny_bind (wpAny_pure (wpAny_pure (And.intro rfl h0)))
      | exact wpAny_pure (And.intro rfl h0)
  · first
      | exact wpAny_bind (wpAny_rule (wpAny_bind (wpAny_standAt (wpAny_bind (wpAny_mono h (fun it' s' h' => wpAny_pure (And.intro rfl h')) fun _ _ x => x.elim)))))
      | (refine wpAny_bind (wpAny_rule ?_); show wpAny _ _ (standAt iter1.pos >>= _) _ _ s; exact wpAny_bind (wpAny_standAt (wpAny_bind (wpAny_mono h (fun it' s' h' => wpAny_pure (And.intro rfl h')) fun _ _ x => x.elim))))

structure CompOk2 (prog : Program) (w : World) (Z : Tb) (ht : Heap) (n : Nat) (F : Fm) (scope : Scope) (x0 x1 : Str) (ifs : List Expr) (elt iter1 : Expr) (ρ : Rho) (μ : Store) (vs : List V) (vs1 : V → List V) (g : V → V → Option V) : Prop where
  len : vs.length ≤ 1000
  len1 : ∀ v ∈ vs, (vs1 v).length ≤ 1000
  w0 : ∀ C, (compF scope F C).env.kindOf x0 = some .local
  w1 : ∀ C, (compF scope F C).env.kindOf x1 = some .local
  iter : ∀ C, ∀ v ∈ vs, ∀ ρ', (∀ y, y ≠ x1 → ρ' y = upd (mask scope ρ) x0 (.p v) y) → TI prog w Z ht n (compF scope F C) iter1 ρ' μ fun ws G μ₁ => μ₁ = μ ∧ ws = vs1 v
  step : ∀ C, ∀ v ∈ vs, ∀ u ∈ vs1 v, StepOk prog w Z ht n (compF scope F C) ifs elt (upd (upd (mask scope ρ) x0 (.p v)) x1 (.p u)) μ (g v u)
  folded : ∀ C x, foldedSetIterable iter1 (compF scope F C).env x = pure x

theorem flat_len {vs : List V} {f : V → List V} (h : ∀ v ∈ vs, (f v).length ≤ 1000) : (vs.flatMap f).length ≤ vs.length * 1000 := by
  induction vs with
  | nil => simp
  | cons v vs ih =>
    rw [List.flatMap_cons, List.length_append, List.length_cons]
    have h1 := h v List.mem_cons_self
    have h2 := ih fun u hu => h u (List.mem_cons_of_mem _ hu)
    omega

theorem LoopC.two {elt iter0 iter1 : Expr} {x0 x1 : Str} {p0 p1 : Pos} {ifs : List Expr} {scope : Scope} {pos : Pos} {vs : List V} {vs1 : V → List V} {g : V → V → Option V} (h : CompOk2 prog w Z ht n F scope x0 x1 ifs elt iter1 ρ μ vs vs1 g) :
    LoopC prog w Z ht n F (e2 elt iter0 iter1 x0 x1 p0 p1 ifs scope pos) scope ρ μ vs (vs.flatMap fun v => (vs1 v).filterMap (g v)) := by
  intro A s φ φs loc ia D C G J R h₀ φ₀ a S les hG hJ I E hl hD hi hd X₀ hR
  obtain ⟨i1, i2, i3, i4, i5, i6⟩ := hi
  obtain ⟨d1, d2, d3, d4, d5⟩ := hD
  obtain ⟨hd1, hd2, hd3⟩ := hd
  refine codeAny_loop rfl (I := CompS Z ht μ vs.length J (compF scope F C) (fun ρ₁ => ∀ y, y ≠ x0 → y ≠ x1 → ρ₁ y = mask scope ρ y) (fun i => (vs.take i).flatMap fun v => (vs1 v).filterMap (g v)) [] s φ₀ loc h₀ φs ia D) (fun k s₁ hI => ?_) (vs.length + 1)
    ⟨0, mask scope ρ, φ, s.heap, s.toks, [], rfl, Nat.zero_le _, hJ, I, E, fun _ _ _ => rfl, hl, by simpa using RelL.nil, X₀, les, d1, i1⟩
  obtain ⟨i, ρ₁, φ₁, h₁, tk₁, items, rfl, hile, hJ₁, I₁, E₁, hρ, hl₁, hr₁, X₁, le₁, hφD, hφi⟩ := hI
  show wpAny _ A ((compTurn (e2 elt iter0 iter1 x0 x1 p0 p1 ifs scope pos) 0 (.ref ia) (.ref D) (compF scope F C).env).onRaise (fun x => do noteFrame x (compF scope F C).env; theTreesLotGoes x)) _ _ _
  refine wpAny_noted ?_
  rw [compTurn2]
  refine wpAny_bind (wpAny_standAt (wpAny_bind ?_))
  cases hv : vs[i]? with
  | none =>
    have hin : i = vs.length := by
      have := List.getElem?_eq_none_iff.mp hv
      omega
    subst hin
    rw [List.take_length] at hr₁
    refine noE (S.stop A _ φ₁ loc μ _ _ a.handled I₁ le₁ ⟨[], by simp⟩ hG hJ₁ hv fun h₂ tk₂ kp => ?_)
    obtain ⟨m0, hl0⟩ := hl₁
    have E₂ := E₁.but kp i4 i6
    obtain ⟨m, hm, _⟩ := E₂.ns
    exact wpAny_pure (hR φ₁ h₂ tk₂ items (I₁.but kp hφi i2 i3) ⟨m0, kp _ _ (Ne.symm i5) hl0⟩ hr₁ (X₁.step kp hd1) hφD ⟨m, hm⟩ (E₂.woff _ E₂.wl).1)
  | some v =>
    have hlt := (List.getElem?_eq_some_iff.mp hv).1
    have hmem : v ∈ vs := List.mem_of_getElem? hv
    refine noE (S.next A _ φ₁ loc μ i v _ a.handled I₁ le₁ ⟨[], by simp⟩ hG hJ₁ hv fun cv h₂ tk₂ hr hJ₂ kp => ?_)
    · · skip
        obtain ⟨oi, hoi⟩ := S.alive _ _ hJ₂
        have I₂ := I₁.but kp hφi i2 i3
        have E₂ := E₁.but kp i4 i6
        have X₂ := X₁.step kp hd1
        have hl₂ : LstAt h₂ D items := let ⟨m0, hl0⟩ := hl₁; ⟨m0, kp _ _ (Ne.symm i5) hl0⟩
        refine wpAny_bind (wpAny_pure ?_)
        refine wpAny_bind (noE (assign_tgt (t := .name x0 p0) a (.inl (h.w0 C)) trivial I₂ E₂ hr fun h₃ tk₃ I₃ E₃ X₃ => ?_))
        have E₃ : EnvOk Z (compF scope F C) (upd ρ₁ x0 (.p v)) φ₁ loc h₃ := E₃
        have hl₃ : LstAt h₃ D items := let ⟨m0, hl0⟩ := hl₂; ⟨m0, X₃.keep _ _ d2 d3 d4 hl0⟩
        have hJ₃ : J (i + 1) h₃ := S.keep _ _ _ hJ₂ (keep_eq hoi fun e => X₃.keep _ _ i2 i3 i4 e)
        obtain ⟨oi₃, hoi₃⟩ := S.alive _ _ hJ₃
        have XX₃ : Ext Z [] φ₀ loc h₀ φ₁ loc h₃ := X₂.transDead X₃ hd3
        have hρ2 : ∀ y, y ≠ x1 → upd ρ₁ x0 (.p v) y = upd (mask scope ρ) x0 (.p v) y := by
          intro y hy
          unfold upd
          by_cases q : y = x0
          · rw [if_pos q, if_pos q]
          · rw [if_neg q, if_neg q]; exact hρ y q hy
        refine wpAny_bind (wpAny_mono (h.iter C v hmem _ hρ2 A _ φ₁ loc a I₃ E₃) (fun x s₄ p => ?_) fun _ _ e => e.elim)
        refine wpAny_bind (wpAny_standAt (wpAny_bind (wpAny_of_eq (h.folded C x) (wpAny_bind (wpAny_holding (wpAny_mono p (fun it' s₅ p => ?_) fun _ _ e => e.elim))))))
        obtain ⟨ib, ws, G', J', μ₄, φ₄, loc₄, h₄, tk₄, ⟨rfl, rfl⟩, hG', S', hJ', I₄, X₄, hdb, hφb, hlb, htb⟩ := p
        have e := ext_same I₃ I₄ X₄ rfl
        subst e
        have E₄ := E₃.ext X₄
        have hl₄ : LstAt h₄ D items := let ⟨m0, hl0⟩ := hl₃; ⟨m0, X₄.keep _ _ d2 d3 (fun q => nomatch q) hl0⟩
        have hφD₄ : φ₄ D = none := let ⟨m0, hl0⟩ := hl₃; X₄.offφ hφD hl0
        have hbW : ib ∉ (compF scope F C).W := fun q => by obtain ⟨_, _, _, o, ho⟩ := E₃.woff _ q; rw [hdb] at ho; cases ho
        have hbc : ∀ y c, (compF scope F C).env.cells.lookup y = some c → c ≠ ib := fun y c hc q => by obtain ⟨_, _, o, ho⟩ := E₃.coff y c hc; rw [q, hdb] at ho; cases ho
        have hbD : ib ≠ D := fun q => by obtain ⟨m0, hl0⟩ := hl₃; rw [q, hl0] at hdb; cases hdb
        have hlen : ((vs.take i).flatMap fun v => (vs1 v).filterMap (g v)).length + (vs1 v).length ≤ 1000000 := by
          have q1 := flat_len (vs := vs.take i) (f := fun v => (vs1 v).filterMap (g v)) (fun u hu => Nat.le_trans (List.length_filterMap_le _ _) (h.len1 u (List.mem_of_mem_take hu)))
          have q2 := h.len1 v hmem
          have q3 := h.len
          have q4 : (vs.take i).length ≤ i := by rw [List.length_take]; omega
          have : (vs.take i).length * 1000 ≤ i * 1000 := Nat.mul_le_mul_right _ q4
          omega
        have inner : ∀ R' : Result → Shared → Prop, (∀ φ' h' tk' items ρ', InvG Z ht μ₄ φ' loc₄ h' → EnvOk Z (compF scope F C) ρ' φ' loc₄ h' → (ρ' = upd ρ₁ x0 (.p v) ∨ ∃ u, True ∧ ρ' = upd (upd ρ₁ x0 (.p v)) x1 (.p u)) → LstAt h' D items → RelL φ' (((vs.take i).flatMap fun v => (vs1 v).filterMap (g v)) ++ (vs1 v).filterMap (g v)) items → Ext Z (D :: (compF scope F C).W) φ₁ loc₄ h₃ φ' loc₄ h' → φ' D = none → R' (.ok .next) { s with heap := h', toks := tk' }) →
            codeAny (model prog w) A (.compLoop (e2 elt iter0 iter1 x0 x1 p0 p1 ifs scope pos) 1 (.ref ib) (.ref D) (compF scope F C).env) R' { s with heap := h₄, toks := tk₄ } := by
          intro R' hR'
          refine comp_one (t := .name x1 p1) (X := D :: (compF scope F C).W) (h₀ := h₃) (φ₀ := φ₁) (g := g v) (fun _ _ _ => rfl) a S' (Le.refl _) hG' hJ' hlen (.inl (h.w1 C)) (fun _ _ => trivial) (fun u hu => ?_) I₄ E₄ hl₄ (hr₁.mono X₄.mono) ⟨hφD₄, d2, d3, d4, d5⟩ ⟨hφb, hlb, htb, hbW, hbD, hbc⟩ ⟨hdb, .inl List.mem_cons_self, fun b hb => .inl (List.mem_cons_of_mem _ hb)⟩ (X₄.weaken (fun _ q => nomatch q)) hR'
          have := h.step C v hmem u hu
          have e1 : Tgt.ρ (.name x1 p1) (upd ρ₁ x0 (.p v)) u = upd (upd (mask scope ρ) x0 (.p v)) x1 (.p u) := by
            funext y
            show upd (upd ρ₁ x0 (.p v)) x1 (.p u) y = _
            by_cases q : y = x1
            · unfold upd; rw [if_pos q, if_pos q]
            · have := hρ2 y q
              show (if y = x1 then some (AV.p u) else upd ρ₁ x0 (.p v) y) = (if y = x1 then some (AV.p u) else upd (mask scope ρ) x0 (.p v) y)
              rw [if_neg q, if_neg q, this]
          rw [e1]; exact this
        refine wpAny_bind (wpAny_runOwn ?_)
        have finish : ∀ φ' h' tk' items ρ', InvG Z ht μ₄ φ' loc₄ h' → EnvOk Z (compF scope F C) ρ' φ' loc₄ h' → (ρ' = upd ρ₁ x0 (.p v) ∨ ∃ u, True ∧ ρ' = upd (upd ρ₁ x0 (.p v)) x1 (.p u)) → LstAt h' D items → RelL φ' (((vs.take i).flatMap fun v => (vs1 v).filterMap (g v)) ++ (vs1 v).filterMap (g v)) items → Ext Z (D :: (compF scope F C).W) φ₁ loc₄ h₃ φ' loc₄ h' → φ' D = none →
            ∃ m, m < vs.length + 1 - i ∧ CompS Z ht μ₄ vs.length J (compF scope F C) (fun ρ₁ => ∀ y, y ≠ x0 → y ≠ x1 → ρ₁ y = mask scope ρ y) (fun i => (vs.take i).flatMap fun v => (vs1 v).filterMap (g v)) [] s φ₀ loc₄ h₀ φs ia D m { s with heap := h', toks := tk' } := by
          intro φ' h' tk' items' ρ' I' E' hρ' hl' hr' X' hφ'
          have hiX : ia ∉ D :: (compF scope F C).W := by
            rw [List.mem_cons]; rintro (q | q)
            · exact i5 q
            · exact i4 q
          refine ⟨vs.length + 1 - (i + 1), by omega, i + 1, ρ', φ', h', tk', items', rfl, hlt, S.keep _ _ _ hJ₃ (keep_eq hoi₃ fun e => X'.keep _ _ i2 i3 hiX e), I', E', ?_, hl', ?_, ?_, le₁.trans X'.mono, hφ', X'.offφ hφi hoi₃⟩
          · intro y h0 h1
            rcases hρ' with rfl | ⟨u, _, rfl⟩
            · unfold upd; rw [if_neg h0]; exact hρ y h0 h1
            · unfold upd; rw [if_neg h1]; show (if y = x0 then some (AV.p v) else ρ₁ y) = _; rw [if_neg h0]; exact hρ y h0 h1
          · rw [List.take_add_one, hv, List.flatMap_append]
            simpa using hr'
          · exact XX₃.transDead X' (fun b hb => by
              rcases List.mem_cons.mp hb with q | q
              · rw [q]; exact hd2
              · exact hd3 b q)
        refine compStart2 (inner _ fun φ' h' tk' items ρ' I' E' hρ' hl' hr' X' hφ' => ?_) (S'.same A _ 0 _ _ hJ' (inner _ fun φ' h' tk' items ρ' I' E' hρ' hl' hr' X' hφ' => ?_))
        · exact wpAny_pure ⟨rfl, finish φ' h' tk' items ρ' I' E' hρ' hl' hr' X' hφ'⟩
        · exact wpAny_pure ⟨rfl, finish φ' h' tk' items ρ' I' E' hρ' hl' hr' X' hφ'⟩
end

section
variable {prog : Program} {w : World} {Z : Tb} {ht : Heap} {n : Nat} {F : Fm} {ρ : Rho} {μ : Store} {A : Around}

theorem TO.two {β γ : Type} {R : Frz → Locs → β → γ → Prop} {v1 v2 : AV} {t : Value → Value → Sem γ} {d : Sem γ} {Post : β → Store → Prop}
    (h : ∀ A s φ loc c1 c2, AOk A n → InvG Z ht μ φ loc s.heap → RelA φ loc v1 c1 → RelA φ loc v2 c2 → wpAny (model prog w) A (t c1 c2) (P Z ht [] R s φ loc Post) NoE s) :
    TO prog w Z ht n R [v1, v2] (fun cs => match cs with | [x, y] => t x y | _ => d) μ Post := by
  intro A s φ loc cs a I r
  cases r with
  | cons r1 r => cases r with
    | cons r2 r => cases r with
      | nil => exact h A s φ loc _ _ a I r1 r2
theorem TO.one {β γ : Type} {R : Frz → Locs → β → γ → Prop} {v1 : AV} {t : Value → Sem γ} {d : Sem γ} {Post : β → Store → Prop}
    (h : ∀ A s φ loc c1, AOk A n → InvG Z ht μ φ loc s.heap → RelA φ loc v1 c1 → wpAny (model prog w) A (t c1) (P Z ht [] R s φ loc Post) NoE s) :
    TO prog w Z ht n R [v1] (fun cs => match cs with | [x] => t x | _ => d) μ Post := by
  intro A s φ loc cs a I r
  cases r with
  | cons r1 r => cases r with
    | nil => exact h A s φ loc _ a I r1
theorem RelA.toInt {φ : Frz} {loc : Locs} {i : Int} {c : Value} (r : RelA φ loc (.p (.int i)) c) : ∃ t, c = .int i t := by
  cases r with
  | p r => cases r with
    | int _ t => exact ⟨t, rfl⟩
theorem RelA.toFlt {φ : Frz} {loc : Locs} {i : UInt64} {c : Value} (r : RelA φ loc (.p (.flt i)) c) : ∃ t, c = .float i t := by
  cases r with
  | p r => cases r with
    | flt _ t => exact ⟨t, rfl⟩
theorem RelA.toStr {φ : Frz} {loc : Locs} {i : Str} {c : Value} (r : RelA φ loc (.p (.str i)) c) : ∃ t, c = .str i t := by
  cases r with
  | p r => cases r with
    | str _ t => exact ⟨t, rfl⟩
theorem RelA.toBool {φ : Frz} {loc : Locs} {i : Bool} {c : Value} (r : RelA φ loc (.p (.bool i)) c) : c = .bool i := by
  cases r with
  | p r => cases r with
    | bool _ => rfl

abbrev Bin (prog : Program) (w : World) (Z : Tb) (ht : Heap) (n : Nat) (op : Operator) (a b : AV) (μ : Store) (Post : AV → Store → Prop) : Prop := TO prog w Z ht n RelA [a, b] (fun cs => match cs with | [x, y] => binaryOp op x y | _ => unsupported "") μ Post
abbrev Cmp (prog : Program) (w : World) (Z : Tb) (ht : Heap) (n : Nat) (op : CmpOp) (a b : AV) (μ : Store) (Post : AV → Store → Prop) : Prop := TO prog w Z ht n RelA [a, b] (fun cs => match cs with | [x, y] => compareOp op x y | _ => unsupported "") μ Post

variable {a b : Int} {Post : AV → Store → Prop}
theorem o_add (h : Post (.p (.int (a + b))) μ) : Bin prog w Z ht n .Add (.p (.int a)) (.p (.int b)) μ Post :=
  TO.two fun A s φ loc c1 c2 _ I r1 r2 => by
    obtain ⟨t, rfl⟩ := r1.toInt; obtain ⟨u, rfl⟩ := r2.toInt
    exact PyProof.Rows.add_int (P.tok h (.p (.int _ _)) I)
theorem o_sub (h : Post (.p (.int (a - b))) μ) : Bin prog w Z ht n .Sub (.p (.int a)) (.p (.int b)) μ Post :=
  TO.two fun A s φ loc c1 c2 _ I r1 r2 => by
    obtain ⟨t, rfl⟩ := r1.toInt; obtain ⟨u, rfl⟩ := r2.toInt
    exact PyProof.Rows.sub_int (P.tok h (.p (.int _ _)) I)
theorem o_mul (hm : IntMulOk a b) (h : Post (.p (.int (a * b))) μ) : Bin prog w Z ht n .Mult (.p (.int a)) (.p (.int b)) μ Post :=
  TO.two fun A s φ loc c1 c2 _ I r1 r2 => by
    obtain ⟨t, rfl⟩ := r1.toInt; obtain ⟨u, rfl⟩ := r2.toInt
    exact PyProof.Rows.mul_int (P.tok h (.p (.int _ _)) I) hm
theorem o_fdiv (hb : b ≠ 0) (hl : b.natAbs.log2 < 9000) (h : Post (.p (.int (a.fdiv b))) μ) : Bin prog w Z ht n .FloorDiv (.p (.int a)) (.p (.int b)) μ Post :=
  TO.two fun A s φ loc c1 c2 _ I r1 r2 => by
    obtain ⟨t, rfl⟩ := r1.toInt; obtain ⟨u, rfl⟩ := r2.toInt
    exact PyProof.Rows.floordiv_int hb (P.tok h (.p (.int _ _)) I) (.inl (PyProof.noPylong_of_log2 hl))
theorem o_mod (hb : b ≠ 0) (h : Post (.p (.int (a.fmod b))) μ) : Bin prog w Z ht n .Mod (.p (.int a)) (.p (.int b)) μ Post :=
  TO.two fun A s φ loc c1 c2 _ I r1 r2 => by
    obtain ⟨t, rfl⟩ := r1.toInt; obtain ⟨u, rfl⟩ := r2.toInt
    exact PyProof.Rows.mod_int' hb (P.tok h (.p (.int _ _)) I)
theorem o_pow (hn : 0 ≤ b) (hsz : (Builtin.Int.intBits a : Int) * b ≤ 2 ^ 27) (h : Post (.p (.int (a ^ b.toNat))) μ) : Bin prog w Z ht n .Pow (.p (.int a)) (.p (.int b)) μ Post :=
  TO.two fun A s φ loc c1 c2 _ I r1 r2 => by
    obtain ⟨t, rfl⟩ := r1.toInt; obtain ⟨u, rfl⟩ := r2.toInt
    exact PyProof.Rows.pow_int hn hsz (P.tok h (.p (.int _ _)) I)
theorem o_shl (hn : 0 ≤ b) (hsz : (Builtin.Int.intBits a : Int) + b ≤ 2 ^ 27) (h : Post (.p (.int (a * 2 ^ b.toNat))) μ) : Bin prog w Z ht n .LShift (.p (.int a)) (.p (.int b)) μ Post :=
  TO.two fun A s φ loc c1 c2 _ I r1 r2 => by
    obtain ⟨t, rfl⟩ := r1.toInt; obtain ⟨u, rfl⟩ := r2.toInt
    exact PyProof.Rows.lshift_int hn hsz (P.tok h (.p (.int _ _)) I)
theorem o_shr (hn : 0 ≤ b) (h : Post (.p (.int (a.fdiv (2 ^ b.toNat)))) μ) : Bin prog w Z ht n .RShift (.p (.int a)) (.p (.int b)) μ Post :=
  TO.two fun A s φ loc c1 c2 _ I r1 r2 => by
    obtain ⟨t, rfl⟩ := r1.toInt; obtain ⟨u, rfl⟩ := r2.toInt
    exact PyProof.Rows.rshift_int hn (P.tok h (.p (.int _ _)) I)
theorem o_xor (h : Post (.p (.int (Builtin.bitXor a b))) μ) : Bin prog w Z ht n .BitXor (.p (.int a)) (.p (.int b)) μ Post :=
  TO.two fun A s φ loc c1 c2 _ I r1 r2 => by
    obtain ⟨t, rfl⟩ := r1.toInt; obtain ⟨u, rfl⟩ := r2.toInt
    exact PyProof.Rows.xor_int (P.tok h (.p (.int _ _)) I)
theorem o_iadd (h : Post (.p (.int (a + b))) μ) : TO prog w Z ht n RelA [.p (.int a), .p (.int b)] (fun cs => match cs with | [x, y] => inplaceOp .Add x y | _ => unsupported "") μ Post :=
  TO.two fun A s φ loc c1 c2 _ I r1 r2 => by
    obtain ⟨t, rfl⟩ := r1.toInt; obtain ⟨u, rfl⟩ := r2.toInt
    exact PyProof.Rows.iadd_int (P.tok h (.p (.int _ _)) I)
theorem o_neg (h : Post (.p (.int (-a))) μ) : TO prog w Z ht n RelA [.p (.int a)] (fun cs => match cs with | [x] => unaryOp .USub x | _ => unsupported "") μ Post :=
  TO.one fun A s φ loc c1 _ I r1 => by
    obtain ⟨t, rfl⟩ := r1.toInt
    exact PyProof.Rows.neg_int (P.tok h (.p (.int _ _)) I)
theorem c_eq (h : Post (.p (.bool (a == b))) μ) : Cmp prog w Z ht n .Eq (.p (.int a)) (.p (.int b)) μ Post :=
  TO.two fun A s φ loc c1 c2 _ I r1 r2 => by
    obtain ⟨t, rfl⟩ := r1.toInt; obtain ⟨u, rfl⟩ := r2.toInt
    exact PyProof.Rows.eq_int (P.here h (.p (.bool _)) I)
theorem c_lt (h : Post (.p (.bool (decide (a < b)))) μ) : Cmp prog w Z ht n .Lt (.p (.int a)) (.p (.int b)) μ Post :=
  TO.two fun A s φ loc c1 c2 _ I r1 r2 => by
    obtain ⟨t, rfl⟩ := r1.toInt; obtain ⟨u, rfl⟩ := r2.toInt
    exact PyProof.Rows.lt_int (P.here h (.p (.bool _)) I)
theorem c_le (h : Post (.p (.bool (decide (a ≤ b)))) μ) : Cmp prog w Z ht n .LtE (.p (.int a)) (.p (.int b)) μ Post :=
  TO.two fun A s φ loc c1 c2 _ I r1 r2 => by
    obtain ⟨t, rfl⟩ := r1.toInt; obtain ⟨u, rfl⟩ := r2.toInt
    exact PyProof.Rows.le_int (P.here h (.p (.bool _)) I)
theorem c_gt (h : Post (.p (.bool (decide (b < a)))) μ) : Cmp prog w Z ht n .Gt (.p (.int a)) (.p (.int b)) μ Post :=
  TO.two fun A s φ loc c1 c2 _ I r1 r2 => by
    obtain ⟨t, rfl⟩ := r1.toInt; obtain ⟨u, rfl⟩ := r2.toInt
    exact PyProof.Rows.gt_int (P.here h (.p (.bool _)) I)

/-! truth -/
abbrev Tru (prog : Program) (w : World) (Z : Tb) (ht : Heap) (n : Nat) (a : AV) (μ : Store) (Post : Bool → Store → Prop) : Prop := TO prog w Z ht n REq [a] (fun cs => match cs with | [x] => truthy x | _ => unsupported "") μ Post
theorem t_bool {x : Bool} {Post : Bool → Store → Prop} (h : Post x μ) : Tru prog w Z ht n (.p (.bool x)) μ Post :=
  TO.one fun A s φ loc c1 _ I r1 => by
    rw [r1.toBool]; exact wpAny_truthy_bool (P.here h rfl I)

/-! floats -/
variable {x y : UInt64}
theorem f_mul (h : Post (.p (.flt (Float64.mul x y))) μ) : Bin prog w Z ht n .Mult (.p (.flt x)) (.p (.flt y)) μ Post :=
  TO.two fun A s φ loc c1 c2 _ I r1 r2 => by
    obtain ⟨t, rfl⟩ := r1.toFlt; obtain ⟨u, rfl⟩ := r2.toFlt
    exact AutoFloatOps.mul_0 (P.tok h (.p (.flt _ _)) I)
theorem f_sub (h : Post (.p (.flt (Float64.sub x y))) μ) : Bin prog w Z ht n .Sub (.p (.flt x)) (.p (.flt y)) μ Post :=
  TO.two fun A s φ loc c1 c2 _ I r1 r2 => by
    obtain ⟨t, rfl⟩ := r1.toFlt; obtain ⟨u, rfl⟩ := r2.toFlt
    exact AutoFloatOps.sub_0 (P.tok h (.p (.flt _ _)) I)
theorem f_add (h : Post (.p (.flt (Float64.add x y))) μ) : Bin prog w Z ht n .Add (.p (.flt x)) (.p (.flt y)) μ Post :=
  TO.two fun A s φ loc c1 c2 _ I r1 r2 => by
    obtain ⟨t, rfl⟩ := r1.toFlt; obtain ⟨u, rfl⟩ := r2.toFlt
    exact AutoFloatOps.add_0 (P.tok h (.p (.flt _ _)) I)
theorem f_div (hz : ¬ Float64.isZero y = true) (h : Post (.p (.flt (Float64.div x y))) μ) : Bin prog w Z ht n .Div (.p (.flt x)) (.p (.flt y)) μ Post :=
  TO.two fun A s φ loc c1 c2 _ I r1 r2 => by
    obtain ⟨t, rfl⟩ := r1.toFlt; obtain ⟨u, rfl⟩ := r2.toFlt
    exact AutoFloatOps.truediv_1 hz (P.tok h (.p (.flt _ _)) I)
theorem f_mod (hz : ¬ Float64.isZero y = true) (h : Post (.p (.flt (Float64.divmod x y).snd)) μ) : Bin prog w Z ht n .Mod (.p (.flt x)) (.p (.flt y)) μ Post :=
  TO.two fun A s φ loc c1 c2 _ I r1 r2 => by
    obtain ⟨t, rfl⟩ := r1.toFlt; obtain ⟨u, rfl⟩ := r2.toFlt
    exact AutoFloatOps.mod_1 hz (P.tok h (.p (.flt _ _)) I)
theorem f_sub_fi (hz : ¬ Float64.isInf (Float64.ofInt b) = true) (h : Post (.p (.flt (Float64.sub x (Float64.ofInt b)))) μ) : Bin prog w Z ht n .Sub (.p (.flt x)) (.p (.int b)) μ Post :=
  TO.two fun A s φ loc c1 c2 _ I r1 r2 => by
    obtain ⟨t, rfl⟩ := r1.toFlt; obtain ⟨u, rfl⟩ := r2.toInt
    exact AutoFloatOps.sub_fi_1 hz (P.tok h (.p (.flt _ _)) I)
theorem f_mul_if (hz : ¬ Float64.isInf (Float64.ofInt b) = true) (h : Post (.p (.flt (Float64.mul (Float64.ofInt b) x))) μ) : Bin prog w Z ht n .Mult (.p (.int b)) (.p (.flt x)) μ Post :=
  TO.two fun A s φ loc c1 c2 _ I r1 r2 => by
    obtain ⟨t, rfl⟩ := r1.toInt; obtain ⟨u, rfl⟩ := r2.toFlt
    exact AutoFloatOps.mul_if_1 hz (P.tok h (.p (.flt _ _)) I)
theorem f_frac (hz : ¬ (b == 0) = true) (hi : ¬ Float64.isInf (Float64.ofFrac (decide (a < 0) != decide (b < 0)) a.natAbs b.natAbs) = true) (h : Post (.p (.flt (Float64.ofFrac (decide (a < 0) != decide (b < 0)) a.natAbs b.natAbs))) μ) : Bin prog w Z ht n .Div (.p (.int a)) (.p (.int b)) μ Post :=
  TO.two fun A s φ loc c1 c2 _ I r1 r2 => by
    obtain ⟨t, rfl⟩ := r1.toInt; obtain ⟨u, rfl⟩ := r2.toInt
    exact AutoIntOps.truediv_2 hz hi (P.tok h (.p (.flt _ _)) I)
theorem f_eq (h : Post (.p (.bool (Float64.cmp x y == some Ordering.eq))) μ) : Cmp prog w Z ht n .Eq (.p (.flt x)) (.p (.flt y)) μ Post :=
  TO.two fun A s φ loc c1 c2 _ I r1 r2 => by
    obtain ⟨t, rfl⟩ := r1.toFlt; obtain ⟨u, rfl⟩ := r2.toFlt
    exact AutoFloatOps.eq_0 (P.here h (.p (.bool _)) I)

/-! texts -/
theorem s_add {x y : Str} (hz : x.length + y.length ≤ 1000000) (h : Post (.p (.str (x ++ y))) μ) : Bin prog w Z ht n .Add (.p (.str x)) (.p (.str y)) μ Post :=
  TO.two fun A s φ loc c1 c2 _ I r1 r2 => by
    obtain ⟨t, rfl⟩ := r1.toStr; obtain ⟨u, rfl⟩ := r2.toStr
    exact PyProof.Rows.add_str (fun t' tk => P.tok h (.p (.str _ _)) I) (by show _ ≤ 2 ^ 24; omega)
end

section
variable {prog : Program} {w : World} {Z : Tb} {ht : Heap} {n : Nat} {F : Fm} {ρ : Rho} {μ : Store} {A : Around} {Post : AV → Store → Prop}

theorem TC.one {v1 : AV} {f : Value}
    (h : ∀ A s φ loc c1, AOk A n → InvG Z ht μ φ loc s.heap → RelA φ loc v1 c1 → wpAny (model prog w) A (call f [c1]) (P Z ht [] RelA s φ loc Post) NoE s) :
    TC prog w Z ht n f [v1] μ Post := by
  intro A s φ loc cs a I r
  cases r with
  | cons r1 r => cases r with
    | nil => exact h A s φ loc _ a I r1
theorem TC.two {v1 v2 : AV} {f : Value}
    (h : ∀ A s φ loc c1 c2, AOk A n → InvG Z ht μ φ loc s.heap → RelA φ loc v1 c1 → RelA φ loc v2 c2 → wpAny (model prog w) A (call f [c1, c2]) (P Z ht [] RelA s φ loc Post) NoE s) :
    TC prog w Z ht n f [v1, v2] μ Post := by
  intro A s φ loc cs a I r
  cases r with
  | cons r1 r => cases r with
    | cons r2 r => cases r with
      | nil => exact h A s φ loc _ _ a I r1 r2
theorem TC.three {v1 v2 v3 : AV} {f : Value}
    (h : ∀ A s φ loc c1 c2 c3, AOk A n → InvG Z ht μ φ loc s.heap → RelA φ loc v1 c1 → RelA φ loc v2 c2 → RelA φ loc v3 c3 → wpAny (model prog w) A (call f [c1, c2, c3]) (P Z ht [] RelA s φ loc Post) NoE s) :
    TC prog w Z ht n f [v1, v2, v3] μ Post := by
  intro A s φ loc cs a I r
  cases r with
  | cons r1 r => cases r with
    | cons r2 r => cases r with
      | cons r3 r => cases r with
        | nil => exact h A s φ loc _ _ _ a I r1 r2 r3
theorem intsAre {φ : Frz} : ∀ {ns : List Int} {cs : List Value}, RelL φ (ns.map V.int) cs → IntsAre cs ns
  | [], _, .nil => .nil
  | i :: ns, _, .cons (.int _ t) r => .cons i t (intsAre r)

theorem c_len {v : AV} {vs : List V} (hL : IsL μ v vs) (hz : vs.length ≤ 1000000) (h : Post (.p (.int vs.length)) μ) : TC prog w Z ht n (.builtin "len") [v] μ Post :=
  TC.one fun A s φ loc c a I r => by
    obtain ⟨b, items, rfl, hl, hr, _⟩ := hL.at I r
    have hlen := hr.length
    refine Calls.call_len_list hl.isList (by simp; omega) ?_
    refine ⟨_, _, φ, loc, _, _, h, .p ?_, I, Ext.refl ..⟩
    rw [hlen]; simp; exact .int _ _
theorem c_ord {c : Nat} (h : Post (.p (.int c)) μ) : TC prog w Z ht n (.builtin "ord") [.p (.str ⟨#[c]⟩)] μ Post :=
  TC.one fun A s φ loc x a I r => by
    obtain ⟨t, rfl⟩ := r.toStr
    exact PySem.P.ord_of_char (P.tok h (.p (.int _ _)) I)
theorem c_range {m : Int} (h : Post (.p (.rng m)) μ) : TC prog w Z ht n (.type "range") [.p (.int m)] μ Post :=
  TC.one fun A s φ loc x a I r => by
    obtain ⟨t, rfl⟩ := r.toInt
    refine call_range_1 ?_
    have hd := push_dead s.heap
    exact ⟨_, _, fz φ s.heap.objs.size _, loc, _, _, h, .p (.rng fz_at), I.freeze hd (Heap.get?_push_size _ rfl) (push_keep _ _), Ext.freeze (I.dead hd) hd (push_keep _ _)⟩
theorem c_intf {x : UInt64} {sg : Bool} {m : Nat} {e : Int} (hd : Float64.decode x = .fin sg m e) (h : Post (.p (.int (Float64.truncOf sg m e))) μ) : TC prog w Z ht n (.type "int") [.p (.flt x)] μ Post :=
  TC.one fun A s φ loc c a I r => by
    obtain ⟨t, rfl⟩ := r.toFlt
    exact call_int_float hd (P.tok h (.p (.int _ _)) I)
theorem c_divmod {a b : Int} (hb : b ≠ 0) (hl : b.natAbs.log2 < 9000) (h : Post (.p (.tup [.int (a.fdiv b), .int (a.fmod b)])) μ) : TC prog w Z ht n (.builtin "divmod") [.p (.int a), .p (.int b)] μ Post :=
  TC.two fun A s φ loc c1 c2 _ I r1 r2 => by
    obtain ⟨t, rfl⟩ := r1.toInt; obtain ⟨u, rfl⟩ := r2.toInt
    refine divmod_int hb ?_ (.inl (PyProof.noPylong_of_log2 hl))
    have hd := push_dead s.heap
    exact ⟨_, _, fz φ s.heap.objs.size (tupObj [.int (a.fdiv b) s.toks, .int (a.fmod b) (s.toks + 1)] 0), loc, _, _, h, .p (.tup fz_at (.cons (.int _ _) (.cons (.int _ _) .nil))), I.freeze hd (Heap.get?_push_size _ rfl) (push_keep _ _), Ext.freeze (I.dead hd) hd (push_keep _ _)⟩
theorem gm_bitlen {a : Int} : GM prog w Z ht μ (.p (.int a)) "bit_length" "int.bit_length" := fun A s φ loc c pl Q I r h => by
  obtain ⟨t, rfl⟩ := r.toInt
  exact getMethod_int_bit_length h
theorem c_bitlen {a : Int} (h : Post (.p (.int (Builtin.Int.intBits a))) μ) : TC prog w Z ht n (.builtin "int.bit_length") [.p (.int a)] μ Post :=
  TC.one fun A s φ loc c _ I r => by
    obtain ⟨t, rfl⟩ := r.toInt
    exact call_int_bit_length (P.tok h (.p (.int _ _)) I)
theorem c_count {v : AV} {ns : List Int} {k : Int} (hL : IsL μ v (ns.map V.int)) (h : Post (.p (.int (ns.count k : Nat))) μ) : TC prog w Z ht n (.builtin "list.count") [v, .p (.int k)] μ Post :=
  TC.two fun A s φ loc c1 c2 _ I r1 r2 => by
    obtain ⟨u, rfl⟩ := r2.toInt
    obtain ⟨b, items, rfl, hl, hr, _⟩ := hL.at I r1
    exact count_list_ints hl.isList (intsAre hr) (P.tok h (.p (.int _ _)) I)
theorem c_min2 {a b : Int} (h : Post (.p (.int (min a b))) μ) : TC prog w Z ht n (.builtin "min") [.p (.int a), .p (.int b)] μ Post :=
  TC.two fun A s φ loc c1 c2 ha I r1 r2 => by
    obtain ⟨t, rfl⟩ := r1.toInt; obtain ⟨u, rfl⟩ := r2.toInt
    refine min_two_ints ha.handled fun h' tk kp => ?_
    refine ⟨_, _, φ, loc, _, _, h, .p ?_, I.gar kp, Ext.gar kp⟩
    by_cases q : b < a
    · rw [if_pos q, show min a b = b from by omega]; exact .int _ _
    · rw [if_neg q, show min a b = a from by omega]; exact .int _ _
theorem c_sum {v : AV} {ns : List Int} (hL : IsL μ v (ns.map V.int)) (h : Post (.p (.int ns.sum)) μ) : TC prog w Z ht n (.builtin "sum") [v] μ Post :=
  TC.one fun A s φ loc c ha I r1 => by
    obtain ⟨b, items, rfl, hl, hr, _⟩ := hL.at I r1
    have hi := intsAre hr
    obtain ⟨m, ho⟩ := id hl
    have hne : b ≠ s.heap.objs.size := Nat.ne_of_lt (Heap.lt_size ho)
    have W := (Walks.list (prog := prog) (w := w) (A := A.in1) ha.handled s.heap.objs.size b hne items.toArray).toS
    refine call_sum_walkAnyS (wpAny_pyIter_list hl.isList ?_)
    have hval : ∀ i v, items.toArray[i]? = some v → ∃ t, v = Value.int (ns.getD i 0) t := by
      intro i v hv
      have hv' : items[i]? = some v := by simpa using hv
      clear hv W hl ho hr hL h
      induction hi generalizing i with
      | nil => simp at hv'
      | cons k t r ih =>
        cases i with
        | zero => simp at hv'; exact ⟨t, hv'.symm⟩
        | succ i => rw [List.getElem?_cons_succ] at hv'; obtain ⟨t', e⟩ := ih i hv'; exact ⟨t', by simpa using e⟩
    refine ⟨s.heap.objs.size, _, _, _, _, _, _, fun i => ns.getD i 0, rfl, W, ⟨⟨_, Heap.get?_push_size _ rfl, rfl, rfl⟩, hl.isList.at fun o e => Heap.get?_push_of_some _ e⟩, fun b' hb => ?_, hval, fun s' t' hm => ?_⟩
    · rcases List.mem_cons.mp hb with rfl | hb
      · exact Heap.lt_size (Heap.get?_push_size _ rfl)
      · obtain rfl := List.mem_singleton.mp hb
        exact Heap.lt_size (Heap.get?_push_of_some _ ho)
    · obtain ⟨h', g', d', tk', os'⟩ := s'
      have e1 : g' = s.gens := hm.gens
      have e2 : d' = s.drawn := hm.drawn
      have e3 : os' = s.os := hm.os
      subst e1 e2 e3
      have kp : ∀ b o, s.heap.get? b = some o → h'.get? b = some o := fun b o e => hm.heap b o (fun hb => absurd (Heap.lt_size e) ((List.mem_singleton.mp hb) ▸ Nat.lt_irrefl _)) (Heap.get?_push_of_some _ e)
      refine ⟨_, _, φ, loc, h', tk', h, .p ?_, I.gar kp, Ext.gar kp⟩
      have e : preSum (fun i => ns.getD i 0) items.toArray.size = ns.sum := by
        rw [show items.toArray.size = ns.length from by rw [List.size_toArray, ← hi.length]]
        rw [preSum_getD, List.take_length]
      rw [e]
      exact .int _ _

/-! truth -/
theorem t_int {a : Int} {Post : Bool → Store → Prop} (h : Post (a != 0) μ) : Tru prog w Z ht n (.p (.int a)) μ Post :=
  TO.one fun A s φ loc c1 _ I r1 => by
    obtain ⟨t, rfl⟩ := r1.toInt
    exact PyProof.Rows.truthy_int (P.here h rfl I)
theorem t_list {v : AV} {vs : List V} {Post : Bool → Store → Prop} (hL : IsL μ v vs) (hz : vs.length ≤ 1000000) (h : Post (!vs.isEmpty) μ) : Tru prog w Z ht n v μ Post :=
  TO.one fun A s φ loc c1 _ I r1 => by
    obtain ⟨b, items, rfl, hl, hr, _⟩ := hL.at I r1
    have hlen := hr.length
    refine wpAny_truthy_list hl.isList (by simp; omega) ?_
    have e : items.toArray.isEmpty = vs.isEmpty := by
      rw [List.isEmpty_toArray]
      cases hr <;> rfl
    rw [e]
    exact P.tok h rfl I

/-! lists of numbers -/
theorem l_eq {v u : AV} {ns ms : List Int} (hL : IsL μ v (ns.map V.int)) (hM : IsL μ u (ms.map V.int)) (h : Post (.p (.bool (decide (ns = ms)))) μ) : Cmp prog w Z ht n .Eq v u μ Post :=
  TO.two fun A s φ loc c1 c2 ha I r1 r2 => by
    obtain ⟨b, items, rfl, hl, hr, _⟩ := hL.at I r1
    obtain ⟨b', items', rfl, hl', hr', _⟩ := hM.at I r2
    exact ke_eq_ints hl.isList hl'.isList (intsAre hr) (intsAre hr') (by have := ha.units; show _ < 9900; omega) (P.here h (.p (.bool _)) I)
theorem l_ne {v u : AV} {ns ms : List Int} (hL : IsL μ v (ns.map V.int)) (hM : IsL μ u (ms.map V.int)) (h : Post (.p (.bool (!decide (ns = ms)))) μ) : Cmp prog w Z ht n .NotEq v u μ Post :=
  TO.two fun A s φ loc c1 c2 ha I r1 r2 => by
    obtain ⟨b, items, rfl, hl, hr, _⟩ := hL.at I r1
    obtain ⟨b', items', rfl, hl', hr', _⟩ := hM.at I r2
    exact ke_ne_ints hl.isList hl'.isList (intsAre hr) (intsAre hr') (by have := ha.units; show _ < 9900; omega) (P.here h (.p (.bool _)) I)
theorem l_notin {k : Int} {u : AV} {ms : List Int} (hM : IsL μ u (ms.map V.int)) (h : Post (.p (.bool (!(ms.any (· == k))))) μ) : Cmp prog w Z ht n .NotIn (.p (.int k)) u μ Post :=
  TO.two fun A s φ loc c1 c2 ha I r1 r2 => by
    obtain ⟨t, rfl⟩ := r1.toInt
    obtain ⟨b', items', rfl, hl', hr', _⟩ := hM.at I r2
    exact notin_list_ints hl'.isList (intsAre hr') (P.here h (.p (.bool _)) I)
end

/-! pairs of a number and a text -/
abbrev Wd := Int × Str
def wv (p : Wd) : V := .tup [.int p.1, .str p.2]
def wlt (a b : Wd) : Bool := if a.1 = b.1 then decide (a.2.cps.toList < b.2.cps.toList) else decide (a.1 < b.1)
theorem Rel.pair {φ : Frz} {p : Wd} {c : Value} (r : Rel φ (wv p) c) : ∃ b n t u, c = .ref b ∧ φ b = some (tupObj [.int p.1 t, .str p.2 u] n) := by
  unfold wv at r
  cases r with
  | tup h1 h2 => cases h2 with
    | cons a b => cases a; cases b with
      | cons a b => cases a; cases b; exact ⟨_, _, _, _, rfl, h1⟩

theorem tuple_ltP (l b : Addr) (i j : Int) (x y : Str) (t u t' u' : Tok) (n n2 : Nat) :
    Meets (Builtin.«tuple.__lt__» ⟨[.ref l, .ref b], []⟩)
      (fun A R s => s.heap.get? l = some (tupObj [.int i t, .str x u] n) ∧ s.heap.get? b = some (tupObj [.int j t', .str y u'] n2) ∧
        R (.ok (.ret (.bool (if x = y ∧ i = j then false else wlt (i, x) (j, y))))) s) :=
  .of_wp fun prog w A R s h => by
    obtain ⟨hp, g, d, tk, os⟩ := s; obtain ⟨hl, hb, h⟩ := h
    have f2 := AutoSeq1.sub_tuple_tuple
    have hl' : hp.get? l = some { cls := .type "tuple", dict := none, data := .seq #[Value.int i t, .str x u] n, slots := #[] } := hl
    have hb' : hp.get? b = some { cls := .type "tuple", dict := none, data := .seq #[Value.int j t', .str y u'] n2, slots := #[] } := hb
    wp_walk using AutoSeq1.wpAny_loadPart' hl', AutoSeq1.wpAny_loadPart' hb', wpAny_forIn_list _ (fun rest b s' => b.1 = none ∧ s' = ⟨hp, g, d, tk, os⟩ ∧ ((rest = [(Value.int i t, Value.int j t'), (.str x u, .str y u')]) ∨ (i = j ∧ rest = [(Value.str x u, Value.str y u')]) ∨ (i = j ∧ x = y ∧ rest = []))) _
    case turn =>
      rintro ⟨p, q⟩ rest b s' ⟨hb', rfl, hz | ⟨rfl, hz⟩ | ⟨_, _, hz⟩⟩
      · injection hz with h1 h2
        injection h1 with h3 h4
        subst h3 h4 h2
        refine wpAny_bind (SeqAt.EqAt.int_int i t j t' prog w _ _ ?_)
        by_cases q : i = j
        · subst q
          rw [beq_self_eq_true]
          wp_walk
          exact ⟨rfl, rfl, .inr (.inl ⟨rfl, rfl⟩)⟩
        · rw [show (i == j) = false from beq_eq_false_iff_ne.mpr q]
          simp only [Bool.not_false, if_true]
          refine wpAny_bind (wpAny_rule (wpAny_bind (show wpAny (model prog w) _ (compareOp .Lt (.int i t) (.int j t')) _ _ _ from PyProof.Rows.lt_int ?_)))
          wp_walk
          refine ⟨_, rfl, ?_⟩
          rw [if_neg (fun e => q e.2)] at h
          unfold wlt at h
          rw [if_neg q] at h
          exact h
      · injection hz with h1 h2
        injection h1 with h3 h4
        subst h3 h4 h2
        refine wpAny_bind ((eqGives_str x y u u').at _ _ prog w _ _ ?_)
        by_cases q : x = y
        · subst q
          rw [beq_self_eq_true]
          wp_walk
          exact ⟨rfl, rfl, .inr (.inr ⟨rfl, rfl, rfl⟩)⟩
        · rw [show (x == y) = false from beq_eq_false_iff_ne.mpr q]
          simp only [Bool.not_false, if_true]
          refine wpAny_bind (wpAny_rule (wpAny_bind (show wpAny (model prog w) _ (compareOp .Lt (.str x u) (.str y u')) _ _ _ from PyProof.Rows.lt_str ?_)))
          wp_walk
          refine ⟨_, rfl, ?_⟩
          rw [if_neg (fun e => q e.1)] at h
          unfold wlt at h
          rw [if_pos rfl] at h
          exact h
      · cases hz
    case fin =>
      rintro ⟨b1, b2⟩ s' ⟨hbn, rfl, hz | ⟨rfl, hz⟩ | ⟨rfl, rfl, hz⟩⟩
      · cases hz
      · cases hz
      · obtain rfl : b1 = none := hbn
        wp_walk
        refine ⟨_, rfl, ?_⟩
        rw [if_pos ⟨rfl, rfl⟩] at h
        simpa [Builtin.Tuple.tupleCompareSizes] using h
    case h =>
      exact ⟨rfl, rfl, .inl rfl⟩

theorem wlt_self (p : Wd) : wlt p p = false := by
  unfold wlt
  rw [if_pos rfl]
  exact decide_eq_false (List.lt_irrefl _)
section
variable {prog : Program} {w : World} {Z : Tb} {ht : Heap} {n : Nat} {F : Fm} {ρ : Rho} {μ : Store} {A : Around} {Post : AV → Store → Prop}
theorem w_lt {p q : Wd} (h : Post (.p (.bool (wlt p q))) μ) : Cmp prog w Z ht n .Lt (.p (wv p)) (.p (wv q)) μ Post :=
  TO.two fun A s φ loc c1 c2 ha I r1 r2 => by
    cases r1 with
    | p r1 => cases r2 with
      | p r2 =>
        obtain ⟨b1, n1, t1, u1, rfl, h1⟩ := r1.pair
        obtain ⟨b2, n2, t2, u2, rfl, h2⟩ := r2.pair
        have g1 := I.sub _ _ h1
        have g2 := I.sub _ _ h2
        refine (show wpAny (model prog w) A (richCompare .Lt (.ref b1) (.ref b2)) _ _ s from richCompare_meets_room (op := .Lt) ⟨_, g1, rfl⟩ ⟨_, g2, rfl⟩ PySem.F.slot_tuple_lt PySem.F.entry_tuple_lt (PySem.F.args_tuple_lt_2 _ _) (tuple_ltP b1 b2 p.1 q.1 p.2 q.2 t1 u1 t2 u2 n1 n2) ⟨g1, g2, ?_⟩ (by have := ha.units; show _ < 9900; omega))
        refine ⟨(fun e => nomatch e), ?_⟩
        have e : (if p.2 = q.2 ∧ p.1 = q.1 then false else wlt (p.1, p.2) (q.1, q.2)) = wlt p q := by
          split
          · next hq =>
            obtain ⟨a1, b1⟩ := p; obtain ⟨a2, b2⟩ := q
            simp only at hq
            obtain ⟨rfl, rfl⟩ := hq
            exact (wlt_self _).symm
          · rfl
        rw [e]
        exact P.here h (.p (.bool _)) I

/-! floats: the greatest and the least of three -/
def fgt (x y : UInt64) : Bool := Float64.cmp x y == some Ordering.gt
def flt' (x y : UInt64) : Bool := Float64.cmp x y == some Ordering.lt
def fmax3 (a b c : UInt64) : UInt64 := if fgt b a then (if fgt c b then c else b) else (if fgt c a then c else a)
def fmin3 (a b c : UInt64) : UInt64 := if flt' b a then (if flt' c b then c else b) else (if flt' c a then c else a)
theorem best3 {bt : Nat → Nat → Bool} : argBest bt 2 = if bt 1 0 then (if bt 2 1 then 2 else 1) else (if bt 2 0 then 2 else 0) := by
  show (if bt 2 (if bt 1 0 then 1 else 0) then 2 else (if bt 1 0 then 1 else 0)) = _
  cases bt 1 0 <;> rfl
theorem c_max3 {a b c : UInt64} (h : Post (.p (.flt (fmax3 a b c))) μ) : TC prog w Z ht n (.builtin "max") [.p (.flt a), .p (.flt b), .p (.flt c)] μ Post :=
  TC.three fun A s φ loc c1 c2 c3 ha I r1 r2 r3 => by
    obtain ⟨t, rfl⟩ := r1.toFlt; obtain ⟨u, rfl⟩ := r2.toFlt; obtain ⟨x, rfl⟩ := r3.toFlt
    have hT : (s.heap.push { cls := .type "tuple", data := .seq #[.float a t, .float b u, .float c x] }).IsTuple s.heap.objs.size #[.float a t, .float b u, .float c x] := ⟨_, Heap.get?_push_size _ rfl, rfl, 0, rfl⟩
    refine call_max_three (wpAny_pyIter_tuple hT ?_)
    have hsz : (s.heap.push { cls := .type "tuple", data := .seq #[.float a t, .float b u, .float c x] }).objs.size = s.heap.objs.size + 1 := Heap.size_push ..
    have hval : ∀ i v, #[Value.float a t, .float b u, .float c x][i]? = some v → ∃ t', v = Value.float ([a, b, c].getD i 0) t' := by
      intro i v hv
      match i with
      | 0 => simp at hv; exact ⟨_, hv.symm⟩
      | 1 => simp at hv; exact ⟨_, hv.symm⟩
      | 2 => simp at hv; exact ⟨_, hv.symm⟩
      | i+3 => simp at hv
    refine ⟨_, [_, s.heap.objs.size], [_], _, _, _, fun i j => fgt ([a, b, c].getD i 0) ([a, b, c].getD j 0), rfl, Walks.tuple (A := A.in1) ha.handled _ s.heap.objs.size (by rw [hsz]; exact Nat.ne_of_lt (Nat.lt_succ_self _)) #[.float a t, .float b u, .float c x],
      ⟨⟨_, Heap.get?_push_size _ rfl, rfl, rfl⟩, hT.push _⟩, fun d hd => ?_, Nat.succ_pos _, fun i j vi vj s Q E hi hj h => ?_, fun v h' tk hP hk => ?_⟩
    · show d < ((s.heap.push _).push _).objs.size
      rw [Heap.size_push, hsz]
      rcases List.mem_cons.mp hd with rfl | hd
      · rw [hsz]; exact Nat.lt_succ_self _
      · rcases List.mem_cons.mp hd with rfl | hd
        · exact Nat.lt_succ_of_lt (Nat.lt_succ_self _)
        · cases hd
    · obtain ⟨t1, rfl⟩ := hval i vi hi
      obtain ⟨t2, rfl⟩ := hval j vj hj
      exact AutoFloatOps.gt_0 h
    · have hold : ∀ d o, s.heap.get? d = some o → h'.get? d = some o := fun d o e => by
        refine hk d o (fun hm => ?_) (Heap.get?_push_of_some _ (Heap.get?_push_of_some _ e))
        rcases List.mem_cons.mp hm with e1 | hm
        · have := Heap.lt_size e; rw [e1, hsz] at this; exact Nat.lt_irrefl _ (Nat.lt_of_succ_lt this)
        · cases hm
      obtain ⟨t', rfl⟩ := hval _ v hP
      refine ⟨_, _, φ, loc, _, _, h, .p ?_, I.gar hold, Ext.gar hold⟩
      have e : [a, b, c].getD (argBest (fun i j => fgt ([a, b, c].getD i 0) ([a, b, c].getD j 0)) (#[Value.float a t, .float b u, .float c x].size - 1)) 0 = fmax3 a b c := by
        show [a, b, c].getD (argBest (fun i j => fgt ([a, b, c].getD i 0) ([a, b, c].getD j 0)) 2) 0 = fmax3 a b c
        rw [best3]
        show [a, b, c].getD (if fgt b a then (if fgt c b then 2 else 1) else (if fgt c a then 2 else 0)) 0 = _
        unfold fmax3
        split <;> split <;> rfl
      rw [e]
      exact .flt _ _
theorem c_min3 {a b c : UInt64} (h : Post (.p (.flt (fmin3 a b c))) μ) : TC prog w Z ht n (.builtin "min") [.p (.flt a), .p (.flt b), .p (.flt c)] μ Post :=
  TC.three fun A s φ loc c1 c2 c3 ha I r1 r2 r3 => by
    obtain ⟨t, rfl⟩ := r1.toFlt; obtain ⟨u, rfl⟩ := r2.toFlt; obtain ⟨x, rfl⟩ := r3.toFlt
    have hT : (s.heap.push { cls := .type "tuple", data := .seq #[.float a t, .float b u, .float c x] }).IsTuple s.heap.objs.size #[.float a t, .float b u, .float c x] := ⟨_, Heap.get?_push_size _ rfl, rfl, 0, rfl⟩
    refine call_min_three (wpAny_pyIter_tuple hT ?_)
    have hsz : (s.heap.push { cls := .type "tuple", data := .seq #[.float a t, .float b u, .float c x] }).objs.size = s.heap.objs.size + 1 := Heap.size_push ..
    have hval : ∀ i v, #[Value.float a t, .float b u, .float c x][i]? = some v → ∃ t', v = Value.float ([a, b, c].getD i 0) t' := by
      intro i v hv
      match i with
      | 0 => simp at hv; exact ⟨_, hv.symm⟩
      | 1 => simp at hv; exact ⟨_, hv.symm⟩
      | 2 => simp at hv; exact ⟨_, hv.symm⟩
      | i+3 => simp at hv
    refine ⟨_, [_, s.heap.objs.size], [_], _, _, _, fun i j => flt' ([a, b, c].getD i 0) ([a, b, c].getD j 0), rfl, Walks.tuple (A := A.in1) ha.handled _ s.heap.objs.size (by rw [hsz]; exact Nat.ne_of_lt (Nat.lt_succ_self _)) #[.float a t, .float b u, .float c x],
      ⟨⟨_, Heap.get?_push_size _ rfl, rfl, rfl⟩, hT.push _⟩, fun d hd => ?_, Nat.succ_pos _, fun i j vi vj s Q E hi hj h => ?_, fun v h' tk hP hk => ?_⟩
    · show d < ((s.heap.push _).push _).objs.size
      rw [Heap.size_push, hsz]
      rcases List.mem_cons.mp hd with rfl | hd
      · rw [hsz]; exact Nat.lt_succ_self _
      · rcases List.mem_cons.mp hd with rfl | hd
        · exact Nat.lt_succ_of_lt (Nat.lt_succ_self _)
        · cases hd
    · obtain ⟨t1, rfl⟩ := hval i vi hi
      obtain ⟨t2, rfl⟩ := hval j vj hj
      exact AutoFloatOps.lt_0 h
    · have hold : ∀ d o, s.heap.get? d = some o → h'.get? d = some o := fun d o e => by
        refine hk d o (fun hm => ?_) (Heap.get?_push_of_some _ (Heap.get?_push_of_some _ e))
        rcases List.mem_cons.mp hm with e1 | hm
        · have := Heap.lt_size e; rw [e1, hsz] at this; exact Nat.lt_irrefl _ (Nat.lt_of_succ_lt this)
        · cases hm
      obtain ⟨t', rfl⟩ := hval _ v hP
      refine ⟨_, _, φ, loc, _, _, h, .p ?_, I.gar hold, Ext.gar hold⟩
      have e : [a, b, c].getD (argBest (fun i j => flt' ([a, b, c].getD i 0) ([a, b, c].getD j 0)) (#[Value.float a t, .float b u, .float c x].size - 1)) 0 = fmin3 a b c := by
        show [a, b, c].getD (argBest (fun i j => flt' ([a, b, c].getD i 0) ([a, b, c].getD j 0)) 2) 0 = fmin3 a b c
        rw [best3]
        show [a, b, c].getD (if flt' b a then (if flt' c b then 2 else 1) else (if flt' c a then 2 else 0)) 0 = _
        unfold fmin3
        split <;> split <;> rfl
      rw [e]
      exact .flt _ _

/-! going backwards -/
theorem src_rev {φ : Frz} {loc : Locs} {v : AV} {vs : List V} {l it : Addr} (r : RelA φ loc v (.ref l)) : Src prog w Z ht φ loc it vs.reverse (fun μ => IsL μ v vs) (fun i h => i ≤ vs.length ∧ h.IsRevIter it l ((vs.length : Int) - 1 - (i : Int))) where
  next := fun A s φ' loc' μ i x Q hh I le pr hG hJ hx hQ => by
    obtain ⟨hi, hJ⟩ := hJ
    obtain ⟨a, items, e, hl, hr, _⟩ := hG.at I (r.mono le pr)
    cases e
    have hlt : i < vs.length := by have := (List.getElem?_eq_some_iff.mp hx).1; simpa using this
    have hx' : vs[vs.length - 1 - i]? = some x := by rw [List.getElem?_reverse hlt] at hx; exact hx
    obtain ⟨y, hy, hxy⟩ := hr.get hx'
    have e : (vs.length : Int) - 1 - (i : Int) = ((vs.length - 1 - i : Nat) : Int) := by omega
    rw [e] at hJ
    refine wpAny_pyNext_rev_item hJ hl.isList (by simpa using hy) fun h' hi' hs => hQ y h' s.toks hxy ⟨hlt, ?_⟩ fun b o hb e => (hs.2 b hb).trans e
    rw [show (vs.length : Int) - 1 - ((i + 1 : Nat) : Int) = ((vs.length - 1 - i : Nat) : Int) - 1 by omega]
    exact hi'
  stop := fun A s φ' loc' μ i Q hh I le pr hG hJ hx hQ => by
    obtain ⟨hi, hJ⟩ := hJ
    have hn : i = vs.length := by have := List.getElem?_eq_none_iff.mp hx; simp at this; omega
    subst hn
    rw [show (vs.length : Int) - 1 - (vs.length : Int) = -1 by omega] at hJ
    exact wpAny_pyNext_rev_end hh hJ fun h' hs => hQ h' s.toks fun b o hb e => hs b o hb e
  same := fun A s i Q E hJ hQ => wpAny_pyIter_revIter hJ.2 hQ
  keep := fun i h h' hJ e => ⟨hJ.1, let ⟨o, ho, r⟩ := hJ.2; ⟨o, e.trans ho, r⟩⟩
  alive := fun i h hJ => let ⟨o, ho, _⟩ := hJ.2; ⟨o, ho⟩
  cls := fun i h o hJ e => let ⟨o', ho, hc, _⟩ := hJ.2; ⟨_, by rw [ho] at e; cases e; exact hc, by decide⟩
end

theorem pick_rev (vs : List V) : pick vs none none (some (-1)) = vs.reverse := by
  unfold pick
  rw [krv_bounds]
  show (sliceRange ((vs.length : Int) - 1) (-1) (-1)).filterMap _ = _
  rw [krv_sliceRange, krv_range, List.filterMap_reverse]
  have h := krv_all vs.toArray
  simp at h
  rw [h]
theorem pick_upto (vs : List V) (b : Nat) : pick vs none (some b) none = vs.take b := by
  unfold pick
  rw [sliceBounds_plain]
  show (sliceRange ((0 : Nat) : Int) ((clipAt vs.length b : Nat) : Int) 1).filterMap _ = _
  rw [sliceRange_one, Nat.sub_zero]
  have h := pick_run vs.toArray 0 (clipAt vs.length b)
  simp at h
  simp
  rw [h, clipAt_nat]
  rcases Nat.le_total b vs.length with h | h
  · rw [Nat.min_eq_left h]
  · rw [Nat.min_eq_right h, List.take_of_length_le (Nat.le_refl _), List.take_of_length_le h]
def pickI (ns : List Int) (lo hi st : Option Int) : List Int := (sliceRange (sliceBounds lo hi st ns.length).1 (sliceBounds lo hi st ns.length).2.1 (sliceBounds lo hi st ns.length).2.2).filterMap (ns[·]?)
theorem pick_ints (ns : List Int) (lo hi st : Option Int) : pick (ns.map V.int) lo hi st = (pickI ns lo hi st).map V.int := by
  unfold pick pickI
  rw [List.length_map]
  generalize sliceRange _ _ _ = l
  induction l with
  | nil => rfl
  | cons i l ih =>
    rw [List.filterMap_cons, List.filterMap_cons, List.getElem?_map]
    cases ns[i]? with
    | none => exact ih
    | some x => show _ :: _ = _ :: _; rw [ih]
theorem str_rev (x : Str) (t : Tok) : ((slicePicked x none none (some (-1, t))).filterMap (x.cps[·]?)).toArray = x.cps.reverse := by
  have e : slicePicked x none none (some (-1, t)) = sliceRange ((x.length : Int) - 1) (-1) (-1) := rfl
  rw [e, krv_sliceRange, krv_range, List.filterMap_reverse]
  have h := krv_all x.cps
  rw [show x.length = x.cps.size from rfl, h, List.reverse_toArray]

section
variable {prog : Program} {w : World} {Z : Tb} {ht : Heap} {n : Nat} {F : Fm} {ρ : Rho} {μ : Store} {A : Around} {Post : AV → Store → Prop}
theorem TE.sliceS {value st : Expr} {p pos : Pos}
    (h : TE prog w Z ht n F value ρ μ fun v μ₁ => TE prog w Z ht n F st ρ μ₁ fun k μ₂ => k = .p (.int (-1)) ∧ ∃ x : Str, v = .p (.str x) ∧ x.cps.size ≤ 1000000 ∧ Post (.p (.str ⟨x.cps.reverse⟩)) μ₂)
    (hs : ∃ f : Value → Value → List Value, ∀ o i, subscripted (.Slice none none (some st) p) false o i = operate (f o i) (getItem o i) := by first | exact ⟨fun o i => [o, i], fun _ _ => rfl⟩ | exact ⟨fun o i => [i, o], fun _ _ => rfl⟩) :
    TE prog w Z ht n F (.Subscript value (.Slice none none (some st) p) pos) ρ μ Post := by
  intro A s φ loc a I E
  obtain ⟨fo, hs⟩ := hs
  refine Subscript_ (wpAny_mono (h A s φ loc a I E) (fun c s₁ p => ?_) fun _ _ e => e)
  obtain ⟨v, μ₁, φ₁, loc₁, h₁, tk₁, p, r, I₁, X₁⟩ := p
  have E₁ := E.ext X₁
  refine wpAny_Slice ?_
  rw [evalPart_none]
  refine wpAny_pure (wpAny_pure ?_)
  rw [evalPart_some]
  refine wpAny_mono (p A _ φ₁ loc₁ a I₁ E₁) (fun c3 s₄ q => ?_) fun _ _ e => e
  obtain ⟨k, μ₄, φ₄, loc₄, h₄, tk₄, ⟨rfl, x, rfl, hx, q⟩, rk, I₄, X₄⟩ := q
  have XX := X₁.trans X₄
  obtain ⟨t, rfl⟩ := (r.mono X₄.mono X₄.pre).toStr
  obtain ⟨u, rfl⟩ := rk.toInt
  have I₅ := I₄.gar (push_keep h₄ { cls := .type "slice", data := .fields #[.none, .none, .int (-1) u] })
  have X₅ : Ext Z [] φ loc s.heap φ₄ loc₄ (h₄.push { cls := .type "slice", data := .fields #[.none, .none, .int (-1) u] }) := XX.trans (Ext.gar (push_keep _ _))
  refine tail_any (s := { s with heap := h₄.push { cls := .type "slice", data := .fields #[.none, .none, .int (-1) u] }, toks := tk₄ }) (typeIs_str _ x t) PySem.F.slot_str_getitem.lookup
    (wpAny_getItem_str_slice (l := none) (u := none) (st := some (-1, u)) ⟨_, Heap.get?_push_size _ rfl, rfl, rfl⟩ rfl ?_) (hs _ _)
  have e : sliceMade x t none none (some (-1, u)) = .str ⟨x.cps.reverse⟩ := by
    unfold sliceMade
    rw [if_neg (by simp), str_rev]
  rw [e]
  exact ⟨by show x.cps.reverse.size ≤ 2 ^ 24; rw [Array.size_reverse]; omega, _, _, φ₄, loc₄, _, _, q, .p (.str _ _), I₅, X₅⟩

theorem TI.rev {id : Str} {p pos : Pos} {e : Expr} {Post : List V → (Store → Prop) → Store → Prop}
    (h : TE prog w Z ht n F (.Name id p) ρ μ fun f μ₁ => f = .p (.val (.type "reversed")) ∧ TE prog w Z ht n F e ρ μ₁ fun v μ₂ => ∃ vs, IsL μ₂ v vs ∧ Post vs.reverse (fun μ => IsL μ v vs) μ₂)
    (he : starEach [e] F.env = (false, eval e F.env) :: starEach [] F.env := by rfl) (hp : ((backTo pos (starEach [e] F.env)).any (·.1)) = false := by rfl) :
    TI prog w Z ht n F (.Call (.Name id p) [e] [] pos) ρ μ Post := by
  intro A s φ loc a I E
  show wpAny _ A (eval (.Name id p) F.env >>= fun f => callWith pos f [] (backTo pos (starEach [e] F.env)) []) _ _ s
  refine wpAny_bind (wpAny_mono (h A s φ loc a I E) (fun c s₁ p => ?_) fun _ _ e => e)
  obtain ⟨v, μ₁, φ₁, loc₁, h₁, tk₁, ⟨rfl, p⟩, r, I₁, X₁⟩ := p
  cases r with
  | p r => cases r with
    | val =>
      refine PySem.callWith_type hp ?_
      have e1 : backTo pos (starEach [e] F.env) = (false, eval e F.env) :: backTo pos (starEach [] F.env) := by rw [he]; rfl
      have hl : TL prog w Z ht n F pos [e] ρ μ₁ (fun vs μ₂ => ∃ v, vs = [v] ∧ ∃ vs, IsL μ₂ v vs ∧ Post vs.reverse (fun μ => IsL μ v vs) μ₂) := TL.cons (p.imp fun v μ₂ q => TL.nil ⟨v, rfl, q⟩) he
      have h2 := hl A { s with heap := h₁, toks := tk₁ } φ₁ loc₁ a I₁ (E.ext X₁)
      rw [e1] at h2 ⊢
      refine Calls.evalArgs_plain (wpAny_mono h2 (fun cs s₂ q => ?_) fun _ _ e => e)
      obtain ⟨as, μ', φ', loc', h', tk', ⟨v, rfl, vs, hL, q⟩, rs, I', X'⟩ := q
      cases rs with
      | cons r rs => cases rs with
        | nil =>
          obtain ⟨l, items, rfl, hl, hr, _⟩ := hL.at I' r
          have hlen := hr.length
          refine call_reversed_list hl.isList ?_
          have hri : (h'.push (revObj l ((items.toArray.size : Int) - 1))).IsRevIter h'.objs.size l ((items.toArray.size : Int) - 1) := ⟨_, Heap.get?_push_size _ rfl, rfl, rfl⟩
          refine wpAny_pyIter_revIter (s := { s with heap := h'.push (revObj l ((items.toArray.size : Int) - 1)), toks := tk' }) hri ?_
          have hd := push_dead h'
          have XX := X₁.trans X'
          refine ⟨_, vs.reverse, _, _, _, φ', loc', _, _, q, hL, src_rev r, ⟨Nat.zero_le _, ?_⟩, I'.gar (push_keep _ _), XX.trans (Ext.gar (push_keep _ _)), none_of_dead XX.alive hd, I'.dead hd, not_loc I' hd, not_tab I' hd⟩
          rw [show (vs.length : Int) - 1 - ((0 : Nat) : Int) = (items.toArray.size : Int) - 1 by simp [hlen]]
          exact hri

theorem rep_toList {α : Type} (items : Array α) : ∀ (k : Nat) (acc : Array α), (List.foldl (fun x1 x2 => x1 ++ x2) acc (List.replicate k items)).toList = acc.toList ++ (List.replicate k items.toList).flatten
  | 0, acc => by simp
  | k+1, acc => by
    rw [List.replicate_succ, List.foldl_cons, rep_toList items k, List.replicate_succ, List.flatten_cons]
    simp
theorem RelL.rep {φ : Frz} {v : V} {c : Value} (r : Rel φ v c) : ∀ k, RelL φ (List.replicate k v) (List.replicate k [c]).flatten
  | 0 => .nil
  | k+1 => by
    rw [List.replicate_succ, List.replicate_succ, List.flatten_cons]
    exact .cons r (RelL.rep r k)
theorem o_rep {v : AV} {x : V} {k : Int} (hL : IsL μ v [x]) (h0 : 0 ≤ k) (hk : k ≤ 1000000) (h : Post (.m μ.length) (μ ++ [List.replicate k.toNat x])) : Bin prog w Z ht n .Mult v (.p (.int k)) μ Post :=
  TO.two fun A s φ loc c1 c2 ha I r1 r2 => by
    obtain ⟨u, rfl⟩ := r2.toInt
    obtain ⟨l, items, rfl, ⟨m, hl⟩, hr, _⟩ := hL.at I r1
    cases hr with
    | cons ra rb => cases rb with
      | nil =>
        rename_i c
        refine wpAny_binaryOp_repeat_ref (T := "list") (U := "int") (by decide) ⟨_, hl, rfl⟩ (fun s' => typeIs_int s' k u) noFill_list_mul PySem.F.fills_int_mul PySem.F.slot_int_rmul repeat_list PySem.F.slot_int_index.lookup
          (call_meets PySem.F.slot_int_rmul (typeIs_int s k u) PySem.F.entry_int_rmul (PySem.F.args_int_rmul_2 _ _) (int___rmul___int_list k u l [c].toArray m)
            ⟨hl, rfl, ⟨_, hl, rfl⟩, call_meets PySem.F.slot_list_mul ⟨_, hl, rfl⟩ PySem.F.entry_list_mul (PySem.F.args_list_mul_2 _ _)
              (AutoListH.list___mul___list_int_3 l [c].toArray m k u (by simp [Builtin.List.listFitsIndex]; omega) (by simp; omega) (by simp [Builtin.List.listTooLong, sizeLine]; omega))
              ⟨hl, ?_⟩⟩)
        have hd := push_dead s.heap
        have e : (List.foldl (fun x1 x2 => x1 ++ x2) #[] (List.replicate (if [c].toArray.isEmpty = true then 0 else k.toNat) [c].toArray)) = ((List.replicate k.toNat [c]).flatten).toArray := by
          apply Array.toList_inj.mp
          rw [rep_toList]; simp
        rw [e]
        refine ⟨_, _, φ, loc ++ [s.heap.objs.size], _, _, h, .m ?_, I.newlist hd ⟨0, Heap.get?_push_size _ rfl⟩ (RelL.rep ra k.toNat) (push_keep _ _), Ext.newlist hd (push_keep _ _)⟩
        rw [← I.len, List.getElem?_append_right (Nat.le_refl _)]; simp
end

/-- no word is less than the one ahead of it -/
def Asc (ws : List Wd) : Prop := ∀ i a b, ws[i]? = some a → ws[i+1]? = some b → wlt b a = false

theorem asc_run {cmp : Nat → Nat → (Bool → Shared → Prop) → Shared → Prop} {n : Nat} {s : Shared} (hc : ∀ i C, i + 1 < n → C false s → cmp (i + 1) i C s) {G : Nat → Shared → Prop} (hG : G n s) :
    ∀ (f k : Nat), 1 ≤ k → k + f = n → (kas_asc (List.toArray (List.range n)) f k).kasWp cmp G s
  | 0, k, _, e => by
    rw [Nat.add_zero] at e; subst e; exact hG
  | f+1, k, h1, e => by
    show cmp _ _ _ s
    have e1 : (List.toArray (List.range n)).getD k 0 = k := by simp [Array.getD, show k < n by omega]
    have e2 : (List.toArray (List.range n)).getD (k - 1) 0 = k - 1 := by simp [Array.getD, show k - 1 < n by omega]
    rw [e1, e2]
    obtain ⟨j, rfl⟩ : ∃ j, k = j + 1 := ⟨k - 1, by omega⟩
    refine hc j _ (by omega) ?_
    show (if false = true then _ else _ : KasT Nat).kasWp cmp G s
    rw [if_neg (by simp)]
    exact asc_run hc hG f (j + 1 + 1) (by omega) (by omega)
theorem asc_sort {cmp : Nat → Nat → (Bool → Shared → Prop) → Shared → Prop} {n : Nat} {s : Shared} (hn : 1 ≤ n) (hc : ∀ i C, i + 1 < n → C false s → cmp (i + 1) i C s) {G : Array Nat → Shared → Prop} (hG : G (List.toArray (List.range n)) s) :
    (kas_sort n).kasWp cmp G s := by
  unfold kas_sort kas_count
  rw [KasT.kasWp_bind, KasT.kasWp_bind]
  refine asc_run hc ?_ (n - 1) 1 (Nat.le_refl _) (by omega)
  rw [if_pos (by simp)]
  show KasT.kasWp cmp (if n < n then _ else _) G s
  rw [if_neg (Nat.lt_irrefl _)]
  exact hG

/-- a list of words in the heap -/
inductive WAt (h : Heap) : List Wd → List Value → Prop
  | nil : WAt h [] []
  | cons {p : Wd} {ps : List Wd} {cs : List Value} {b : Addr} {n : Nat} {t u : Tok} : h.get? b = some (tupObj [.int p.1 t, .str p.2 u] n) → WAt h ps cs → WAt h (p :: ps) (.ref b :: cs)
theorem WAt.of {Z : Tb} {ht : Heap} {μ : Store} {φ : Frz} {loc : Locs} {h : Heap} (I : InvG Z ht μ φ loc h) : ∀ {ws : List Wd} {cs : List Value}, RelL φ (ws.map wv) cs → WAt h ws cs
  | [], _, .nil => .nil
  | p :: ws, _, .cons r rs => by
    obtain ⟨b, n, t, u, rfl, e⟩ := r.pair
    exact .cons (I.sub _ _ e) (WAt.of I rs)
theorem WAt.keep {h h' : Heap} (k : ∀ b o, o.cls = .type "tuple" → h.get? b = some o → h'.get? b = some o) : ∀ {ws : List Wd} {cs : List Value}, WAt h ws cs → WAt h' ws cs
  | _, _, .nil => .nil
  | _, _, .cons e r => .cons (k _ _ rfl e) (r.keep k)
theorem WAt.length {h : Heap} : ∀ {ws : List Wd} {cs : List Value}, WAt h ws cs → cs.length = ws.length
  | _, _, .nil => rfl
  | _, _, .cons e r => by rw [List.length_cons, List.length_cons, r.length]
theorem WAt.get {h : Heap} : ∀ {ws : List Wd} {cs : List Value}, WAt h ws cs → ∀ {i : Nat} {p : Wd}, ws[i]? = some p → ∃ b n t u, cs.getD i Value.none = .ref b ∧ h.get? b = some (tupObj [.int p.1 t, .str p.2 u] n)
  | _, _, .nil, i, p, e => by simp at e
  | _, _, .cons e' r, 0, p, e => by simp at e; subst e; exact ⟨_, _, _, _, rfl, e'⟩
  | _, _, .cons e' r, i+1, p, e => by
    rw [List.getElem?_cons_succ] at e
    obtain ⟨b, n, t, u, h1, h2⟩ := r.get e
    exact ⟨b, n, t, u, by simpa using h1, h2⟩
theorem WAt.tups {h : Heap} : ∀ {ws : List Wd} {cs : List Value}, WAt h ws cs → ∃ fs, KatTups h cs fs ∧ fs.length = ws.length ∧ ∀ v ∈ fs, ∃ i t, v = Value.int i t
  | _, _, .nil => ⟨[], .nil, rfl, fun _ q => nomatch q⟩
  | _, _, .cons e r => by
    obtain ⟨fs, h1, h2, h3⟩ := r.tups
    refine ⟨_ :: fs, .cons e rfl rfl rfl h1, by simp [h2], fun v hv => ?_⟩
    rcases List.mem_cons.mp hv with rfl | hv
    · exact ⟨_, _, rfl⟩
    · exact h3 v hv

section
variable {prog : Program} {w : World} {A : Around} {E : Value → Shared → Prop} {s : Shared}
theorem word_ask {ws : List Wd} {cs : List Value} (W : WAt s.heap ws cs) (ha : Asc ws) {i : Nat} {C : Bool → Shared → Prop} (hi : i + 1 < ws.length) (h : C false s) : kas_ask prog w A (tuples' true) cs (i + 1) i C s := by
  unfold kas_ask
  have e1 : ws[i]? = some ws[i] := List.getElem?_eq_getElem (by omega)
  have e2 : ws[i+1]? = some ws[i+1] := List.getElem?_eq_getElem hi
  have hlt := ha i _ _ e1 e2
  obtain ⟨b1, n1, t1, u1, q1, g1⟩ := W.get e1
  obtain ⟨b2, n2, t2, u2, q2, g2⟩ := W.get e2
  rw [q1, q2]
  refine kat_lt g2 rfl g1 rfl ?_
  show KatLex prog w A true false C [(Value.int ws[i+1].1 t2, Value.int ws[i].1 t1), (.str ws[i+1].2 u2, .str ws[i].2 u1)] 0 s
  unfold wlt at hlt
  refine kat_cons (SeqAt.EqAt.int_int _ _ _ _ prog w _ _ (kat_go (fun q => ?_) fun q => ?_))
  · have q' := eq_of_beq q
    rw [if_pos q'] at hlt
    refine kat_yes (kat_cons ((eqGives_str _ _ _ _).at _ _ prog w _ _ (kat_go (fun q => ?_) fun q => ?_)))
    · exact kat_yes (kat_nil h)
    · refine kat_no (kat_one _ _ (PyProof.Rows.lt_str ?_))
      rw [hlt]; exact h
  · have q' := (beq_eq_false_iff_ne.mp q)
    rw [if_neg q'] at hlt
    refine kat_no (oneLt_int ?_)
    rw [hlt]; exact h

theorem range_map {cs : List Value} : (List.toArray (List.range cs.length)).toList.map (fun i => cs.getD i Value.none) = cs := by
  apply List.ext_getElem
  · simp
  · intro i h1 h2; simp [h2]

theorem sort_words {ws : List Wd} {cs : List Value} {a : Addr} {n : Nat} {P : PySem.Fin → Shared → Prop} (W : WAt s.heap ws cs) (has : Asc ws) (h64 : ws.length < 64) (ho : s.heap.get? a = some (seqObj "list" cs.toArray n))
    (h : ∀ h' e, h'.get? a = some (seqObj "list" cs.toArray e) → (∀ b o, b ≠ a → s.heap.get? b = some o → h'.get? b = some o) → P (.done (.ret .none)) { s with heap := h' }) :
    wpAny (model prog w) A (Builtin.«list.sort» ⟨[.ref a], []⟩) P E s := by
  have hlen := W.length
  have ha : a < s.heap.objs.size := Heap.lt_size ho
  have s1 := Heap.SameBut.update s.heap a (Obj.mapSeq fun _ => (#[] : Array Value))
  obtain ⟨e1, ho1⟩ : ∃ e1, (s.heap.update a (Obj.mapSeq fun _ => (#[] : Array Value))).get? a = some (seqObj "list" #[] e1) := ⟨_, get?_update_seq ho fun _ => #[]⟩
  have k3 : ∀ b o, b ≠ a → s.heap.get? b = some o → (((s.heap.update a (Obj.mapSeq fun _ => (#[] : Array Value))).push (seqObj "tuple" cs.toArray 0)).push (seqObj "list" #[] 0)).get? b = some o := fun b o hb e => Heap.get?_push_of_some _ (Heap.get?_push_of_some _ ((s1.2 b hb).trans e))
  have ho3 : (((s.heap.update a (Obj.mapSeq fun _ => (#[] : Array Value))).push (seqObj "tuple" cs.toArray 0)).push (seqObj "list" #[] 0)).get? a = some (seqObj "list" #[] e1) := Heap.get?_push_of_some _ (Heap.get?_push_of_some _ ho1)
  have W3 : WAt (((s.heap.update a (Obj.mapSeq fun _ => (#[] : Array Value))).push (seqObj "tuple" cs.toArray 0)).push (seqObj "list" #[] 0)) ws cs := W.keep fun b o hc e => k3 b o (fun q => by subst q; rw [ho] at e; cases e; exact absurd (Value.type.inj hc) (by decide)) e
  have s2 := Heap.SameBut.update (((s.heap.update a (Obj.mapSeq fun _ => (#[] : Array Value))).push (seqObj "tuple" cs.toArray 0)).push (seqObj "list" #[] 0)) a (Obj.mapSeq fun _ => cs.toArray)
  obtain ⟨c2, hc2⟩ : ∃ c2, ((((s.heap.update a (Obj.mapSeq fun _ => (#[] : Array Value))).push (seqObj "tuple" cs.toArray 0)).push (seqObj "list" #[] 0)).update a (Obj.mapSeq fun _ => cs.toArray)).get? a = some (seqObj "list" cs.toArray c2) := ⟨_, get?_update_seq ho3 fun _ => cs.toArray⟩
  have hfin := h _ c2 hc2 fun b o hb e => (s2.2 b hb).trans (k3 b o hb e)
  rw [list_sort_plain]
  refine wpAny_bind (listItems_at ho rfl ?_)
  refine wpAny_bind (listUpdate_at ho rfl ?_ (by rw [List.size_toArray, sizeLine_eq]; omega) (Nat.zero_le _))
  refine wpAny_bind (seqEpoch_at ho1 rfl ?_)
  refine wpAny_bind (wpAny_newTuple ?_ (by show cs.length ≤ _; rw [sizeLine_eq]; omega))
  refine wpAny_bind (wpAny_newList ?_ (Nat.zero_le _))
  refine wpAny_holding ?_
  show wpAny (model prog w) A _ P E { s with heap := ((s.heap.update a (Obj.mapSeq fun _ => (#[] : Array Value))).push (seqObj "tuple" cs.toArray 0)).push (seqObj "list" #[] 0) }
  dsimp only
  by_cases h2 : cs.toArray.size < 2
  · rw [if_pos h2, if_pos h2]
    refine wpAny_bind (wpAny_pure ?_)
    rw [StateT.run_pure]
    refine wpAny_bind (wpAny_pure ?_)
    dsimp only
    have hz : ((arrOf (SortSt.mk' general' (cs.toArray.zip cs.toArray) #[] 7 none)).map (·.2)) = cs.toArray := by
      show ((cs.toArray.zip cs.toArray).map (·.2)) = cs.toArray
      apply Array.toList_inj.mp
      simp [List.map_snd_zip]
    rw [hz]
    refine wpAny_bind (seqEpoch_at ho3 rfl ?_)
    refine wpAny_bind (listUpdate_at ho3 rfl ?_ (Nat.zero_le _) (by rw [List.size_toArray, sizeLine_eq]; omega))
    simp only [bne_self_eq_false, Bool.false_eq_true, if_false]
    exact wpAny_pure hfin
  · rw [if_neg h2, if_neg h2]
    have h2' : 2 ≤ cs.length := by rw [List.size_toArray] at h2; omega
    obtain ⟨fs, t1, t2, t3⟩ := W3.tups
    refine wpAny_bind (kat_kind (T := .type "int") t1 (by omega) (fun v hv => by obtain ⟨i, t, rfl⟩ := t3 v hv; exact .now) rfl ?_)
    have et : tuples' (Value.type "int" != Value.type "tuple") = tuples' true := rfl
    rw [et]
    have hrun : (kas_sort cs.length).kasWp (kas_ask prog w A (tuples' true) cs) (fun p s'' => p = List.toArray (List.range cs.length) ∧ s'' = { s with heap := ((s.heap.update a (Obj.mapSeq fun _ => (#[] : Array Value))).push (seqObj "tuple" cs.toArray 0)).push (seqObj "list" #[] 0) })
        { s with heap := ((s.heap.update a (Obj.mapSeq fun _ => (#[] : Array Value))).push (seqObj "tuple" cs.toArray 0)).push (seqObj "list" #[] 0) } :=
      asc_sort (by omega) (fun i C hi hC => word_ask W3 has (by omega) hC) ⟨rfl, rfl⟩
    refine wpAny_bind (wpAny_mono (kat_run (ks := cs) (vs := cs) (Q := fun st' s' => arrOf st' = (List.toArray (List.range cs.length)).map (kas_item (cs.toArray.zip cs.toArray)) ∧ failedOf st' = none ∧ s' = { s with heap := ((s.heap.update a (Obj.mapSeq fun _ => (#[] : Array Value))).push (seqObj "tuple" cs.toArray 0)).push (seqObj "list" #[] 0) })
      rfl h2' (by omega) (fun p st' s' a1 a2 a3 a4 => ⟨by rw [a2, a4.1], a3, a4.2⟩) hrun) ?_ fun _ _ e => e)
    rintro ⟨⟨⟩, st'⟩ s' ⟨har, hf, rfl⟩
    dsimp only
    have hout := kat_snds (ks := cs) (vs := cs) rfl har
    rw [range_map] at hout
    rw [hout]
    refine wpAny_bind (seqEpoch_at ho3 rfl ?_)
    refine wpAny_bind (listUpdate_at ho3 rfl ?_ (Nat.zero_le _) (by rw [List.size_toArray, sizeLine_eq]; omega))
    rw [hf]
    simp only [bne_self_eq_false, Bool.false_eq_true, if_false]
    exact wpAny_pure hfin

theorem sorted_words {ws : List Wd} {cs : List Value} {l : Addr} {Q : Value → Shared → Prop} (W : WAt s.heap ws cs) (has : Asc ws) (h64 : ws.length < 64) (hl : s.heap.IsList l cs.toArray)
    (h : ∀ D h' e, h'.get? D = some (seqObj "list" cs.toArray e) → s.heap.get? D = none → (∀ b o, s.heap.get? b = some o → h'.get? b = some o) → Q (.ref D) { s with heap := h' }) :
    wpAny (model prog w) A (call (.builtin "sorted") [.ref l]) Q E s := by
  have hlen := W.length
  refine Calls.call_function_entry kind_sorted plain_sorted entry_sorted (args_sorted1 _) ?_
  unfold Builtin.«sorted»
  refine wpAny_bind (m := checkCount "sorted" 1 1 _) (wpAny_pure ?_)
  refine wpAny_bind (collect_list hl ?_ (by rw [sizeLine_eq]; omega))
  refine wpAny_bind (wpAny_newList ?_ (by rw [sizeLine_eq]; omega))
  have hsz : ((s.heap.push (seqObj "list" #[] 0)).update s.heap.objs.size (Obj.mapSeq (· ++ cs.toArray))).objs.size = s.heap.objs.size + 1 := by
    rw [Heap.size_update, size_push']
  have hoL : (((s.heap.push (seqObj "list" #[] 0)).update s.heap.objs.size (Obj.mapSeq (· ++ cs.toArray))).push (seqObj "list" cs.toArray 0)).get? (s.heap.objs.size + 1) = some (seqObj "list" cs.toArray 0) := by
    rw [← hsz]; exact Heap.get?_push_size _ rfl
  have keep : ∀ b o, s.heap.get? b = some o → (((s.heap.push (seqObj "list" #[] 0)).update s.heap.objs.size (Obj.mapSeq (· ++ cs.toArray))).push (seqObj "list" cs.toArray 0)).get? b = some o := fun b o q => by
    have hlt : b < s.heap.objs.size := Heap.lt_size q
    rw [Heap.get?_push_ne _ _ _ (by rw [hsz]; exact Nat.ne_of_lt (Nat.lt_succ_of_lt hlt)), Heap.get?_update_ne _ _ _ _ (Nat.ne_of_lt hlt), Heap.get?_push_ne _ _ _ (Nat.ne_of_lt hlt)]
    exact q
  show wpAny _ _ _ _ _ { s with heap := ((s.heap.push (seqObj "list" #[] 0)).update s.heap.objs.size (Obj.mapSeq (· ++ cs.toArray))).push (seqObj "list" cs.toArray 0) }
  rw [hsz]
  refine wpAny_bind (wpAny_holding (wpAny_call_entry slot_list_sort ⟨_, hoL, rfl⟩ entry_list_sort ?body (args_list_sort _)))
  case body =>
    refine sort_words (s := { s with heap := ((s.heap.push (seqObj "list" #[] 0)).update s.heap.objs.size (Obj.mapSeq (· ++ cs.toArray))).push (seqObj "list" cs.toArray 0) }) (W.keep fun b o _ e => keep b o e) has h64 hoL fun h' e he hk => ⟨_, rfl, wpAny_pure ⟨_, rfl, ?_⟩⟩
    have hdead : s.heap.get? (s.heap.objs.size + 1) = none := Heap.get?_none_of_le (Nat.le_succ _)
    exact h _ h' e he hdead fun b o eb => hk b o (fun q => by subst q; rw [hdead] at eb; cases eb) (keep b o eb)
end

section
variable {prog : Program} {w : World} {Z : Tb} {ht : Heap} {n : Nat} {F : Fm} {ρ : Rho} {μ : Store} {A : Around} {Post : AV → Store → Prop}
theorem c_sorted {v : AV} {ws : List Wd} (hL : IsL μ v (ws.map wv)) (has : Asc ws) (h64 : ws.length < 64) (h : Post (.p (.lst (ws.map wv))) μ) : TC prog w Z ht n (.builtin "sorted") [v] μ Post :=
  TC.one fun A s φ loc c a I r => by
    obtain ⟨b, items, rfl, hl, hr, _⟩ := hL.at I r
    refine sorted_words (WAt.of I hr) has h64 hl.isList fun D h' e he hd kp => ?_
    exact ⟨_, _, fz φ D (lstObj items e), loc, _, _, h, .p (.lst fz_at (hr.mono (fz_le (I.dead hd)))), I.freeze hd he kp, Ext.freeze (I.dead hd) hd kp⟩

theorem WAt.eqAt {s : Shared} {p q : Wd} {b1 b2 : Addr} {n1 n2 : Nat} {t1 u1 t2 u2 : Tok} {A : Around} (hu : A.units < cLine) (g1 : s.heap.get? b1 = some (tupObj [.int p.1 t1, .str p.2 u1] n1)) (g2 : s.heap.get? b2 = some (tupObj [.int q.1 t2, .str q.2 u2] n2)) :
    SeqAt.EqAt A s (.ref b1) (.ref b2) (decide (p = q)) := by
  by_cases hb : b1 = b2
  · subst hb
    rw [g1] at g2
    have : p = q := by
      obtain ⟨p1, p2⟩ := p; obtain ⟨q1, q2⟩ := q
      injection g2 with g2
      injection g2 with _ _ g2 _
      injection g2 with g2 _
      injection g2 with g2
      injection g2 with g3 g4
      injection g3 with g3 _
      injection g4 with g4 _
      injection g4 with g4 _
      subst g3 g4; rfl
    rw [decide_eq_true this]
    exact SeqAt.EqAt.same _
  · refine SeqAt.EqAt.of_refs hb ?_
    have h := SeqAt.RcAt.tuples (s := s) (A := A) (l := b1) (b := b2) (items := #[.int p.1 t1, .str p.2 u1]) (items2 := #[.int q.1 t2, .str q.2 u2]) (e := fun j => match j with | 0 => p.1 == q.1 | _ => p.2 == q.2) ⟨_, g1, rfl, _, rfl⟩ ⟨_, g2, rfl, _, rfl⟩ hu (fun j h1 h2 => by
      match j, h1, h2 with
      | 0, _, _ => exact SeqAt.EqAt.int_int _ _ _ _
      | 1, _, _ => exact (eqGives_str _ _ _ _).at _ _
      | j+2, h1, _ => simp at h1; omega)
    have e : ((List.range (min (#[Value.int p.1 t1, .str p.2 u1]).size (#[Value.int q.1 t2, .str q.2 u2]).size)).all (fun j => match j with | 0 => p.1 == q.1 | _ => p.2 == q.2) && (#[Value.int p.1 t1, .str p.2 u1]).size == (#[Value.int q.1 t2, .str q.2 u2]).size) = decide (p = q) := by
      show ((List.range 2).all (fun j => match j with | 0 => p.1 == q.1 | _ => p.2 == q.2) && 2 == 2) = _
      obtain ⟨p1, p2⟩ := p; obtain ⟨q1, q2⟩ := q
      simp [List.range_succ, List.all_append]
      by_cases h1 : p1 = q1 <;> by_cases h2 : p2 = q2 <;> simp [h1, h2]
    rw [e] at h
    exact h
theorem w_ne {v u : AV} {ws : List Wd} (hL : IsL μ v (ws.map wv)) (hM : IsL μ u (ws.map wv)) (h : Post (.p (.bool false)) μ) : Cmp prog w Z ht n .NotEq v u μ Post :=
  TO.two fun A s φ loc c1 c2 ha I r1 r2 => by
    obtain ⟨b, items, rfl, hl, hr, _⟩ := hL.at I r1
    obtain ⟨b', items', rfl, hl', hr', _⟩ := hM.at I r2
    have W := WAt.of I hr
    have W' := WAt.of I hr'
    have hu : A.units < cLine := by have := ha.units; show _ < 9900; omega
    have hn := SeqAt.RcNeAt.lists (A := A) (e := fun _ => true) hl.isList hl'.isList (by simp [W.length, W'.length]) hu (fun j h1 h2 => by
      have hj : j < ws.length := by have := W.length; simp at h1; omega
      obtain ⟨b1, n1, t1, u1, q1, g1⟩ := W.get (List.getElem?_eq_getElem hj)
      obtain ⟨b2, n2, t2, u2, q2, g2⟩ := W'.get (List.getElem?_eq_getElem hj)
      have e1 : items.toArray[j] = .ref b1 := by rw [← q1]; simp at h1; simp [h1]
      have e2 : items'.toArray[j] = .ref b2 := by rw [← q2]; simp at h2; simp [h2]
      rw [e1, e2]
      have := WAt.eqAt (A := A.in1) (s := s) (by have := ha.units; show A.units + 1 < 9900; omega) g1 g2
      simpa using this)
    refine (show wpAny (model prog w) A (richCompare .NotEq (.ref b) (.ref b')) _ _ s from hn prog w _ _ ?_)
    have e : (!(List.range items.toArray.size).all fun _ => true) = false := by simp
    rw [e]
    exact P.here h (.p (.bool _)) I
end

/-! a table of codes -/
structure TabSpec where
  c : Addr
  P : Addr
  pos : Pos
  qual : Str
def Sub (φ : Frz) (h : Heap) : Prop := ∀ a o, φ a = some o → h.get? a = some o
def TabIs (T : TabSpec) (φ : Frz) (h : Heap) : Prop :=
  (∀ h', Sub φ h' → CodeHd h' T.c T.P) ∧ (h.get? T.P = some (tabObj #[]) ∨ ∃ c', h.get? T.P = some (tabObj #[rawInt T.pos.line, rawInt T.pos.col, .ref c']) ∧ ∀ h', Sub φ h' → h'.CodeRec (.ref c') T.qual)
theorem TabIs.mono {T : TabSpec} {φ φ' : Frz} {h h' : Heap} (x : TabIs T φ h) (l : Le φ φ') (e : h'.get? T.P = h.get? T.P) : TabIs T φ' h' := by
  obtain ⟨h1, h2⟩ := x
  refine ⟨fun H s => h1 H (fun a o q => s a o (l a o q)), ?_⟩
  rcases h2 with h2 | ⟨c', h2, h3⟩
  · exact .inl (e.trans h2)
  · exact .inr ⟨c', e.trans h2, fun H s => h3 H (fun a o q => s a o (l a o q))⟩
def tbOf (specs : List TabSpec) : Tb where
  tabs := specs.map (·.P)
  ok := fun φ h => ∀ T ∈ specs, TabIs T φ h
  stable := fun φ φ' h h' hok l k T hT => (hok T hT).mono l (k _ (List.mem_map.mpr ⟨T, hT, rfl⟩))

/-! the part of a heap that is frozen -/
def nonφ (φ : Frz) (h : Heap) : List Addr := (List.range h.objs.size).filter fun a => (φ a).isNone
def htOf (φ : Frz) (h : Heap) : Heap := hideAll h (nonφ φ h)
theorem htOf_get {φ : Frz} {h : Heap} (s : Sub φ h) {a : Addr} {o : Obj} : (htOf φ h).get? a = some o ↔ φ a = some o := by
  constructor
  · intro e
    have e1 := of_hideAll _ e
    cases q : φ a with
    | none =>
      have : a ∈ nonφ φ h := List.mem_filter.mpr ⟨List.mem_range.mpr (Heap.lt_size e1), by rw [q]; rfl⟩
      rw [show (htOf φ h).get? a = none from hideAll_none _ this] at e
      cases e
    | some o' => rw [s a o' q] at e1; exact e1
  · intro e
    refine hideAll_get _ (s a o e) fun q => ?_
    have := (List.mem_filter.mp q).2
    rw [e] at this; cases this

section
variable {prog : Program} {w : World} {Z : Tb} {ht : Heap} {n : Nat} {F : Fm} {ρ : Rho} {μ : Store} {A : Around}
theorem InvG.reTop {ht' : Heap} {φ : Frz} {loc : Locs} {h : Heap} (I : InvG Z ht μ φ loc h) (k : ∀ a o, ht'.get? a = some o → φ a = some o) : InvG Z ht' μ φ loc h := { I with top := k }

/-! closures -/
structure ClOk (Z : Tb) (cl : List (Str × Addr)) (ρ0 : Rho) (φ : Frz) (loc : Locs) (h : Heap) : Prop where
  cell : ∀ x v, ρ0 x = some v → ∃ c cv, cl.lookup x = some c ∧ h.IsCell c (some cv) ∧ RelA φ loc v cv
  off : ∀ x c, cl.lookup x = some c → c ∉ loc ∧ c ∉ Z.tabs ∧ ∃ o, h.get? c = some o
  inj : ∀ x y c, cl.lookup x = some c → cl.lookup y = some c → x = y
theorem ClOk.of {cl : List (Str × Addr)} {ρ0 : Rho} {φ : Frz} {loc : Locs} {h : Heap} (E : EnvOk Z F ρ φ loc h) (hs : ∀ x c, cl.lookup x = some c → F.env.cells.lookup x = some c)
    (hk : ∀ x v, ρ0 x = some v → ρ x = some v ∧ (F.env.kindOf x = some .cell ∨ F.env.kindOf x = some .free) ∧ (cl.lookup x).isSome = true) : ClOk Z cl ρ0 φ loc h where
  cell := fun x v e => by
    obtain ⟨h1, h2, h3⟩ := hk x v e
    obtain ⟨c, hc⟩ := Option.isSome_iff_exists.mp h3
    obtain ⟨c', cv, g1, g2, g3⟩ := E.cell x v h2 h1
    rw [hs x c hc] at g1; cases g1
    exact ⟨c, cv, hc, g2, g3⟩
  off := fun x c e => E.coff x c (hs x c e)
  inj := fun x y c e1 e2 => E.inj x y c (hs _ _ e1) (hs _ _ e2)
def TK (prog : Program) (w : World) (Z : Tb) (ht : Heap) (n : Nat) (cl : List (Str × Addr)) (ρ0 : Rho) (f : Value) (args : List AV) (μ : Store) (Post : AV → Store → Prop) : Prop :=
  ∀ A s φ loc cs, AOk A n → InvG Z ht μ φ loc s.heap → ClOk Z cl ρ0 φ loc s.heap → RelAL φ loc args cs → wpAny (model prog w) A (call f cs) (P Z ht [] RelA s φ loc Post) NoE s
def TCE (prog : Program) (w : World) (Z : Tb) (ht : Heap) (n : Nat) (F : Fm) (ρ : Rho) (f : Value) (args : List AV) (μ : Store) (Post : AV → Store → Prop) : Prop :=
  ∀ A s φ loc cs, AOk A n → InvG Z ht μ φ loc s.heap → EnvOk Z F ρ φ loc s.heap → RelAL φ loc args cs → wpAny (model prog w) A (call f cs) (P Z ht [] RelA s φ loc Post) NoE s
theorem TK.tce {cl : List (Str × Addr)} {ρ0 : Rho} {f : Value} {args : List AV} {Post : AV → Store → Prop} (h : TK prog w Z ht n cl ρ0 f args μ Post) (hs : ∀ x c, cl.lookup x = some c → F.env.cells.lookup x = some c)
    (hk : ∀ x v, ρ0 x = some v → ρ x = some v ∧ (F.env.kindOf x = some .cell ∨ F.env.kindOf x = some .free) ∧ (cl.lookup x).isSome = true) : TCE prog w Z ht n F ρ f args μ Post :=
  fun A s φ loc cs a I E r => h A s φ loc cs a I (ClOk.of E hs hk) r
theorem TE.callE {id : Str} {p pos : Pos} {e : Expr} {es : List Expr} {Post : AV → Store → Prop}
    (h : TE prog w Z ht n F (.Name id p) ρ μ fun f μ₁ => ∃ b o fd, f = .p (.val (.ref b)) ∧ ht.get? b = some o ∧ o.data = .func fd ∧ TL prog w Z ht n F pos (e :: es) ρ μ₁ fun vs μ₂ => TCE prog w Z ht n F ρ (.ref b) vs μ₂ Post)
    (he : starEach (e :: es) F.env = (false, eval e F.env) :: starEach es F.env := by rfl) (hp : ((backTo pos (starEach (e :: es) F.env)).any (·.1)) = false := by rfl) :
    TE prog w Z ht n F (.Call (.Name id p) (e :: es) [] pos) ρ μ Post := by
  intro A s φ loc a I E
  show wpAny _ A (eval (.Name id p) F.env >>= fun f => callWith pos f [] (backTo pos (starEach (e :: es) F.env)) []) _ _ s
  refine seq (h A s φ loc a I E) fun v μ₁ φ₁ loc₁ h₁ tk₁ c p₁ r₁ I₁ x₁ => ?_
  obtain ⟨b, o, fd, rfl, ho, hd, hl⟩ := p₁
  cases r₁ with
  | p r => cases r with
    | val =>
      have e1 : backTo pos (starEach (e :: es) F.env) = (false, eval e F.env) :: backTo pos (starEach es F.env) := by rw [he]; rfl
      refine Calls.callWith_function (o := o) (fd := fd) ?_
      have h1 := hl A { s with heap := h₁, toks := tk₁ } φ₁ loc₁ a I₁ (E.ext x₁)
      rw [e1] at h1 ⊢
      refine Calls.evalArgs_plain (wpAny_mono h1 (fun cs s₁ p => ?_) fun _ _ e => e)
      obtain ⟨vs, μ₂, φ₂, loc₂, h₂, tk₂, q, rs, I₂, X₂⟩ := p
      refine ⟨⟨I₂.hts _ _ ho, hd⟩, wpAny_mono (q A _ φ₂ loc₂ cs a I₂ ((E.ext x₁).ext X₂) rs) (fun _ _ q => P.on X₂ q) fun _ _ e => e⟩

def inF (fd : FuncData) (L f : Addr) : Fm := ⟨callEnv fd L f, [L], []⟩
theorem bindRev {φ : Frz} {loc : Locs} : ∀ (pn : List Str) {args : List AV} {cs : List Value}, RelAL φ loc args cs → args.length = pn.length → ∀ (ρ0 : Rho) (x : Str) (v : AV), bindR (pn.zip args) ρ0 x = some v →
    (∃ cv, ((pn.zip cs).reverse).lookup x = some cv ∧ RelA φ loc v cv) ∨ (x ∉ pn ∧ ρ0 x = some v)
  | [], _, _, _, _, ρ0, x, v, h => .inr ⟨(fun q => nomatch q), h⟩
  | p :: pn, _, _, .nil, hl, ρ0, x, v, h => by simp at hl
  | p :: pn, _, _, .cons (v := v₁) (c := c₁) (cs := cs') r rs, hl, ρ0, x, v, h => by
    rw [List.zip_cons_cons] at h
    unfold bindR at h
    rcases bindRev pn rs (by simpa using hl) (upd ρ0 p v₁) x v h with ⟨cv, h1, h2⟩ | ⟨h1, h2⟩
    · refine .inl ⟨cv, ?_, h2⟩
      rw [List.zip_cons_cons, List.reverse_cons, lookup_append, h1]
    · unfold upd at h2
      by_cases q : x = p
      · subst q
        rw [if_pos rfl] at h2; cases h2
        refine .inl ⟨c₁, ?_, r⟩
        rw [List.zip_cons_cons, List.reverse_cons, lookup_append]
        have : (List.lookup x (pn.zip cs').reverse) = none := by
          cases q : List.lookup x (pn.zip cs').reverse with
          | none => rfl
          | some c =>
            have hm := mem_of_lookup q
            exact absurd (List.of_mem_zip (List.mem_reverse.mp hm)).1 h1
        rw [this]
        show List.lookup x [(x, c₁)] = some c₁
        rw [List.lookup_cons, beq_self_eq_true]
      · rw [if_neg q] at h2
        exact .inr ⟨fun hm => (List.mem_cons.mp hm).elim q h1, h2⟩

theorem TK.def {mg mb : Str → Option Value} (B : Base ht mg mb) {f : Addr} {o : Obj} {fd : FuncData} {body : List Stmt} {pn : List Str} {args : List AV} {ρ0 : Rho} {Post : AV → Store → Prop}
    (ho : ht.get? f = some o) (hd : o.data = .func fd) (hcd : ht.CodeRec fd.code fd.qualname) (hb : fd.body = .stmts body)
    (hbind : ∀ cargs : List Value, cargs.length = args.length → bindArgs fd ⟨cargs, []⟩ = pure (pn.zip cargs)) (hal : args.length = pn.length)
    (hg : fd.globals = mainGlobals) (hbl : fd.builtins = builtinsNs)
    (hpn : (pn.all fun x => fd.scope.names.lookup x == some .local) = true)
    (hnc : (fd.scope.names.all fun p => p.2 != .cell) = true)
    (hρ : ∀ x v, ρ0 x = some v → fd.scope.names.lookup x = some .free)
    (hco : fd.scope.isCoroutine = false) (hgen : fd.scope.isGenerator = false) (hk : fd.scope.kind = .function)
    (h : ∀ L, TS prog w Z ht n (inF fd L f) body (bindR (pn.zip args) ρ0) μ fun fl ρ' μ' => RetP μ Post fl μ') :
    TK prog w Z ht (n + 1) fd.closure ρ0 (.ref f) args μ Post := by
  intro A s φ loc cs a I C r
  refine wpAny_call (codeAny_call_def (by have := a.depth; show A.depth < 1000; omega) (I.hts _ _ ho) hd (B.nolimit.keeps I.hts) (hcd.keeps I.hts) hb (BindsTo.of_eq (hbind cs r.length.symm)) ?_ ?_ ?_ hco hgen hk)
  · intro x hx
    have := List.all_eq_true.mp hnc x hx
    simpa using this
  · intro x hx
    have hx1 : x.1 ∈ pn := (List.of_mem_zip (a := x.1) (b := x.2) hx).1
    have := List.all_eq_true.mp hpn _ hx1
    simpa using this
  · intro h₁ hns kp
    have hd' : s.heap.get? s.heap.objs.size = none := push_dead s.heap
    have I₁ := I.gar (h' := h₁) kp
    have E₁ : EnvOk Z (inF fd s.heap.objs.size f) (bindR (pn.zip args) ρ0) φ loc h₁ := by
      refine ⟨hk, hg, hbl, fun c hc => ?_, List.mem_cons_self, ⟨_, hns, fun y v hy hv => ?_⟩, fun y v hy hv => ?_, (fun y hy => nomatch hy), C.inj, fun y c h1 => ?_, fun y c h1 => ?_⟩
      · obtain rfl : c = s.heap.objs.size := by simpa [inF] using hc
        obtain ⟨o, _, _, ho, _⟩ := hns
        exact ⟨I.dead hd', not_loc I hd', not_tab I hd', o, ho⟩
      · rcases bindRev pn r hal ρ0 y v hv with h1 | ⟨_, h2⟩
        · exact h1
        · have := hρ y v h2
          rw [show (inF fd s.heap.objs.size f).env.kindOf y = fd.scope.names.lookup y from rfl, this] at hy
          cases hy
      · rcases bindRev pn r hal ρ0 y v hv with ⟨cv, h1, _⟩ | ⟨_, h2⟩
        · have hm := mem_of_lookup h1
          have hyp := (List.of_mem_zip (List.mem_reverse.mp hm)).1
          have := List.all_eq_true.mp hpn _ hyp
          have e : fd.scope.names.lookup y = some .local := by simpa using this
          rw [show (inF fd s.heap.objs.size f).env.kindOf y = fd.scope.names.lookup y from rfl, e] at hy
          rcases hy with hy | hy <;> cases hy
        · obtain ⟨c, cv, h1, ⟨o, ho, hd⟩, h3⟩ := C.cell y v h2
          exact ⟨c, cv, h1, ⟨o, kp _ _ ho, hd⟩, h3⟩
      · obtain ⟨_, _, o, ho⟩ := C.off y c h1
        exact Nat.ne_of_lt (Heap.lt_size ho)
      · obtain ⟨g1, g2, o, ho⟩ := C.off y c h1
        exact ⟨g1, g2, o, kp _ _ ho⟩
    refine wpAny_mono (h s.heap.objs.size _ _ φ loc (a.deeper _) I₁ E₁) (fun fl s' p => ?_) fun _ _ e => e.elim
    obtain ⟨fl', ρ', μ', φ', loc', h', tk', p, rf, I', E', X'⟩ := p
    have hlen : loc.length = μ.length := I.len
    have X₀ : Ext Z [] φ loc s.heap φ' loc' h' := by
      have k1 : ∀ b o, b ∉ loc → b ∉ Z.tabs → s.heap.get? b = some o → h'.get? b = some o := fun b o h1 h2 e => X'.keep b o h1 h2 (fun q => by
        obtain rfl : b = s.heap.objs.size := by simpa [inF] using q
        rw [hd'] at e; cases e) (kp b o e)
      refine ⟨X'.mono, X'.pre, fun b o h1 h2 _ e => k1 b o h1 h2 e, fun b o e => X'.alive b o (kp b o e), fun b e => ?_, fun b e => ?_⟩
      · rcases X'.newφ b e with h1 | h1
        · exact .inl h1
        · exact .inr (none_of_dead (fun b o e => ⟨o, kp b o e⟩) h1)
      · rcases X'.newl b e with h1 | h1
        · exact .inl h1
        · exact .inr (none_of_dead (fun b o e => ⟨o, kp b o e⟩) h1)
    have Xc : Ext Z [] φ loc s.heap φ' loc h' := { X₀ with pre := ⟨[], by simp⟩, newl := fun b e => .inl e }
    have It := I'.take X₀.pre hlen
    cases rf with
    | next => exact ⟨_, _, _, _, _, _, p, .p .none, It, Xc⟩
    | brk => exact p.elim
    | cont => exact p.elim
    | ret rv =>
      cases rv with
      | p rv => exact ⟨_, _, _, _, _, _, p, .p rv, It, Xc⟩
      | m rv =>
        rename_i k c
        rcases p with ⟨hk1, p⟩ | ⟨hk1, vs, hvs, p⟩
        · refine ⟨_, _, _, _, _, _, p, .m ?_, It, Xc⟩
          obtain ⟨r', rfl⟩ := X₀.pre
          rw [List.getElem?_append_left (by omega)] at rv; exact rv
        · obtain ⟨items, ⟨n', ho'⟩, hr'⟩ := I'.lists k c vs rv hvs
          have hcd : s.heap.get? c = none := by
            rcases X₀.newl c (List.mem_of_getElem? rv) with h1 | h1
            · exfalso
              obtain ⟨r', rfl⟩ := X₀.pre
              obtain ⟨i, hi, e⟩ := List.mem_iff_getElem.mp h1
              obtain ⟨l1, e1⟩ := List.getElem?_eq_some_iff.mp rv
              have : k = i := nodup_inj I'.nd l1 (by simp; omega) (by rw [e1, List.getElem_append_left hi, e])
              omega
            · exact h1
          have hφ := (I'.off c (List.mem_of_getElem? rv)).1
          refine ⟨_, _, _, _, _, _, p, .p (.lst fz_at (hr'.mono (fz_le hφ))), I'.fzl X₀.pre hlen hk1 rv ho', ?_⟩
          refine { Xc with mono := Xc.mono.trans (fz_le hφ), newφ := fun b e => ?_ }
          unfold fz at e
          by_cases q : b = c
          · subst q; exact .inr hcd
          · rw [if_neg q] at e; exact Xc.newφ b e
end

section
variable {prog : Program} {w : World} {ht : Heap} {n : Nat} {F : Fm} {ρ : Rho} {μ : Store} {A : Around} {specs : List TabSpec}

/-- a table turned -/
theorem InvG.turn {φ : Frz} {loc : Locs} {h h' : Heap} {T : TabSpec} {c' : Addr} {oc : Obj} {vs : Array Value} {t : Tok} (I : InvG (tbOf specs) ht μ φ loc h) (hT : T ∈ specs) (hnd : ∀ T' ∈ specs, T'.P = T.P → T' = T)
    (k : Heap.ExtBut T.P h h') (hc : h.get? c' = none) (hoc : h'.get? c' = some oc) (hod : oc.data = .fields vs) (hv : vs[1]? = some (.str T.qual t)) (hP : h'.get? T.P = some (tabObj #[rawInt T.pos.line, rawInt T.pos.col, .ref c'])) :
    InvG (tbOf specs) ht μ (fz φ c' oc) loc h' := by
  have hTm : T.P ∈ (tbOf specs).tabs := List.mem_map.mpr ⟨T, hT, rfl⟩
  have hPφ : φ T.P = none := (I.talive _ hTm).1
  have hcφ := I.dead hc
  have kk : ∀ b o, b ≠ T.P → h.get? b = some o → h'.get? b = some o := fun b o hb e => k b o hb e
  refine ⟨fun b o e => ?_, fun b o e => fz_le hcφ _ _ (I.top b o e), fun b hb => ?_, I.nd, I.len, fun i b vs' h1 h2 => ?_, fun T' hT' => ?_, fun b hb => ?_⟩
  · unfold fz at e
    by_cases q : b = c'
    · subst q; rw [if_pos rfl] at e; cases e; exact hoc
    · rw [if_neg q] at e
      exact kk b o (fun q => by subst q; rw [hPφ] at e; cases e) (I.sub b o e)
  · obtain ⟨o, ho⟩ := I.aliveL hb
    obtain ⟨g1, g2⟩ := I.off b hb
    refine ⟨?_, g2⟩
    unfold fz
    rw [if_neg (fun q => by subst q; rw [hc] at ho; cases ho)]; exact g1
  · obtain ⟨items, ⟨m, ho⟩, hr⟩ := I.lists i b vs' h1 h2
    have hb := (I.off b (List.mem_of_getElem? h1)).2
    exact ⟨items, ⟨m, kk b _ (fun q => hb (q ▸ hTm)) ho⟩, hr.mono (fz_le hcφ)⟩
  · by_cases q : T'.P = T.P
    · obtain rfl := hnd T' hT' q
      refine ⟨fun H s => (I.tabs T' hT').1 H fun a o e => s a o (fz_le hcφ _ _ e), .inr ⟨c', hP, fun H s => ⟨c', oc, vs, t, rfl, s c' oc fz_at, hod, hv⟩⟩⟩
    · obtain ⟨_, o, ho⟩ := I.talive T'.P (List.mem_map.mpr ⟨T', hT', rfl⟩)
      exact (I.tabs T' hT').mono (fz_le hcφ) ((kk _ _ q ho).trans ho.symm)
  · obtain ⟨g1, o, ho⟩ := I.talive b hb
    have hbc : b ≠ c' := fun q => by subst q; rw [hc] at ho; cases ho
    refine ⟨by unfold fz; rw [if_neg hbc]; exact g1, ?_⟩
    by_cases q : b = T.P
    · subst q; exact ⟨_, hP⟩
    · exact ⟨o, kk b o q ho⟩
theorem Ext.turn {X : List Addr} {φ : Frz} {loc : Locs} {h h' : Heap} {T : TabSpec} {c' : Addr} {oc : Obj} (hT : T ∈ specs) (hcφ : φ c' = none) (k : Heap.ExtBut T.P h h') (hc : h.get? c' = none) {o' : Obj} (hP : h'.get? T.P = some o') :
    Ext (tbOf specs) X φ loc h (fz φ c' oc) loc h' := by
  refine ⟨fz_le hcφ, ⟨[], by simp⟩, fun b o _ h2 _ e => k b o (fun q => h2 (q ▸ List.mem_map.mpr ⟨T, hT, rfl⟩)) e, fun b o e => ?_, fun b e => ?_, fun _ e => .inl e⟩
  · by_cases q : b = T.P
    · subst q; exact ⟨_, hP⟩
    · exact ⟨o, k b o q e⟩
  · unfold fz at e
    by_cases q : b = c'
    · subst q; exact .inr hc
    · rw [if_neg q] at e; exact .inl e

theorem TS.def {mg mb : Str → Option Value} (B : Base ht mg mb) {name : Str} {args : Arguments} {body : List Stmt} {scope : Scope} {pos : Pos} {rest : List Stmt} {Post : Fl → Rho → Store → Prop} {T : TabSpec}
    (hB : ht.BuiltinsAt mg T.P) (hT : T ∈ specs) (hnd : ∀ T' ∈ specs, T'.P = T.P → T' = T) (hpos : T.pos = pos) (hq : qualnameIn F.env name name = T.qual) (hcode : F.env.code = .ref T.c)
    (hdef : defaultsOf args F.env = ([], [])) (hann : annTrees args none F.env = [])
    (hS : ∀ p ∈ scope.names, p.2 = .free → (F.env.cells.lookup p.1).isSome = true) (hk : name ∈ F.wc)
    (h : ∀ ht' fa ctv doc pm c', (∀ b o, ht.get? b = some o → ht'.get? b = some o) → ht'.get? fa = some (fnMade name T.qual args body scope (clGo F.env.cells scope.names []) doc pm c' ctv) → ht'.CodeRec (.ref c') T.qual →
      TS prog w (tbOf specs) ht' n F rest (upd ρ name (.p (.val (.ref fa)))) μ Post) :
    TS prog w (tbOf specs) ht n F (.FunctionDef name args body [] none [] scope none name pos :: rest) ρ μ Post := by
  intro A s φ loc a I E
  subst hpos
  have fin : ∀ (s₁ : Shared) (φ₁ : Frz) (h₁ : Heap) (tk₁ : Nat) (fa c' : Addr) (ctv doc pm : Value), s₁ = { s with heap := h₁, toks := tk₁ } → InvG (tbOf specs) ht μ φ₁ loc h₁ → Ext (tbOf specs) [] φ loc s.heap φ₁ loc h₁ → φ₁ fa = some (fnMade name T.qual args body scope (clGo F.env.cells scope.names []) doc pm c' ctv) →
      (∀ H, Sub φ₁ H → H.CodeRec (.ref c') T.qual) →
      wpAny (model prog w) A (standAt T.pos >>= fun _ => bindName F.env name (.ref fa) >>= fun _ => pure Flow.next) (fun f s' => match f with
        | .next => wpAny (model prog w) A (execs rest F.env) (PS (tbOf specs) ht F s φ loc Post) NoE s'
        | f => PS (tbOf specs) ht F s φ loc Post f s') NoE s₁ := by
    rintro s₁ φ₁ h₁ tk₁ fa c' ctv doc pm rfl I₁ X₁ hfa hrec
    refine wpAny_bind (wpAny_standAt (wpAny_bind (wpAny_bindName (store_ok I₁ (E.ext X₁) (.p (.val (.ref fa))) (.inr hk) fun h₂ tk₂ I₂ E₂ X₂ => wpAny_pure ?_))))
    have g := fun {a : Addr} {o : Obj} => htOf_get (φ := φ₁) (h := h₂) I₂.sub (a := a) (o := o)
    have htsub : ∀ b o, ht.get? b = some o → (htOf φ₁ h₂).get? b = some o := fun b o e => g.mpr (I₁.top b o e)
    have I₃ : InvG (tbOf specs) (htOf φ₁ h₂) μ φ₁ loc h₂ := I₂.reTop fun a o e => g.mp e
    refine wpAny_mono (h (htOf φ₁ h₂) fa ctv doc pm c' htsub (g.mpr hfa) (hrec _ fun a o e => g.mpr e) A { s with heap := h₂, toks := tk₂ } φ₁ loc a I₃ E₂) (fun f s' p => ?_) fun _ _ e => e
    obtain ⟨fl, ρ', μ', φ', loc', h', tk', p, r, I', E', X'⟩ := p
    refine ⟨fl, ρ', μ', φ', loc', h', tk', p, r, I'.reTop (fun a o e => I'.top a o (htsub a o e)), E', ?_⟩
    exact ((X₁.weaken (fun _ q => nomatch q)).trans X₂).trans X'
  refine wpAny_execs_cons ?_
  rw [exec_def, hdef, hann, hq]
  refine wpAny_bind (wpAny_standAt (wpAny_bind (wpAny_holding ?_)))
  refine wpAny_bind (wpAny_evalAll_nil (wpAny_bind (wpAny_holding (wpAny_pure (wpAny_holding (wpAny_bind (wpAny_pure ?_)))))))
  have hcl := closure_eq (scope := scope) (env := F.env) hS
  have hge := E.glob
  have hg : s.heap.Ns mainGlobals mg := B.g.keeps I.hts
  obtain ⟨hC, hTab⟩ := I.tabs T hT
  have C := hC s.heap I.sub
  have hTm : T.P ∈ (tbOf specs).tabs := List.mem_map.mpr ⟨T, hT, rfl⟩
  have hBs : s.heap.BuiltinsAt mg T.P := by
    obtain ⟨bm, o, b1, b2, b3, b4, b5, b6⟩ := hB
    exact ⟨bm, o, b1, b2, b3, b4, I.hts _ _ b5, b6⟩
  rcases hTab with hP | ⟨c', hP, hrec⟩
  · have hgP : mainGlobals ≠ T.P := fun q => by
      obtain ⟨o, es, ep, e, hd, _⟩ := hg
      rw [q, hP] at e; cases e; cases hd
    refine makeFunction_K hcl hge hg hcode C hP trivial rfl hgP hBs fun c' ctv doc h' tk hx hge' hlt hrec hP' => ?_
    have hcd : s.heap.get? c' = none := Heap.get?_none_of_le hge'
    obtain ⟨c₂, oc, vs, t, e₂, hoc, hod, hv⟩ := hrec
    cases e₂
    have I₁ := I.turn hT hnd hx hcd hoc hod hv hP'
    have X₁ : Ext (tbOf specs) [] φ loc s.heap (fz φ c' oc) loc h' := Ext.turn hT (I.dead hcd) hx hcd hP'
    have hd₁ := push_dead h'
    have I₂ := I₁.freeze (h' := h'.push (fnMade name T.qual args body scope (clGo F.env.cells scope.names []) doc ((mg "__name__").getD .none) c' ctv)) hd₁ (Heap.get?_push_size _ rfl) (push_keep _ _)
    have X₂ := X₁.trans (Ext.freeze (X := []) (o := fnMade name T.qual args body scope (clGo F.env.cells scope.names []) doc ((mg "__name__").getD .none) c' ctv) (h' := h'.push (fnMade name T.qual args body scope (clGo F.env.cells scope.names []) doc ((mg "__name__").getD .none) c' ctv)) (I₁.dead hd₁) hd₁ (push_keep _ _))
    refine fin _ _ _ tk _ c' ctv doc _ rfl I₂ X₂ fz_at fun H hs => ⟨c', oc, vs, t, rfl, hs c' oc ?_, hod, hv⟩
    exact fz_le (I₁.dead hd₁) _ _ fz_at
  · refine makeFunction_hit (cv := .ref c') hcl hge hg hcode C hP trivial (by simp [codeAmong, rawInt]) hBs fun ctv doc h' tk hx hsz => ?_
    have hd₁ := push_dead h'
    have I₁ := I.gar hx
    have X₁ : Ext (tbOf specs) [] φ loc s.heap φ loc h' := Ext.gar hx
    have I₂ := I₁.freeze (h' := h'.push (fnMade name T.qual args body scope (clGo F.env.cells scope.names []) doc ((mg "__name__").getD .none) c' ctv)) hd₁ (Heap.get?_push_size _ rfl) (push_keep _ _)
    have X₂ := X₁.trans (Ext.freeze (X := []) (o := fnMade name T.qual args body scope (clGo F.env.cells scope.names []) doc ((mg "__name__").getD .none) c' ctv) (h' := h'.push (fnMade name T.qual args body scope (clGo F.env.cells scope.names []) doc ((mg "__name__").getD .none) c' ctv)) (I₁.dead hd₁) hd₁ (push_keep _ _))
    refine fin _ _ _ tk _ c' ctv doc _ rfl I₂ X₂ fz_at fun H hs => hrec H fun a o e => hs a o (fz_le (I₁.dead hd₁) _ _ e)
end
theorem upd_hit {ρ : Rho} {x : Str} {v : AV} : upd ρ x v x = some v := by unfold upd; rw [if_pos rfl]
theorem upd_miss {ρ : Rho} {x y : Str} {v u : AV} (h : (y == x) = false) (e : ρ y = some u) : upd ρ x v y = some u := by
  unfold upd; rw [if_neg (fun q => by subst q; simp at h)]; exact e
theorem mask_look {scope : Scope} {ρ : Rho} {y : Str} {v : AV} (h : scope.names.lookup y = some .free) (e : ρ y = some v) : mask scope ρ y = some v := by
  unfold mask; rw [h]; exact e
section
variable {prog : Program} {w : World} {Z : Tb} {ht : Heap} {n : Nat} {F : Fm} {ρ : Rho} {μ : Store}
theorem TP.isN {Post : Option Int → Store → Prop} (h : Post none μ) : TP prog w Z ht n F none ρ μ Post := h
theorem TP.isS {e : Expr} {Post : Option Int → Store → Prop} (h : TE prog w Z ht n F e ρ μ fun v μ₁ => ∃ i, v = .p (.int i) ∧ Post (some i) μ₁) : TP prog w Z ht n F (some e) ρ μ Post := h
end

/-! the program's definitions -/
def defAt (i : Nat) : FuncData := match PySem.Challenge.pw_qu0040_01.main.body[i]? with
  | some (.FunctionDef name params body _ _ _ scope _ _ _) => plainDef name params body scope .none .none
  | _ => plainDef "" ⟨[], [], none, [], [], none, []⟩ [] ⟨.function, [], false, false, []⟩ .none .none
def bodyAt (i : Nat) : List Stmt := match PySem.Challenge.pw_qu0040_01.main.body[i]? with
  | some (.FunctionDef _ _ body _ _ _ _ _ _ _) => body
  | _ => []
def scopeAt (i : Nat) : Scope := match PySem.Challenge.pw_qu0040_01.main.body[i]? with
  | some (.FunctionDef _ _ _ _ _ _ scope _ _ _) => scope
  | _ => ⟨.function, [], false, false, []⟩
def paramsAt (i : Nat) : Arguments := match PySem.Challenge.pw_qu0040_01.main.body[i]? with
  | some (.FunctionDef _ params _ _ _ _ _ _ _ _) => params
  | _ => ⟨[], [], none, [], [], none, []⟩
def nameAt (i : Nat) : Str := match PySem.Challenge.pw_qu0040_01.main.body[i]? with
  | some (.FunctionDef name _ _ _ _ _ _ _ _ _) => name
  | _ => ""
abbrev fdAt (i : Nat) (pm cd : Value) : FuncData := plainDef (nameAt i) (paramsAt i) (bodyAt i) (scopeAt i) pm cd

/-- a definition of the top -/
def FnAt (ht : Heap) (mg : Str → Option Value) (i : Nat) (cd : Value) : Prop :=
  ∃ a o pm, mg (nameAt i) = some (.ref a) ∧ ht.get? a = some o ∧ o.data = .func (fdAt i pm cd) ∧ ht.CodeRec cd (nameAt i)
structure Ctx (ht : Heap) (mg mb : Str → Option Value) (Ua Ub : TabSpec) : Prop where
  base : Base ht mg mb
  fn : ∀ i, i ∈ [2, 6, 7, 9, 10, 12, 13, 14, 15, 17, 18, 19, 20, 21, 22] → ∃ cd, FnAt ht mg i cd
  fn4 : FnAt ht mg 4 (.ref Ua.c)
  fn5 : FnAt ht mg 5 (.ref Ub.c)
  b1 : ht.BuiltinsAt mg Ua.P
  b2 : ht.BuiltinsAt mg Ub.P
  ne : Ua.P ≠ Ub.P
  lim : ∃ t, mg "_DIV_LIMIT" = some (.int 4000 t)
  nog : ∀ x, x ∈ (["int", "len", "sum", "min", "max", "range", "ord", "divmod", "reversed", "sorted"] : List Str) → mg x = none
  bi : mb "int" = some (.type "int")
  bl : mb "len" = some (.builtin "len")
  bs : mb "sum" = some (.builtin "sum")
  bmin : mb "min" = some (.builtin "min")
  bmax : mb "max" = some (.builtin "max")
  br : mb "range" = some (.type "range")
  bo : mb "ord" = some (.builtin "ord")
  bd : mb "divmod" = some (.builtin "divmod")
  brev : mb "reversed" = some (.type "reversed")
  bsort : mb "sorted" = some (.builtin "sorted")

/-- what a call of a definition of the top answers -/
def Says (prog : Program) (w : World) (Z : Tb) (ht : Heap) (mg : Str → Option Value) (n : Nat) (x : Str) (K : Value → Prop) : Prop := ∃ f, mg x = some f ∧ Callee ht f ∧ K f

theorem FnAt.says {prog : Program} {w : World} {Z : Tb} {ht : Heap} {mg : Str → Option Value} {n i : Nat} {cd : Value} (h : FnAt ht mg i cd) {K : Value → Prop}
    (hK : ∀ a o pm, ht.get? a = some o → o.data = .func (fdAt i pm cd) → ht.CodeRec cd (nameAt i) → K (.ref a)) : Says prog w Z ht mg n (nameAt i) K := by
  obtain ⟨a, o, pm, h1, h2, h3, h4⟩ := h
  exact ⟨.ref a, h1, .inr (.inr ⟨a, o, _, rfl, h2, h3⟩), hK a o pm h2 h3 h4⟩

section
variable {prog : Program} {w : World} {Z : Tb} {ht : Heap} {mg mb : Str → Option Value} {Ua Ub : TabSpec} {μ : Store} {n : Nat}

def trunc64 (x : UInt64) : Int := match Float64.decode x with | .fin sg m e => Float64.truncOf sg m e | _ => 0
def isFin (x : UInt64) : Bool := match Float64.decode x with | .fin _ _ _ => true | _ => false
theorem c_int64 {x : UInt64} {Post : AV → Store → Prop} (hx : isFin x = true) (h : Post (.p (.int (trunc64 x))) μ) : TC prog w Z ht n (.type "int") [.p (.flt x)] μ Post := by
  unfold isFin at hx
  unfold trunc64 at h
  cases q : Float64.decode x with
  | fin sg m e => rw [q] at h; exact c_intf q h
  | _ => rw [q] at hx; cases hx
theorem TE.callB {mg mb : Str → Option Value} {F : Fm} {ρ : Rho} {id : Str} {p pos : Pos} {e : Expr} {es : List Expr} {f : Value} {Post : AV → Store → Prop} (B : Base ht mg mb) (hg : mg id = none) (hb : mb id = some f) (hc : Callee ht f) (hk : F.env.kindOf id = some .globalImplicit)
    (h : TL prog w Z ht n F pos (e :: es) ρ μ fun vs μ₂ => TC prog w Z ht n f vs μ₂ Post)
    (hd : (id == ("__debug__" : Str)) = false := by decide)
    (he : starEach (e :: es) F.env = (false, eval e F.env) :: starEach es F.env := by rfl) (hp : ((backTo pos (starEach (e :: es) F.env)).any (·.1)) = false := by rfl) :
    TE prog w Z ht n F (.Call (.Name id p) (e :: es) [] pos) ρ μ Post :=
  TE.call (TE.blt B hg hb hk ⟨f, rfl, hc, h⟩ hd) he hp
theorem TE.callG {mg mb : Str → Option Value} {F : Fm} {ρ : Rho} {id : Str} {p pos : Pos} {e : Expr} {es : List Expr} {f : Value} {Post : AV → Store → Prop} (B : Base ht mg mb) (hg : mg id = some f) (hc : Callee ht f) (hk : F.env.kindOf id = some .globalImplicit)
    (h : TL prog w Z ht n F pos (e :: es) ρ μ fun vs μ₂ => TC prog w Z ht n f vs μ₂ Post)
    (hd : (id == ("__debug__" : Str)) = false := by decide)
    (he : starEach (e :: es) F.env = (false, eval e F.env) :: starEach es F.env := by rfl) (hp : ((backTo pos (starEach (e :: es) F.env)).any (·.1)) = false := by rfl) :
    TE prog w Z ht n F (.Call (.Name id p) (e :: es) [] pos) ρ μ Post :=
  TE.call (TE.glob B hg hk ⟨f, rfl, hc, h⟩ hd) he hp
theorem Callee.b {id : String} : Callee ht (.builtin id) := .inl ⟨_, rfl⟩
theorem Callee.t {id : String} : Callee ht (.type id) := .inr (.inl ⟨_, rfl⟩)

theorem TE.bInt {F : Fm} {ρ : Rho} {p pos : Pos} {e : Expr} {es : List Expr} {Post : AV → Store → Prop} (C : Ctx ht mg mb Ua Ub) (hk : F.env.kindOf "int" = some .globalImplicit)
    (h : TL prog w Z ht n F pos (e :: es) ρ μ fun vs μ₂ => TC prog w Z ht n (.type "int") vs μ₂ Post)
    (he : starEach (e :: es) F.env = (false, eval e F.env) :: starEach es F.env := by rfl) (hp : ((backTo pos (starEach (e :: es) F.env)).any (·.1)) = false := by rfl) :
    TE prog w Z ht n F (.Call (.Name "int" p) (e :: es) [] pos) ρ μ Post := TE.callB C.base (C.nog _ (by decide)) C.bi Callee.t hk h (by decide) he hp
theorem TE.bLen {F : Fm} {ρ : Rho} {p pos : Pos} {e : Expr} {es : List Expr} {Post : AV → Store → Prop} (C : Ctx ht mg mb Ua Ub) (hk : F.env.kindOf "len" = some .globalImplicit)
    (h : TL prog w Z ht n F pos (e :: es) ρ μ fun vs μ₂ => TC prog w Z ht n (.builtin "len") vs μ₂ Post)
    (he : starEach (e :: es) F.env = (false, eval e F.env) :: starEach es F.env := by rfl) (hp : ((backTo pos (starEach (e :: es) F.env)).any (·.1)) = false := by rfl) :
    TE prog w Z ht n F (.Call (.Name "len" p) (e :: es) [] pos) ρ μ Post := TE.callB C.base (C.nog _ (by decide)) C.bl Callee.b hk h (by decide) he hp
theorem TE.bSum {F : Fm} {ρ : Rho} {p pos : Pos} {e : Expr} {es : List Expr} {Post : AV → Store → Prop} (C : Ctx ht mg mb Ua Ub) (hk : F.env.kindOf "sum" = some .globalImplicit)
    (h : TL prog w Z ht n F pos (e :: es) ρ μ fun vs μ₂ => TC prog w Z ht n (.builtin "sum") vs μ₂ Post)
    (he : starEach (e :: es) F.env = (false, eval e F.env) :: starEach es F.env := by rfl) (hp : ((backTo pos (starEach (e :: es) F.env)).any (·.1)) = false := by rfl) :
    TE prog w Z ht n F (.Call (.Name "sum" p) (e :: es) [] pos) ρ μ Post := TE.callB C.base (C.nog _ (by decide)) C.bs Callee.b hk h (by decide) he hp
theorem TE.bMin {F : Fm} {ρ : Rho} {p pos : Pos} {e : Expr} {es : List Expr} {Post : AV → Store → Prop} (C : Ctx ht mg mb Ua Ub) (hk : F.env.kindOf "min" = some .globalImplicit)
    (h : TL prog w Z ht n F pos (e :: es) ρ μ fun vs μ₂ => TC prog w Z ht n (.builtin "min") vs μ₂ Post)
    (he : starEach (e :: es) F.env = (false, eval e F.env) :: starEach es F.env := by rfl) (hp : ((backTo pos (starEach (e :: es) F.env)).any (·.1)) = false := by rfl) :
    TE prog w Z ht n F (.Call (.Name "min" p) (e :: es) [] pos) ρ μ Post := TE.callB C.base (C.nog _ (by decide)) C.bmin Callee.b hk h (by decide) he hp
theorem TE.bMax {F : Fm} {ρ : Rho} {p pos : Pos} {e : Expr} {es : List Expr} {Post : AV → Store → Prop} (C : Ctx ht mg mb Ua Ub) (hk : F.env.kindOf "max" = some .globalImplicit)
    (h : TL prog w Z ht n F pos (e :: es) ρ μ fun vs μ₂ => TC prog w Z ht n (.builtin "max") vs μ₂ Post)
    (he : starEach (e :: es) F.env = (false, eval e F.env) :: starEach es F.env := by rfl) (hp : ((backTo pos (starEach (e :: es) F.env)).any (·.1)) = false := by rfl) :
    TE prog w Z ht n F (.Call (.Name "max" p) (e :: es) [] pos) ρ μ Post := TE.callB C.base (C.nog _ (by decide)) C.bmax Callee.b hk h (by decide) he hp
theorem TE.bRange {F : Fm} {ρ : Rho} {p pos : Pos} {e : Expr} {es : List Expr} {Post : AV → Store → Prop} (C : Ctx ht mg mb Ua Ub) (hk : F.env.kindOf "range" = some .globalImplicit)
    (h : TL prog w Z ht n F pos (e :: es) ρ μ fun vs μ₂ => TC prog w Z ht n (.type "range") vs μ₂ Post)
    (he : starEach (e :: es) F.env = (false, eval e F.env) :: starEach es F.env := by rfl) (hp : ((backTo pos (starEach (e :: es) F.env)).any (·.1)) = false := by rfl) :
    TE prog w Z ht n F (.Call (.Name "range" p) (e :: es) [] pos) ρ μ Post := TE.callB C.base (C.nog _ (by decide)) C.br Callee.t hk h (by decide) he hp
theorem TE.bOrd {F : Fm} {ρ : Rho} {p pos : Pos} {e : Expr} {es : List Expr} {Post : AV → Store → Prop} (C : Ctx ht mg mb Ua Ub) (hk : F.env.kindOf "ord" = some .globalImplicit)
    (h : TL prog w Z ht n F pos (e :: es) ρ μ fun vs μ₂ => TC prog w Z ht n (.builtin "ord") vs μ₂ Post)
    (he : starEach (e :: es) F.env = (false, eval e F.env) :: starEach es F.env := by rfl) (hp : ((backTo pos (starEach (e :: es) F.env)).any (·.1)) = false := by rfl) :
    TE prog w Z ht n F (.Call (.Name "ord" p) (e :: es) [] pos) ρ μ Post := TE.callB C.base (C.nog _ (by decide)) C.bo Callee.b hk h (by decide) he hp
theorem TE.bDivmod {F : Fm} {ρ : Rho} {p pos : Pos} {e : Expr} {es : List Expr} {Post : AV → Store → Prop} (C : Ctx ht mg mb Ua Ub) (hk : F.env.kindOf "divmod" = some .globalImplicit)
    (h : TL prog w Z ht n F pos (e :: es) ρ μ fun vs μ₂ => TC prog w Z ht n (.builtin "divmod") vs μ₂ Post)
    (he : starEach (e :: es) F.env = (false, eval e F.env) :: starEach es F.env := by rfl) (hp : ((backTo pos (starEach (e :: es) F.env)).any (·.1)) = false := by rfl) :
    TE prog w Z ht n F (.Call (.Name "divmod" p) (e :: es) [] pos) ρ μ Post := TE.callB C.base (C.nog _ (by decide)) C.bd Callee.b hk h (by decide) he hp
theorem TE.bSorted {F : Fm} {ρ : Rho} {p pos : Pos} {e : Expr} {es : List Expr} {Post : AV → Store → Prop} (C : Ctx ht mg mb Ua Ub) (hk : F.env.kindOf "sorted" = some .globalImplicit)
    (h : TL prog w Z ht n F pos (e :: es) ρ μ fun vs μ₂ => TC prog w Z ht n (.builtin "sorted") vs μ₂ Post)
    (he : starEach (e :: es) F.env = (false, eval e F.env) :: starEach es F.env := by rfl) (hp : ((backTo pos (starEach (e :: es) F.env)).any (·.1)) = false := by rfl) :
    TE prog w Z ht n F (.Call (.Name "sorted" p) (e :: es) [] pos) ρ μ Post := TE.callB C.base (C.nog _ (by decide)) C.bsort Callee.b hk h (by decide) he hp
section
variable {prog : Program} {w : World} {Z : Tb} {ht : Heap} {n : Nat} {F : Fm} {ρ : Rho} {μ : Store} {rest : List Stmt} {Post : Fl → Rho → Store → Prop}
theorem TS.next (h : TS prog w Z ht n F rest ρ μ Post) : thenS prog w Z ht n F rest Post .next ρ μ := h
theorem TS.ret {v : AV} (h : Post (.ret v) ρ μ) : thenS prog w Z ht n F rest Post (.ret v) ρ μ := h
theorem TS.brk (h : Post .brk ρ μ) : thenS prog w Z ht n F rest Post .brk ρ μ := h
theorem TS.cont (h : Post .cont ρ μ) : thenS prog w Z ht n F rest Post .cont ρ μ := h
end
section
variable {prog : Program} {w : World} {Z : Tb} {ht : Heap} {n : Nat} {F : Fm} {ρ : Rho} {μ : Store}
abbrev Un (prog : Program) (w : World) (Z : Tb) (ht : Heap) (n : Nat) (op : UnaryOp) (a : AV) (μ : Store) (Post : AV → Store → Prop) : Prop := TO prog w Z ht n RelA [a] (fun cs => match cs with | [x] => unaryOp op x | _ => unsupported "") μ Post
abbrev Inp (prog : Program) (w : World) (Z : Tb) (ht : Heap) (n : Nat) (op : Operator) (a b : AV) (μ : Store) (Post : AV → Store → Prop) : Prop := TO prog w Z ht n RelA [a, b] (fun cs => match cs with | [x, y] => inplaceOp op x y | _ => unsupported "") μ Post
abbrev Itm (prog : Program) (w : World) (Z : Tb) (ht : Heap) (n : Nat) (a b : AV) (μ : Store) (Post : AV → Store → Prop) : Prop := TO prog w Z ht n RelA [a, b] (fun cs => match cs with | [x, y] => getItem x y | _ => unsupported "") μ Post
theorem TE.bin' {l r : Expr} {op : Operator} {pos : Pos} {Post : AV → Store → Prop}
    (h : TE prog w Z ht n F l ρ μ fun a μ₁ => TE prog w Z ht n F r ρ μ₁ fun b μ₂ => Bin prog w Z ht n op a b μ₂ Post) : TE prog w Z ht n F (.BinOp l op r pos) ρ μ Post := TE.bin h
theorem TE.un' {x : Expr} {op : UnaryOp} {pos : Pos} {Post : AV → Store → Prop} (h : TE prog w Z ht n F x ρ μ fun a μ₁ => Un prog w Z ht n op a μ₁ Post) : TE prog w Z ht n F (.UnaryOp op x pos) ρ μ Post := TE.un h
theorem TE.cmp' {l r : Expr} {op : CmpOp} {pos : Pos} {Post : AV → Store → Prop}
    (h : TE prog w Z ht n F l ρ μ fun a μ₁ => TE prog w Z ht n F r ρ μ₁ fun b μ₂ => Cmp prog w Z ht n op a b μ₂ Post) (hb : behindInMarks op r = false := by rfl) : TE prog w Z ht n F (.Compare l [op] [r] pos) ρ μ Post := TE.cmp h hb
theorem TB.cmp' {l r : Expr} {op : CmpOp} {pos : Pos} {Post : Bool → Store → Prop}
    (h : TE prog w Z ht n F l ρ μ fun a μ₁ => TE prog w Z ht n F r ρ μ₁ fun b μ₂ => Cmp prog w Z ht n op a b μ₂ fun v μ₃ => ∃ b, v = .p (.bool b) ∧ Post b μ₃) (hb : behindInMarks op r = false := by rfl) : TB prog w Z ht n F (.Compare l [op] [r] pos) ρ μ Post := TB.cmp h hb
theorem TB.val' {e : Expr} {Post : Bool → Store → Prop} (h : TE prog w Z ht n F e ρ μ fun a μ₁ => Tru prog w Z ht n a μ₁ Post)
    (hv : isTrue e F.env (eval e F.env) = (do let v ← eval e F.env; standAt e.pos; holding [v] (truthy v)) := by rfl) : TB prog w Z ht n F e ρ μ Post := TB.val h hv
theorem T1.aug' {x : Str} {px pos : Pos} {op : Operator} {e : Expr} {v₀ : AV} {Post : Fl → Rho → Store → Prop} (hv : ρ x = some v₀) (hl : F.env.kindOf x = some .local)
    (h : TE prog w Z ht n F e ρ μ fun v μ' => Inp prog w Z ht n op v₀ v μ' fun r μ'' => Post .next (upd ρ x r) μ'') : T1 prog w Z ht n F (.AugAssign (.Name x px) op e pos) ρ μ Post := T1.aug hv hl h
theorem TE.sub' {value slice : Expr} {pos : Pos} {Post : AV → Store → Prop}
    (h : TE prog w Z ht n F value ρ μ fun o μ₁ => TE prog w Z ht n F slice ρ μ₁ fun i μ₂ => SubOk prog w Z ht μ₂ o ∧ Itm prog w Z ht n o i μ₂ Post)
    (hs : ∀ o i, subscripted slice false o i = operate [o, i] (getItem o i) := by intro _ _; rfl) : TE prog w Z ht n F (.Subscript value slice pos) ρ μ Post := TE.sub h hs
theorem o_neg' {a : Int} {Post : AV → Store → Prop} (h : Post (.p (.int (-a))) μ) : Un prog w Z ht n .USub (.p (.int a)) μ Post := o_neg h
theorem o_iadd' {a b : Int} {Post : AV → Store → Prop} (h : Post (.p (.int (a + b))) μ) : Inp prog w Z ht n .Add (.p (.int a)) (.p (.int b)) μ Post := o_iadd h
theorem i_list {v : AV} {vs : List V} {k : Int} {x : V} {Post : AV → Store → Prop} (hL : IsL μ v vs) (h0 : 0 ≤ k) (hk : k < 2 ^ 62) (hx : vs[k.toNat]? = some x) (h : Post (.p x) μ) : SubOk prog w Z ht μ v ∧ Itm prog w Z ht n v (.p (.int k)) μ Post := ⟨sub_list hL, item_list hL h0 hk hx h⟩
theorem i_tup {vs : List V} {k : Int} {x : V} {Post : AV → Store → Prop} (h0 : 0 ≤ k) (hk : k < 2 ^ 62) (hx : vs[k.toNat]? = some x) (h : Post (.p x) μ) : SubOk prog w Z ht μ (.p (.tup vs)) ∧ Itm prog w Z ht n (.p (.tup vs)) (.p (.int k)) μ Post := ⟨sub_tup, item_tup h0 hk hx h⟩
theorem i_str {x : Str} {k : Int} {c : Nat} {Post : AV → Store → Prop} (h0 : 0 ≤ k) (hk : k < 2 ^ 62) (hx : x.cps[k.toNat]? = some c) (h : Post (.p (.str ⟨#[c]⟩)) μ) : SubOk prog w Z ht μ (.p (.str x)) ∧ Itm prog w Z ht n (.p (.str x)) (.p (.int k)) μ Post := ⟨sub_str, item_str h0 hk hx h⟩
end

end
local macro_rules | `(tactic| walk_at "look") => `(tactic| first | with_reducible assumption | ((with_reducible show upd _ _ _ _ = _); first | with_reducible exact upd_hit | with_reducible exact upd_miss (by decide +kernel) (by walk_at "look")) | ((with_reducible show mask _ _ _ = _); exact mask_look (by kernel_rfl) (by walk_at "look")))
local macro_rules | `(tactic| walk_at "mine") => `(tactic| first
  | ((with_reducible show thenS _ _ _ _ _ _ _ _ Fl.next _ _); refine TS.next ?_)
  | ((with_reducible show thenS _ _ _ _ _ _ _ _ _ _ _); first | refine TS.ret ?_ | refine TS.brk ?_ | refine TS.cont ?_)
  | ((with_reducible show TS _ _ _ _ _ _ _ _ _ _); first | refine TS.cons ?_ | refine TS.nil ?_)
  | ((with_reducible show T1 _ _ _ _ _ _ _ _ _ _); first
    | with_reducible refine T1.if ?_ | with_reducible refine T1.ret ?_ | with_reducible refine T1.retNone ?_ | with_reducible refine T1.brk ?_ | with_reducible refine T1.cont ?_
    | ((with_reducible show T1 _ _ _ _ _ _ (Stmt.Assign [Expr.Name _ _] _ _) _ _ _); refine T1.assign ?_ (.inl rfl))
    | ((with_reducible show T1 _ _ _ _ _ _ (Stmt.Assign [Expr.Subscript _ _ _] _ _) _ _ _); refine T1.assignSub ?_)
    | ((with_reducible show T1 _ _ _ _ _ _ (Stmt.Expr _ _) _ _ _); refine T1.expr ?_)
    | ((with_reducible show T1 _ _ _ _ _ _ (Stmt.AugAssign _ _ _ _) _ _ _); first | refine T1.aug' (by walk_at "look") rfl ?_ | refine T1.aug' rfl rfl ?_))
  | ((with_reducible show TB _ _ _ _ _ _ _ _ _ _); first
    | ((with_reducible show TB _ _ _ _ _ _ (Expr.Compare _ _ _ _) _ _ _); refine TB.cmp' ?_)
    | with_reducible refine TB.not ?_ | with_reducible refine TB.and2 ?_ | refine TB.val' ?_)
  | ((with_reducible show TE _ _ _ _ _ _ _ _ _ _); first
    | ((with_reducible show TE _ _ _ _ _ _ (Expr.Name _ _) _ _ _); first
      | refine TE.name (by walk_at "look") (.inl rfl) ?_ | refine TE.name (by walk_at "look") (.inr (.inl rfl)) ?_ | refine TE.name (by walk_at "look") (.inr (.inr rfl)) ?_
      | refine TE.name rfl (.inl rfl) ?_ | refine TE.name rfl (.inr (.inl rfl)) ?_ | refine TE.name rfl (.inr (.inr rfl)) ?_)
    | with_reducible refine TE.bin' ?_ | with_reducible refine TE.int ?_ | with_reducible refine TE.flt ?_ | with_reducible refine TE.str ?_ | with_reducible refine TE.bool ?_ | with_reducible refine TE.un' ?_ | with_reducible refine TE.tup ?_ | with_reducible refine TE.ifexp ?_
    | ((with_reducible show TE _ _ _ _ _ _ (Expr.Compare _ _ _ _) _ _ _); refine TE.cmp' ?_)
    | ((with_reducible show TE _ _ _ _ _ _ (Expr.Subscript _ (Expr.Slice _ _ _ _) _) _ _ _); refine TE.sliceL ?_)
    | ((with_reducible show TE _ _ _ _ _ _ (Expr.Subscript _ _ _) _ _ _); refine TE.sub' ?_)
    | ((with_reducible show TE _ _ _ _ _ _ (Expr.Call (Expr.Name _ _) _ _ _) _ _ _); first
      | ((with_reducible show TE _ _ _ _ _ _ (Expr.Call (Expr.Name (Str.ofString "int") _) _ _ _) _ _ _); refine TE.bInt (by assumption) rfl ?_)
      | ((with_reducible show TE _ _ _ _ _ _ (Expr.Call (Expr.Name (Str.ofString "len") _) _ _ _) _ _ _); refine TE.bLen (by assumption) rfl ?_)
      | ((with_reducible show TE _ _ _ _ _ _ (Expr.Call (Expr.Name (Str.ofString "sum") _) _ _ _) _ _ _); refine TE.bSum (by assumption) rfl ?_)
      | ((with_reducible show TE _ _ _ _ _ _ (Expr.Call (Expr.Name (Str.ofString "min") _) _ _ _) _ _ _); refine TE.bMin (by assumption) rfl ?_)
      | ((with_reducible show TE _ _ _ _ _ _ (Expr.Call (Expr.Name (Str.ofString "max") _) _ _ _) _ _ _); refine TE.bMax (by assumption) rfl ?_)
      | ((with_reducible show TE _ _ _ _ _ _ (Expr.Call (Expr.Name (Str.ofString "range") _) _ _ _) _ _ _); refine TE.bRange (by assumption) rfl ?_)
      | ((with_reducible show TE _ _ _ _ _ _ (Expr.Call (Expr.Name (Str.ofString "ord") _) _ _ _) _ _ _); refine TE.bOrd (by assumption) rfl ?_)
      | ((with_reducible show TE _ _ _ _ _ _ (Expr.Call (Expr.Name (Str.ofString "divmod") _) _ _ _) _ _ _); refine TE.bDivmod (by assumption) rfl ?_)
      | ((with_reducible show TE _ _ _ _ _ _ (Expr.Call (Expr.Name (Str.ofString "sorted") _) _ _ _) _ _ _); refine TE.bSorted (by assumption) rfl ?_)))
  | ((with_reducible show TP _ _ _ _ _ _ _ _ _ _); first | refine TP.isN ?_ | refine TP.isS ?_)
  | ((with_reducible show TL _ _ _ _ _ _ _ _ _ _ _); first | refine TL.cons ?_ | refine TL.nil ?_)
  | with_reducible refine o_add ?_ | with_reducible refine o_sub ?_ | with_reducible refine c_eq ?_ | with_reducible refine c_lt ?_ | with_reducible refine c_le ?_ | with_reducible refine c_gt ?_
  | with_reducible refine f_eq ?_ | with_reducible refine f_mul ?_ | with_reducible refine f_sub ?_ | with_reducible refine f_add ?_
  | with_reducible refine o_iadd' ?_ | with_reducible refine o_neg' ?_ | with_reducible refine o_xor ?_
  | with_reducible refine c_range ?_ | with_reducible refine c_ord ?_ | with_reducible refine c_min2 ?_ | with_reducible refine c_bitlen ?_ | with_reducible refine t_bool ?_ | with_reducible refine t_int ?_
  | ((with_reducible show Exists _); refine ⟨_, rfl, ?_⟩)
  | ((with_reducible show And (_ = _) _); refine ⟨rfl, ?_⟩))
section
variable {prog : Program} {w : World} {Z : Tb} {ht : Heap} {mg mb : Str → Option Value} {Ua Ub : TabSpec} {μ : Store} {n : Nat}
/-- hsv_to_rgb -/
abbrev six : UInt64 := 4618441417868443648
abbrev one : UInt64 := 4607182418800017408
def hsvR (h s v : UInt64) : UInt64 × UInt64 × UInt64 :=
  let i := trunc64 (Float64.mul h six)
  let f := Float64.sub (Float64.mul h six) (Float64.ofInt i)
  let p := Float64.mul v (Float64.sub one s)
  let q := Float64.mul v (Float64.sub one (Float64.mul s f))
  let t := Float64.mul v (Float64.sub one (Float64.mul s (Float64.sub one f)))
  if i.fmod 6 == 0 then (v, t, p) else if i.fmod 6 == 1 then (q, v, p) else if i.fmod 6 == 2 then (p, v, t) else if i.fmod 6 == 3 then (p, q, v) else if i.fmod 6 == 4 then (t, p, v) else (v, p, q)
def hsvOk (h s v : UInt64) : Bool := !(Float64.cmp s 0 == some Ordering.eq) && isFin (Float64.mul h six) && !(Float64.isInf (Float64.ofInt (trunc64 (Float64.mul h six))))
def f3 (x : UInt64 × UInt64 × UInt64) : V := .tup [.flt x.1, .flt x.2.1, .flt x.2.2]
theorem k_hsv (C : Ctx ht mg mb Ua Ub) : Says prog w Z ht mg n (nameAt 10) fun f => ∀ (h s v : UInt64) (Post : AV → Store → Prop), hsvOk h s v = true → Post (.p (f3 (hsvR h s v))) μ → TC prog w Z ht (n + 1) f [.p (.flt h), .p (.flt s), .p (.flt v)] μ Post := by
  obtain ⟨cd, hf⟩ := C.fn 10 (by decide)
  refine hf.says fun a o pm ho hd hcd h s v Post hok hP => ?_
  unfold hsvOk at hok
  simp only [Bool.and_eq_true, Bool.not_eq_true'] at hok
  obtain ⟨⟨h1, h2⟩, h3⟩ := hok
  refine TC.def C.base ho hd hcd rfl (pn := ["h", "s", "v"]) (bind3 fun _ _ _ => rfl) rfl rfl rfl (by rfl) (by rfl) rfl rfl rfl fun L => ?_
  have fin : ∀ (x y z : UInt64), hsvR h s v = (x, y, z) → ∃ vs, [AV.p (.flt x), .p (.flt y), .p (.flt z)] = List.map AV.p vs ∧ vs.length ≤ 1000000 ∧ RetP μ Post (.ret (.p (.tup vs))) μ := by
    intro x y z e
    refine ⟨[.flt x, .flt y, .flt z], rfl, Nat.le_of_ble_eq_true rfl, ?_⟩
    show Post _ _
    rw [List.take_length]
    rw [e] at hP
    exact hP
  repeat walk_at "mine"
  rw [h1]
  dsimp only
  repeat walk_at "mine"
  refine c_int64 h2 ?_
  repeat walk_at "mine"
  refine f_sub_fi (by rw [h3]; simp) ?_
  repeat walk_at "mine"
  refine o_mod (by decide) ?_
  repeat walk_at "mine"
  split <;> rename_i e0
  · repeat walk_at "mine"
    exact fin _ _ _ (by simp [hsvR, e0])
  repeat walk_at "mine"
  split <;> rename_i e1
  · repeat walk_at "mine"
    exact fin _ _ _ (by simp [hsvR, e0, e1])
  repeat walk_at "mine"
  split <;> rename_i e2
  · repeat walk_at "mine"
    exact fin _ _ _ (by simp [hsvR, e0, e1, e2])
  repeat walk_at "mine"
  split <;> rename_i e3
  · repeat walk_at "mine"
    exact fin _ _ _ (by simp [hsvR, e0, e1, e2, e3])
  repeat walk_at "mine"
  split <;> rename_i e4
  · repeat walk_at "mine"
    exact fin _ _ _ (by simp [hsvR, e0, e1, e2, e3, e4])
  repeat walk_at "mine"
  split <;> rename_i e5
  · repeat walk_at "mine"
    exact fin _ _ _ (by simp [hsvR, e0, e1, e2, e3, e4])
  exfalso
  have a1 : 0 ≤ (trunc64 (Float64.mul h 4618441417868443648)).fmod 6 := Int.fmod_nonneg_of_pos _ (by decide)
  have a2 : (trunc64 (Float64.mul h 4618441417868443648)).fmod 6 < 6 := Int.fmod_lt_of_pos _ (by decide)
  simp only [beq_eq_false_iff_ne, ne_eq] at e0 e1 e2 e3 e4 e5
  lia

/-- rgb_to_hsv -/
def rgbR (r g b : UInt64) : UInt64 × UInt64 × UInt64 :=
  let M := fmax3 r g b
  let m := fmin3 r g b
  let d := Float64.sub M m
  let rc := Float64.div (Float64.sub M r) d
  let gc := Float64.div (Float64.sub M g) d
  let bc := Float64.div (Float64.sub M b) d
  let h := if Float64.cmp r M == some Ordering.eq then Float64.sub bc gc
    else if Float64.cmp g M == some Ordering.eq then Float64.sub (Float64.add 4611686018427387904 rc) bc
    else Float64.sub (Float64.add 4616189618054758400 gc) rc
  if Float64.cmp m M == some Ordering.eq then (0, 0, M)
  else ((Float64.divmod (Float64.div h six) one).snd, Float64.div d M, M)
def rgbOk (r g b : UInt64) : Bool := (Float64.cmp (fmin3 r g b) (fmax3 r g b) == some Ordering.eq) || (!(Float64.isZero (fmax3 r g b)) && !(Float64.isZero (Float64.sub (fmax3 r g b) (fmin3 r g b))))
theorem k_rgb (C : Ctx ht mg mb Ua Ub) : Says prog w Z ht mg n (nameAt 9) fun f => ∀ (r g b : UInt64) (Post : AV → Store → Prop), rgbOk r g b = true → Post (.p (f3 (rgbR r g b))) μ → TC prog w Z ht (n + 1) f [.p (.flt r), .p (.flt g), .p (.flt b)] μ Post := by
  obtain ⟨cd, hf⟩ := C.fn 9 (by decide)
  refine hf.says fun a o pm ho hd hcd r g b Post hok hP => ?_
  unfold rgbOk at hok
  simp only [Bool.or_eq_true, Bool.and_eq_true, Bool.not_eq_true'] at hok
  refine TC.def C.base ho hd hcd rfl (pn := ["r", "g", "b"]) (bind3 fun _ _ _ => rfl) rfl rfl rfl (by rfl) (by rfl) rfl rfl rfl fun L => ?_
  have fin : ∀ (x y z : UInt64), rgbR r g b = (x, y, z) → ∃ vs, [AV.p (.flt x), .p (.flt y), .p (.flt z)] = List.map AV.p vs ∧ vs.length ≤ 1000000 ∧ RetP μ Post (.ret (.p (.tup vs))) μ := by
    intro x y z e
    refine ⟨[.flt x, .flt y, .flt z], rfl, Nat.le_of_ble_eq_true rfl, ?_⟩
    show Post _ _
    rw [List.take_length]
    rw [e] at hP
    exact hP
  repeat walk_at "mine"
  refine c_max3 ?_
  repeat walk_at "mine"
  refine c_min3 ?_
  repeat walk_at "mine"
  split <;> rename_i e0
  · repeat walk_at "mine"
    exact fin _ _ _ (by simp [rgbR, e0])
  have hz := hok.resolve_left (by rw [e0]; simp)
  repeat walk_at "mine"
  refine f_div (by rw [hz.1]; simp) ?_
  repeat walk_at "mine"
  refine f_div (by rw [hz.2]; simp) ?_
  repeat walk_at "mine"
  refine f_div (by rw [hz.2]; simp) ?_
  repeat walk_at "mine"
  refine f_div (by rw [hz.2]; simp) ?_
  repeat walk_at "mine"
  split <;> rename_i e1
  · repeat walk_at "mine"
    refine f_div (by decide +kernel) ?_
    repeat walk_at "mine"
    refine f_mod (by decide +kernel) ?_
    repeat walk_at "mine"
    exact fin _ _ _ (by simp [rgbR, e0, e1])
  repeat walk_at "mine"
  split <;> rename_i e2
  · repeat walk_at "mine"
    refine f_div (by decide +kernel) ?_
    repeat walk_at "mine"
    refine f_mod (by decide +kernel) ?_
    repeat walk_at "mine"
    exact fin _ _ _ (by simp [rgbR, e0, e1, e2])
  repeat walk_at "mine"
  refine f_div (by decide +kernel) ?_
  repeat walk_at "mine"
  refine f_mod (by decide +kernel) ?_
  repeat walk_at "mine"
  exact fin _ _ _ (by simp [rgbR, e0, e1, e2])

end

section
variable {prog : Program} {w : World} {Z : Tb} {ht : Heap} {mg mb : Str → Option Value} {Ua Ub : TabSpec} {μ : Store} {n : Nat}

/-! the heap -/
def w0 : Wd := (0, ⟨#[]⟩)
def sdF : Nat → List Wd → Wd → Nat → List Wd
  | 0, l, x, p => l.set p x
  | f+1, l, x, p => if p = 0 then l.set p x else if wlt x (l.getD ((p - 1) / 2) w0) then sdF f (l.set p (l.getD ((p - 1) / 2) w0)) x ((p - 1) / 2) else l.set p x
theorem sdF_length : ∀ (f : Nat) (l : List Wd) (x : Wd) (p : Nat), (sdF f l x p).length = l.length
  | 0, l, x, p => List.length_set
  | f+1, l, x, p => by
    unfold sdF
    split
    · exact List.length_set
    · split
      · rw [sdF_length f]; exact List.length_set
      · exact List.length_set
theorem getm {l : List Wd} {i : Nat} (h : i < l.length) : (l.map wv)[i]? = some (wv (l.getD i w0)) := by
  rw [List.getElem?_map, List.getElem?_eq_getElem h]; simp [h]
theorem i_wd {v : AV} {l : List Wd} {i : Nat} {Post : AV → Store → Prop} (hL : IsL μ v (l.map wv)) (hi : i < l.length) (hb : l.length ≤ 1000000) (h : Post (.p (wv (l.getD i w0))) μ) : SubOk prog w Z ht μ v ∧ Itm prog w Z ht n v (.p (.int (i : Nat))) μ Post :=
  i_list hL (by lia) (by lia) (by rw [Int.toNat_natCast]; exact getm hi) h
theorem setm {l : List Wd} {i : Nat} {x : Wd} : (l.map wv).set i (wv x) = (l.set i x).map wv := by rw [List.map_set]
theorem par {p : Nat} (h : 0 < p) : ((p : Int) - 1).fdiv (2 ^ (1 : Int).toNat) = ((p - 1) / 2 : Nat) := by
  have : ((p : Int) - 1) = ((p - 1 : Nat) : Int) := by lia
  rw [this, Int.fdiv_eq_ediv_of_nonneg _ (by decide)]
  show ((p - 1 : Nat) : Int) / 2 = _
  lia
structure SdI (Post : Store → Prop) (k : Nat) (μ₀ : Store) (x : Wd) (N : Nat) (m : Nat) (ρ : Rho) (μ : Store) : Prop where
  ex : ∃ (l : List Wd) (f : Nat), l.length = N ∧ m < N ∧ m ≤ f ∧ k < μ₀.length ∧ μ = μ₀.set k (l.map wv) ∧ Post (μ₀.set k ((sdF f l x m).map wv))
  h1 : ρ "heap" = some (.m k)
  h2 : ρ "startpos" = some (.p (.int 0))
  h3 : ρ "newitem" = some (.p (wv x))
  h4 : ρ "pos" = some (.p (.int (m : Nat)))
theorem sets {μ : Store} {k : Nat} {a b : List V} : (List.set (List.set μ k a) k b) = List.set μ k b := List.set_set ..
theorem setSame {μ : Store} {k : Nat} {a : List V} (h : μ[k]? = some a) : List.set μ k a = μ := by
  apply List.ext_getElem?
  intro i
  rw [List.getElem?_set]
  split
  · next q => subst q; split
              · exact h.symm
              · next q => rw [List.getElem?_eq_none (by lia)] at h; cases h
  · rfl

theorem k_sd (C : Ctx ht mg mb Ua Ub) : Says prog w Z ht mg n "_siftdown" fun f => ∀ (k : Nat) (l : List Wd) (p : Nat) (μ : Store) (Post : AV → Store → Prop), μ[k]? = some (l.map wv) → p < l.length → l.length ≤ 1000 →
    Post (.p .none) (μ.set k ((sdF p l (l.getD p w0) p).map wv)) → TC prog w Z ht (n + 1) f [.m k, .p (.int 0), .p (.int (p : Nat))] μ Post := by
  obtain ⟨cd, hf⟩ := C.fn 14 (by decide)
  refine hf.says fun a o pm ho hd hcd k l p μ Post hm hp hl hP => ?_
  refine TC.def C.base ho hd hcd rfl (pn := ["heap", "startpos", "pos"]) (bind3 fun _ _ _ => rfl) rfl rfl rfl (by rfl) (by rfl) rfl rfl rfl fun L => ?_
  have hk : k < μ.length := (List.getElem?_eq_some_iff.mp hm).1
  repeat walk_at "mine"
  refine i_wd (.inr ⟨k, rfl, hm⟩) hp (by lia) ?_
  repeat walk_at "mine"
  refine T1.while (SdI (fun μ' => Post (.p .none) μ') k μ (l.getD p w0) l.length) (fun m ρ μ₁ I => ?_) p ⟨⟨l, p, rfl, hp, Nat.le_refl _, hk, (setSame hm).symm, hP⟩, rfl, rfl, rfl, rfl⟩
  obtain ⟨⟨l', f, hN, hmN, hmf, hk', rfl, hP'⟩, h1, h2, h3, h4⟩ := I
  have hget : (List.set μ k (l'.map wv))[k]? = some (l'.map wv) := by rw [List.getElem?_set_self hk]
  have fin : sdF f l' (l.getD p w0) m = l'.set m (l.getD p w0) → RetP μ Post .next (List.set (List.set μ k (List.map wv l')) k ((List.map wv l').set (m : Int).toNat (wv (l.getD p w0)))) := by
    intro e
    rw [sets, Int.toNat_natCast, setm, ← e]
    show Post _ _
    rw [List.take_of_length_le (by simp)]
    exact hP'
  repeat walk_at "mine"
  split <;> rename_i e0
  · have hpos : 0 < m := by simpa using e0
    obtain ⟨f', rfl⟩ : ∃ f', f = f' + 1 := ⟨f - 1, by lia⟩
    repeat walk_at "mine"
    refine o_shr (by decide) ?_
    rw [par hpos]
    repeat walk_at "mine"
    refine i_wd (.inr ⟨k, rfl, hget⟩) ?_ (by lia) ?_
    · lia
    repeat walk_at "mine"
    refine w_lt ?_
    repeat walk_at "mine"
    split <;> rename_i e1
    · repeat walk_at "mine"
      refine ⟨_, _, rfl, hget, by lia, by simp; lia, by lia, ?_⟩
      repeat walk_at "mine"
      refine ⟨(m - 1) / 2, by lia, ⟨⟨l'.set m (l'.getD ((m - 1) / 2) w0), f', by simp [hN], by lia, by lia, hk, ?_, ?_⟩, ?_, ?_, ?_, ?_⟩⟩
      · rw [sets, Int.toNat_natCast, setm]
      · unfold sdF at hP'
        rw [if_neg (by lia), if_pos e1] at hP'
        exact hP'
      all_goals (walk_at "look")
    · repeat walk_at "mine"
      refine ⟨_, _, rfl, hget, by lia, by simp; lia, by lia, ?_⟩
      repeat walk_at "mine"
      refine fin ?_
      unfold sdF
      rw [if_neg (by lia), if_neg (by rw [e1]; simp)]
  · have hz : m = 0 := by have : ¬ (0 < (m : Int)) := by simpa using e0
                          lia
    subst hz
    repeat walk_at "mine"
    refine ⟨_, _, rfl, hget, by lia, by simp; lia, by lia, ?_⟩
    repeat walk_at "mine"
    refine fin ?_
    cases f with
    | zero => rfl
    | succ f => unfold sdF; rw [if_pos rfl]

theorem ch2 (c : Nat) : (2 : Int) * (c : Nat) + 1 = ((2 * c + 1 : Nat) : Int) := by lia
/-- _siftup from 0 -/
def suF (N : Nat) : Nat → List Wd → Nat → List Wd × Nat
  | 0, l, p => (l, p)
  | f+1, l, p => if 2 * p + 1 < N then
      (if 2 * p + 1 + 1 < N ∧ wlt (l.getD (2 * p + 1) w0) (l.getD (2 * p + 1 + 1) w0) = false then suF N f (l.set p (l.getD (2 * p + 1 + 1) w0)) (2 * p + 1 + 1)
        else suF N f (l.set p (l.getD (2 * p + 1) w0)) (2 * p + 1))
    else (l, p)
def supF (l : List Wd) : List Wd :=
  let r := suF l.length l.length l 0
  sdF r.2 (r.1.set r.2 (l.getD 0 w0)) (l.getD 0 w0) r.2
theorem suF_ok (N : Nat) : ∀ (f : Nat) (l : List Wd) (p : Nat), l.length = N → p < N → (suF N f l p).1.length = N ∧ (suF N f l p).2 < N
  | 0, l, p, h, hp => ⟨h, hp⟩
  | f+1, l, p, h, hp => by
    unfold suF
    split
    · split
      · exact suF_ok N f _ _ (by simp [h]) (by lia)
      · exact suF_ok N f _ _ (by simp [h]) (by lia)
    · exact ⟨h, hp⟩
theorem supF_length (l : List Wd) : (supF l).length = l.length := by
  unfold supF
  rw [sdF_length, List.length_set]
  cases l with
  | nil => rfl
  | cons a l => exact (suF_ok _ _ _ _ rfl (by simp)).1
structure SuI (Post : Store → Prop) (k : Nat) (μ₀ : Store) (x : Wd) (N : Nat) (m : Nat) (ρ : Rho) (μ : Store) : Prop where
  ex : ∃ (l : List Wd) (f p : Nat), l.length = N ∧ p < N ∧ m = N - p ∧ m ≤ f ∧ k < μ₀.length ∧ μ = μ₀.set k (l.map wv) ∧ Post (μ₀.set k ((sdF (suF N f l p).2 ((suF N f l p).1.set (suF N f l p).2 x) x (suF N f l p).2).map wv)) ∧
    ρ "pos" = some (.p (.int (p : Nat))) ∧ ρ "childpos" = some (.p (.int ((2 * p + 1 : Nat))))
  h1 : ρ "heap" = some (.m k)
  h2 : ρ "startpos" = some (.p (.int 0))
  h3 : ρ "newitem" = some (.p (wv x))
  h4 : ρ "endpos" = some (.p (.int (N : Nat)))
theorem getD_set_self {l : List Wd} {i : Nat} {x : Wd} (h : i < l.length) : (l.set i x).getD i w0 = x := by
  simp [List.getD, List.getElem?_set_self h]
theorem k_su (C : Ctx ht mg mb Ua Ub) : Says prog w Z ht mg n "_siftup" fun f => ∀ (k : Nat) (l : List Wd) (μ : Store) (Post : AV → Store → Prop), μ[k]? = some (l.map wv) → 0 < l.length → l.length ≤ 1000 →
    Post (.p .none) (μ.set k ((supF l).map wv)) → TC prog w Z ht (n + 2) f [.m k, .p (.int 0)] μ Post := by
  obtain ⟨cd, hf⟩ := C.fn 15 (by decide)
  refine hf.says fun a o pm ho hd hcd k l μ Post hm hp hl hP => ?_
  obtain ⟨fs, gs, cs, ks⟩ := k_sd (prog := prog) (w := w) (Z := Z) (n := n) C
  refine TC.def C.base ho hd hcd rfl (pn := ["heap", "pos"]) (bind2 fun _ _ => rfl) rfl rfl rfl (by rfl) (by rfl) rfl rfl rfl fun L => ?_
  have hk : k < μ.length := (List.getElem?_eq_some_iff.mp hm).1
  repeat walk_at "mine"
  refine c_len (.inr ⟨k, rfl, hm⟩) (by simp; lia) ?_
  rw [List.length_map]
  repeat walk_at "mine"
  refine i_wd (i := 0) (.inr ⟨k, rfl, hm⟩) hp (by lia) ?_
  repeat walk_at "mine"
  refine o_mul (IntMulOk.of_left (by decide)) ?_
  repeat walk_at "mine"
  refine T1.while (SuI (fun μ' => Post (.p .none) μ') k μ (l.getD 0 w0) l.length) (fun m ρ μ₁ I => ?_) l.length ⟨⟨l, l.length, 0, rfl, hp, rfl, Nat.le_refl _, hk, (setSame hm).symm, hP, rfl, rfl⟩, rfl, rfl, rfl, rfl⟩
  obtain ⟨⟨l', f, p, hN, hpN, hmp, hmf, hk', rfl, hP', h5, h6⟩, h1, h2, h3, h4⟩ := I
  have hget : (List.set μ k (l'.map wv))[k]? = some (l'.map wv) := by rw [List.getElem?_set_self hk]
  repeat walk_at "mine"
  split <;> rename_i e0
  · have hc : 2 * p + 1 < l.length := by have := of_decide_eq_true e0; lia
    obtain ⟨f', rfl⟩ : ∃ f', f = f' + 1 := ⟨f - 1, by lia⟩
    have er : ((2 * p + 1 : Nat) : Int) + 1 = ((2 * p + 1 + 1 : Nat) : Int) := by lia
    repeat walk_at "mine"
    rw [er]
    split <;> rename_i e1
    · have hr : 2 * p + 1 + 1 < l.length := by have := of_decide_eq_true e1; lia
      repeat walk_at "mine"
      refine i_wd (.inr ⟨k, rfl, hget⟩) ?_ (by lia) ?_
      · lia
      repeat walk_at "mine"
      refine i_wd (.inr ⟨k, rfl, hget⟩) ?_ (by lia) ?_
      · lia
      repeat walk_at "mine"
      refine w_lt ?_
      repeat walk_at "mine"
      cases e2 : wlt (l'.getD (2 * p + 1) w0) (l'.getD (2 * p + 1 + 1) w0) with
      | true =>
        show TS _ _ _ _ _ _ _ _ _ _
        repeat walk_at "mine"
        refine i_wd (.inr ⟨k, rfl, hget⟩) ?_ (by lia) ?_
        · lia
        repeat walk_at "mine"
        refine ⟨_, _, rfl, hget, by lia, by simp; lia, by lia, ?_⟩
        repeat walk_at "mine"
        refine o_mul (IntMulOk.of_left (by decide)) ?_
        repeat walk_at "mine"
        rw [ch2 (2 * p + 1)]
        refine ⟨l.length - (2 * p + 1), by lia, ⟨⟨l'.set p (l'.getD (2 * p + 1) w0), f', (2 * p + 1), by simp [hN], by lia, rfl, by lia, hk, ?_, ?_, ?_, ?_⟩, ?_, ?_, ?_, ?_⟩⟩
        · rw [sets, Int.toNat_natCast, setm]
        · unfold suF at hP'
          rw [if_pos hc, if_neg (fun q => by rw [e2] at q; cases q.2)] at hP'
          exact hP'
        all_goals (walk_at "look")
      | false =>
        show TS _ _ _ _ _ _ _ _ _ _
        repeat walk_at "mine"
        refine i_wd (.inr ⟨k, rfl, hget⟩) ?_ (by lia) ?_
        · lia
        repeat walk_at "mine"
        refine ⟨_, _, rfl, hget, by lia, by simp; lia, by lia, ?_⟩
        repeat walk_at "mine"
        refine o_mul (IntMulOk.of_left (by decide)) ?_
        repeat walk_at "mine"
        rw [ch2 (2 * p + 1 + 1)]
        refine ⟨l.length - (2 * p + 1 + 1), by lia, ⟨⟨l'.set p (l'.getD (2 * p + 1 + 1) w0), f', (2 * p + 1 + 1), by simp [hN], by lia, rfl, by lia, hk, ?_, ?_, ?_, ?_⟩, ?_, ?_, ?_, ?_⟩⟩
        · rw [sets, Int.toNat_natCast, setm]
        · unfold suF at hP'
          rw [if_pos hc, if_pos ⟨hr, e2⟩] at hP'
          exact hP'
        all_goals (walk_at "look")
    · have hr : ¬ 2 * p + 1 + 1 < l.length := by have := of_decide_eq_false e1; lia
      show TS _ _ _ _ _ _ _ _ _ _
      repeat walk_at "mine"
      refine i_wd (.inr ⟨k, rfl, hget⟩) ?_ (by lia) ?_
      · lia
      repeat walk_at "mine"
      refine ⟨_, _, rfl, hget, by lia, by simp; lia, by lia, ?_⟩
      repeat walk_at "mine"
      refine o_mul (IntMulOk.of_left (by decide)) ?_
      repeat walk_at "mine"
      rw [ch2 (2 * p + 1)]
      refine ⟨l.length - (2 * p + 1), by lia, ⟨⟨l'.set p (l'.getD (2 * p + 1) w0), f', (2 * p + 1), by simp [hN], by lia, rfl, by lia, hk, ?_, ?_, ?_, ?_⟩, ?_, ?_, ?_, ?_⟩⟩
      · rw [sets, Int.toNat_natCast, setm]
      · unfold suF at hP'
        rw [if_pos hc, if_neg (fun q => hr q.1)] at hP'
        exact hP'
      all_goals (walk_at "look")
  · have hc : ¬ 2 * p + 1 < l.length := by have := of_decide_eq_false e0; lia
    have es : suF l.length f l' p = (l', p) := by
      cases f with
      | zero => rfl
      | succ f => unfold suF; rw [if_neg hc]
    rw [es] at hP'
    repeat walk_at "mine"
    refine ⟨_, _, rfl, hget, by lia, by simp; lia, by lia, ?_⟩
    rw [sets, Int.toNat_natCast, setm]
    repeat walk_at "mine"
    refine TE.callG C.base gs cs rfl ?_
    repeat walk_at "mine"
    refine ks k (l'.set p (l.getD 0 w0)) p _ _ ?_ (by simp; lia) (by simp; lia) ?_
    · rw [List.getElem?_set_self hk]
    rw [sets, getD_set_self (by lia)]
    repeat walk_at "mine"
    show Post _ _
    rw [List.take_of_length_le (by simp)]
    exact hP'
end

section
variable {prog : Program} {w : World} {Z : Tb} {ht : Heap} {mg mb : Str → Option Value} {Ua Ub : TabSpec} {μ : Store} {n : Nat}
def hpush (l : List Wd) (x : Wd) : List Wd := sdF l.length (l ++ [x]) x l.length
theorem hpush_length (l : List Wd) (x : Wd) : (hpush l x).length = l.length + 1 := by unfold hpush; rw [sdF_length]; simp
theorem k_push (C : Ctx ht mg mb Ua Ub) : Says prog w Z ht mg n "heappush" fun f => ∀ (k : Nat) (l : List Wd) (x : Wd) (μ : Store) (Post : AV → Store → Prop), μ[k]? = some (l.map wv) → l.length < 1000 →
    Post (.p .none) (μ.set k ((hpush l x).map wv)) → TC prog w Z ht (n + 2) f [.m k, .p (wv x)] μ Post := by
  obtain ⟨cd, hf⟩ := C.fn 12 (by decide)
  refine hf.says fun a o pm ho hd hcd k l x μ Post hm hl hP => ?_
  obtain ⟨fs, gs, cs, ks⟩ := k_sd (prog := prog) (w := w) (Z := Z) (n := n) C
  refine TC.def C.base ho hd hcd rfl (pn := ["heap", "item"]) (bind2 fun _ _ => rfl) rfl rfl rfl (by rfl) (by rfl) rfl rfl rfl fun L => ?_
  have hk : k < μ.length := (List.getElem?_eq_some_iff.mp hm).1
  have hget : (List.set μ k ((l ++ [x]).map wv))[k]? = some ((l ++ [x]).map wv) := by rw [List.getElem?_set_self hk]
  repeat walk_at "mine"
  refine TE.meth (id := "list.append") ?_
  repeat walk_at "mine"
  refine ⟨gm_list (.inr ⟨k, rfl, hm⟩) PySem.F.slot_list_append PySem.F.type_list_append, ?_⟩
  repeat walk_at "mine"
  refine tc_append hm (by simp; omega) ?_
  rw [show l.map wv ++ [wv x] = (l ++ [x]).map wv from by simp]
  repeat walk_at "mine"
  refine TE.callG C.base gs cs rfl ?_
  repeat walk_at "mine"
  refine c_len (.inr ⟨k, rfl, hget⟩) (by simp; omega) ?_
  repeat walk_at "mine"
  rw [show (((l ++ [x]).map wv).length : Int) - 1 = (l.length : Nat) from by simp]
  refine ks k (l ++ [x]) l.length _ _ hget (by simp) (by simp; omega) ?_
  repeat walk_at "mine"
  rw [sets, show (l ++ [x]).getD l.length w0 = x from by simp]
  show Post _ _
  rw [List.take_of_length_le (by simp)]
  exact hP
/-- heappop: what comes, what stays -/
def hpop (l : List Wd) : Wd × List Wd :=
  if l.length = 1 then (l.getD 0 w0, []) else (l.getD 0 w0, supF (l.dropLast.set 0 (l.getD (l.length - 1) w0)))
theorem k_pop (C : Ctx ht mg mb Ua Ub) : Says prog w Z ht mg n "heappop" fun f => ∀ (k : Nat) (l : List Wd) (μ : Store) (Post : AV → Store → Prop), μ[k]? = some (l.map wv) → 0 < l.length → l.length < 1000 →
    Post (.p (wv (hpop l).1)) (μ.set k ((hpop l).2.map wv)) → TC prog w Z ht (n + 3) f [.m k] μ Post := by
  obtain ⟨cd, hf⟩ := C.fn 13 (by decide)
  refine hf.says fun a o pm ho hd hcd k l μ Post hm hp hl hP => ?_
  obtain ⟨fs, gs, cs, ks⟩ := k_su (prog := prog) (w := w) (Z := Z) (n := n) C
  refine TC.def C.base ho hd hcd rfl (pn := ["heap"]) (bind1 fun _ => rfl) rfl rfl rfl (by rfl) (by rfl) rfl rfl rfl fun L => ?_
  have hk : k < μ.length := (List.getElem?_eq_some_iff.mp hm).1
  obtain ⟨r, y, rfl⟩ : ∃ r y, l = r ++ [y] := ⟨l.dropLast, l.getLast (by intro q; subst q; simp at hp), (List.dropLast_concat_getLast _).symm⟩
  have hget : (List.set μ k (r.map wv))[k]? = some (r.map wv) := by rw [List.getElem?_set_self hk]
  rw [show (r ++ [y]).map wv = r.map wv ++ [wv y] from by simp] at hm
  have hlr : r.length < 1000 := by simp at hl; omega
  repeat walk_at "mine"
  refine TE.meth0 (id := "list.pop") ?_
  repeat walk_at "mine"
  refine ⟨gm_list (.inr ⟨k, rfl, hm⟩) PySem.F.slot_list_pop PySem.F.type_list_pop, ?_⟩
  refine tc_pop hm (by simp; omega) ?_
  repeat walk_at "mine"
  refine t_list (.inr ⟨k, rfl, hget⟩) (by simp; omega) ?_
  rw [List.isEmpty_map]
  cases r with
  | nil =>
    show TS _ _ _ _ _ _ _ _ _ _
    repeat walk_at "mine"
    show Post _ _
    rw [List.take_of_length_le (by simp)]
    exact hP
  | cons z r =>
    have hm2 : (List.set μ k (List.map wv ((z :: r).set 0 y)))[k]? = some (List.map wv ((z :: r).set 0 y)) := by rw [List.getElem?_set_self hk]
    show TS _ _ _ _ _ _ _ _ _ _
    repeat walk_at "mine"
    refine i_wd (i := 0) (.inr ⟨k, rfl, hget⟩) (by simp) (by simp; simp at hlr; omega) ?_
    repeat walk_at "mine"
    refine ⟨_, _, rfl, hget, by decide, by simp, by decide, ?_⟩
    rw [sets, show (List.map wv (z :: r)).set (0 : Int).toNat (wv y) = ((z :: r).set 0 y).map wv from rfl]
    repeat walk_at "mine"
    refine TE.callG C.base gs cs rfl ?_
    repeat walk_at "mine"
    refine ks k ((z :: r).set 0 y) _ _ hm2 (by simp) (by simp; simp at hlr; omega) ?_
    rw [sets]
    repeat walk_at "mine"
    show Post _ _
    rw [List.take_of_length_le (by simp)]
    have e : hpop (z :: r ++ [y]) = (z, supF ((z :: r).set 0 y)) := by
      unfold hpop
      rw [if_neg (by simp), List.dropLast_concat, show (z :: r ++ [y]).getD ((z :: r ++ [y]).length - 1) w0 = y from by simp]
      rfl
    rw [e] at hP
    exact hP
end

section
variable {prog : Program} {w : World} {Z : Tb} {ht : Heap} {mg mb : Str → Option Value} {Ua Ub : TabSpec} {μ : Store} {n : Nat}
/-- a table of yes and no -/
abbrev Mx := List (List Bool)
def mv (M : Mx) : V := .lst (M.map fun r => .lst (r.map V.bool))
def at2 (M : Mx) (i j : Nat) : Bool := (M.getD i []).getD j false
def M3 (M : Mx) : Prop := M.length = 3 ∧ ∀ r ∈ M, r.length = 3
theorem M3.row {M : Mx} (h : M3 M) {i : Nat} (hi : i < 3) : M[i]? = some (M.getD i []) ∧ (M.getD i []).length = 3 := by
  have hi' : i < M.length := by rw [h.1]; exact hi
  have e : M.getD i [] = M[i] := by simp [hi']
  rw [e]
  exact ⟨List.getElem?_eq_getElem hi', h.2 _ (List.getElem_mem hi')⟩
theorem i_row {M : Mx} {i : Nat} {Post : AV → Store → Prop} (h : M3 M) (hi : i < 3) (hP : Post (.p (.lst ((M.getD i []).map V.bool))) μ) : SubOk prog w Z ht μ (.p (mv M)) ∧ Itm prog w Z ht n (.p (mv M)) (.p (.int (i : Nat))) μ Post :=
  i_list (.inl rfl) (by omega) (by omega) (by rw [Int.toNat_natCast, List.getElem?_map, (h.row hi).1]; rfl) hP
theorem i_bit {M : Mx} {i j : Nat} {Post : AV → Store → Prop} (h : M3 M) (hi : i < 3) (hj : j < 3) (hP : Post (.p (.bool (at2 M i j))) μ) : SubOk prog w Z ht μ (.p (.lst ((M.getD i []).map V.bool))) ∧ Itm prog w Z ht n (.p (.lst ((M.getD i []).map V.bool))) (.p (.int (j : Nat))) μ Post := by
  have hl : j < (M.getD i []).length := by rw [(h.row hi).2]; exact hj
  refine i_list (.inl rfl) (by omega) (by omega) ?_ hP
  rw [Int.toNat_natCast, List.getElem?_map, List.getElem?_eq_getElem hl]
  unfold at2
  rw [show (M.getD i []).getD j false = (M.getD i [])[j] from (List.getElem_eq_getD false).symm]
  rfl
/-- a word of letters 0, 1, 2 -/
def st (u : List Nat) : Str := ⟨(u.map (· + 97)).toArray⟩
def sgn (c : Nat) : V := .str ⟨#[c + 97]⟩
theorem st_rev (u : List Nat) : strVs ⟨(st u).cps.reverse⟩ = u.reverse.map sgn := by
  unfold strVs st sgn
  simp
theorem st_ascii {u : List Nat} (h : ∀ c ∈ u, c < 3) : (⟨(st u).cps.reverse⟩ : Str).cps.all (· < 128) = true := by
  unfold st
  simp only [Array.all_eq_true_iff_forall_mem, Array.mem_reverse, List.mem_toArray, List.mem_map, decide_eq_true_eq]
  rintro x ⟨c, hc, rfl⟩
  have := h c hc
  omega
def goesR (M : Mx) (letter : Nat) : List Nat → Bool
  | [] => true
  | c :: r => if at2 M c letter = false then true else if letter < c then false else goesR M letter r
def endsR (M : Mx) (letter : Nat) : List Nat → Bool
  | [] => false
  | c :: r => if c = letter then true else if at2 M c letter = false then false else endsR M letter r
theorem ord97 (c : Nat) : ((c + 97 : Nat) : Int) - 97 = (c : Nat) := by omega

theorem k_goes (C : Ctx ht mg mb Ua Ub) : Says prog w Z ht mg n "_law_goes" fun f => ∀ (u : List Nat) (letter : Nat) (M : Mx) (μ : Store) (Post : AV → Store → Prop), (∀ c ∈ u, c < 3) → letter < 3 → M3 M → u.length ≤ 1000 →
    Post (.p (.bool (goesR M letter u.reverse))) μ → TC prog w Z ht (n + 1) f [.p (.str (st u)), .p (.int (letter : Nat)), .p (mv M)] μ Post := by
  obtain ⟨cd, hf⟩ := C.fn 20 (by decide)
  refine hf.says fun a o pm ho hd hcd u letter M μ Post hu hl hM hz hP => ?_
  refine TC.def C.base ho hd hcd rfl (pn := ["word", "letter", "loose"]) (bind3 fun _ _ _ => rfl) rfl rfl rfl (by rfl) (by rfl) rfl rfl rfl fun L => ?_
  walk_at "mine"
  refine T1.for (TI.str ?_) (.inl rfl)
  refine TE.sliceS ?_
  repeat walk_at "mine"
  refine ⟨by unfold st; simp; omega, _, rfl, st_ascii hu, ?_⟩
  rw [st_rev]
  have hu' : ∀ c ∈ u.reverse, c < 3 := fun c hc => hu c (List.mem_reverse.mp hc)
  revert hP hu'
  generalize u.reverse = r
  intro hP hu'
  have key : ∀ (r : List Nat) (ρ : Rho), (∀ c ∈ r, c < 3) → ρ "letter" = some (.p (.int (letter : Nat))) → ρ "loose" = some (.p (mv M)) → Post (.p (.bool (goesR M letter r))) μ →
      ForI prog w Z ht n (defF (fdAt 20 pm cd) L a) "sign" (match bodyAt 20 with | .For _ _ b _ _ :: _ => b | _ => []) (fun _ => True) (thenS prog w Z ht n (defF (fdAt 20 pm cd) L a) (bodyAt 20).tail fun fl ρ' μ' => RetP μ Post fl μ') (r.map sgn) ρ μ := by
    intro r
    induction r with
    | nil =>
      intro ρ _ h1 h2 hP
      show thenS _ _ _ _ _ _ (_ :: _) _ Fl.next _ _
      repeat walk_at "mine"
      show Post _ _
      rw [List.take_of_length_le (Nat.le_refl _)]
      exact hP
    | cons c r ih =>
      intro ρ hr h1 h2 hP
      have hc : c < 3 := hr c List.mem_cons_self
      show TS _ _ _ _ _ _ (_ :: _) _ _ _
      unfold sgn
      repeat walk_at "mine"
      rw [ord97]
      refine i_row hM hc ?_
      repeat walk_at "mine"
      refine i_bit hM hc hl ?_
      repeat walk_at "mine"
      cases e0 : at2 M c letter with
      | false =>
        show TS _ _ _ _ _ _ _ _ _ _
        repeat walk_at "mine"
        show Post _ _
        rw [List.take_of_length_le (Nat.le_refl _)]
        unfold goesR at hP
        rw [if_pos e0] at hP
        exact hP
      | true =>
        show TS _ _ _ _ _ _ _ _ _ _
        repeat walk_at "mine"
        rw [ord97]
        unfold goesR at hP
        rw [if_neg (by rw [e0]; simp)] at hP
        split <;> rename_i e1
        · have e1' : letter < c := by have := of_decide_eq_true e1; omega
          repeat walk_at "mine"
          show Post _ _
          rw [List.take_of_length_le (Nat.le_refl _)]
          rw [if_pos e1'] at hP
          exact hP
        · have e1' : ¬ letter < c := by have := of_decide_eq_false e1; omega
          rw [if_neg e1'] at hP
          repeat walk_at "mine"
          exact ⟨trivial, ih _ (fun x hx => hr x (List.mem_cons_of_mem _ hx)) (by walk_at "look") (by walk_at "look") hP⟩
  exact key r _ hu' rfl rfl hP
theorem k_ends (C : Ctx ht mg mb Ua Ub) : Says prog w Z ht mg n "_law_ends" fun f => ∀ (u : List Nat) (letter : Nat) (M : Mx) (μ : Store) (Post : AV → Store → Prop), (∀ c ∈ u, c < 3) → letter < 3 → M3 M → u.length ≤ 1000 →
    Post (.p (.bool (endsR M letter u.reverse))) μ → TC prog w Z ht (n + 1) f [.p (.str (st u)), .p (.int (letter : Nat)), .p (mv M)] μ Post := by
  obtain ⟨cd, hf⟩ := C.fn 21 (by decide)
  refine hf.says fun a o pm ho hd hcd u letter M μ Post hu hl hM hz hP => ?_
  refine TC.def C.base ho hd hcd rfl (pn := ["word", "letter", "loose"]) (bind3 fun _ _ _ => rfl) rfl rfl rfl (by rfl) (by rfl) rfl rfl rfl fun L => ?_
  walk_at "mine"
  refine T1.for (TI.str ?_) (.inl rfl)
  refine TE.sliceS ?_
  repeat walk_at "mine"
  refine ⟨by unfold st; simp; omega, _, rfl, st_ascii hu, ?_⟩
  rw [st_rev]
  have hu' : ∀ c ∈ u.reverse, c < 3 := fun c hc => hu c (List.mem_reverse.mp hc)
  revert hP hu'
  generalize u.reverse = r
  intro hP hu'
  have key : ∀ (r : List Nat) (ρ : Rho), (∀ c ∈ r, c < 3) → ρ "letter" = some (.p (.int (letter : Nat))) → ρ "loose" = some (.p (mv M)) → Post (.p (.bool (endsR M letter r))) μ →
      ForI prog w Z ht n (defF (fdAt 21 pm cd) L a) "sign" (match bodyAt 21 with | .For _ _ b _ _ :: _ => b | _ => []) (fun _ => True) (thenS prog w Z ht n (defF (fdAt 21 pm cd) L a) (bodyAt 21).tail fun fl ρ' μ' => RetP μ Post fl μ') (r.map sgn) ρ μ := by
    intro r
    induction r with
    | nil =>
      intro ρ _ h1 h2 hP
      show thenS _ _ _ _ _ _ (_ :: _) _ Fl.next _ _
      repeat walk_at "mine"
      show Post _ _
      rw [List.take_of_length_le (Nat.le_refl _)]
      exact hP
    | cons c r ih =>
      intro ρ hr h1 h2 hP
      have hc : c < 3 := hr c List.mem_cons_self
      show TS _ _ _ _ _ _ (_ :: _) _ _ _
      unfold sgn
      unfold endsR at hP
      repeat walk_at "mine"
      rw [ord97]
      split <;> rename_i e1
      · have e1' : c = letter := by have := eq_of_beq e1; omega
        repeat walk_at "mine"
        show Post _ _
        rw [List.take_of_length_le (Nat.le_refl _)]
        rw [if_pos e1'] at hP
        exact hP
      · have e1' : ¬ c = letter := by
          intro q; subst q; simp at e1
        rw [if_neg e1'] at hP
        repeat walk_at "mine"
        rw [ord97]
        refine i_row hM hc ?_
        repeat walk_at "mine"
        refine i_bit hM hc hl ?_
        repeat walk_at "mine"
        cases e0 : at2 M c letter with
        | false =>
          show TS _ _ _ _ _ _ _ _ _ _
          repeat walk_at "mine"
          show Post _ _
          rw [List.take_of_length_le (Nat.le_refl _)]
          rw [if_pos e0] at hP
          exact hP
        | true =>
          show TS _ _ _ _ _ _ _ _ _ _
          rw [if_neg (by rw [e0]; simp)] at hP
          repeat walk_at "mine"
          exact ⟨trivial, ih _ (fun x hx => hr x (List.mem_cons_of_mem _ hx)) (by walk_at "look") (by walk_at "look") hP⟩
  exact key r _ hu' rfl rfl hP
end

/-! the heap for any kind of thing -/
section
variable {α β : Type} (lt : α → α → Bool) (d : α)
def sdG : Nat → List α → α → Nat → List α
  | 0, l, x, p => l.set p x
  | f+1, l, x, p => if p = 0 then l.set p x else if lt x (l.getD ((p - 1) / 2) d) then sdG f (l.set p (l.getD ((p - 1) / 2) d)) x ((p - 1) / 2) else l.set p x
def suG (N : Nat) : Nat → List α → Nat → List α × Nat
  | 0, l, p => (l, p)
  | f+1, l, p => if 2 * p + 1 < N then
      (if 2 * p + 1 + 1 < N ∧ lt (l.getD (2 * p + 1) d) (l.getD (2 * p + 1 + 1) d) = false then suG N f (l.set p (l.getD (2 * p + 1 + 1) d)) (2 * p + 1 + 1)
        else suG N f (l.set p (l.getD (2 * p + 1) d)) (2 * p + 1))
    else (l, p)
def supG (l : List α) : List α :=
  let r := suG lt d l.length l.length l 0
  sdG lt d r.2 (r.1.set r.2 (l.getD 0 d)) (l.getD 0 d) r.2
def pushG (l : List α) (x : α) : List α := sdG lt d l.length (l ++ [x]) x l.length
def popG (l : List α) : α × List α := if l.length = 1 then (l.getD 0 d, []) else (l.getD 0 d, supG lt d (l.dropLast.set 0 (l.getD (l.length - 1) d)))
variable {lt d} {lt' : β → β → Bool} {g : α → β} (hg : ∀ a b, lt' (g a) (g b) = lt a b)
theorem getD_map {l : List α} {i : Nat} : (l.map g).getD i (g d) = g (l.getD i d) := by
  simp only [List.getD, List.getElem?_map]
  cases l[i]? <;> rfl
include hg
theorem sdG_map : ∀ (f : Nat) (l : List α) (x : α) (p : Nat), sdG lt' (g d) f (l.map g) (g x) p = (sdG lt d f l x p).map g
  | 0, l, x, p => by unfold sdG; rw [List.map_set]
  | f+1, l, x, p => by
    unfold sdG
    rw [getD_map, hg, ← List.map_set, ← List.map_set, sdG_map f]
    split
    · rfl
    · split <;> rfl
theorem suG_map (N : Nat) : ∀ (f : Nat) (l : List α) (p : Nat), suG lt' (g d) N f (l.map g) p = ((suG lt d N f l p).1.map g, (suG lt d N f l p).2)
  | 0, l, p => rfl
  | f+1, l, p => by
    unfold suG
    rw [getD_map, getD_map, hg, ← List.map_set, ← List.map_set, suG_map N f, suG_map N f]
    split
    · split <;> rfl
    · rfl
theorem supG_map (l : List α) : supG lt' (g d) (l.map g) = (supG lt d l).map g := by
  unfold supG
  rw [List.length_map, suG_map hg, getD_map]
  dsimp only
  rw [← List.map_set, sdG_map hg]
theorem pushG_map (l : List α) (x : α) : pushG lt' (g d) (l.map g) (g x) = (pushG lt d l x).map g := by
  unfold pushG
  rw [List.length_map, show l.map g ++ [g x] = (l ++ [x]).map g from by simp, sdG_map hg]
theorem popG_map (l : List α) : popG lt' (g d) (l.map g) = (g (popG lt d l).1, (popG lt d l).2.map g) := by
  unfold popG
  rw [List.length_map, getD_map, getD_map, ← List.map_dropLast, ← List.map_set, supG_map hg]
  split <;> rfl
end
theorem sdF_G : ∀ (f : Nat) (l : List Wd) (x : Wd) (p : Nat), sdF f l x p = sdG wlt w0 f l x p
  | 0, l, x, p => rfl
  | f+1, l, x, p => by unfold sdF sdG; rw [sdF_G f]
theorem suF_G (N : Nat) : ∀ (f : Nat) (l : List Wd) (p : Nat), suF N f l p = suG wlt w0 N f l p
  | 0, l, p => rfl
  | f+1, l, p => by unfold suF suG; rw [suF_G N f, suF_G N f]
theorem hpush_G (l : List Wd) (x : Wd) : hpush l x = pushG wlt w0 l x := by unfold hpush pushG; rw [sdF_G]
theorem hpop_G (l : List Wd) : hpop l = popG wlt w0 l := by
  unfold hpop popG
  have e : ∀ l, supF l = supG wlt w0 l := fun l => by unfold supF supG; rw [suF_G]; dsimp only; rw [sdF_G]
  rw [e]

/-! words as a number and letters -/
abbrev P2 := Nat × List Nat
def cv (p : P2) : Wd := ((p.1 : Int), st p.2)
def plt (a b : P2) : Bool := if a.1 = b.1 then decide (a.2 < b.2) else decide (a.1 < b.1)
theorem lex97 : ∀ u v : List Nat, (u.map (· + 97) < v.map (· + 97)) ↔ (u < v)
  | [], [] => by simp
  | [], _ :: _ => by simp
  | _ :: _, [] => by simp
  | a :: u, b :: v => by
    rw [List.map_cons, List.map_cons, List.cons_lt_cons_iff, List.cons_lt_cons_iff, lex97 u v]
    have h1 : a + 97 < b + 97 ↔ a < b := by omega
    have h2 : a + 97 = b + 97 ↔ a = b := by omega
    rw [h1, h2]
theorem wlt_cv (a b : P2) : wlt (cv a) (cv b) = plt a b := by
  unfold wlt plt cv
  have e : (st a.2).cps.toList < (st b.2).cps.toList ↔ a.2 < b.2 := by
    show a.2.map (· + 97) < b.2.map (· + 97) ↔ _
    exact lex97 _ _
  by_cases h : a.1 = b.1
  · rw [if_pos h, if_pos (by show (a.1 : Int) = b.1; omega)]
    exact decide_eq_decide.mpr e
  · rw [if_neg h, if_neg (by show ¬ (a.1 : Int) = b.1; omega)]
    refine decide_eq_decide.mpr ?_
    show (a.1 : Int) < b.1 ↔ _
    omega
def p0 : P2 := (0, [])
theorem cv_p0 : cv p0 = w0 := rfl
theorem hpush_cv (l : List P2) (x : P2) : hpush (l.map cv) (cv x) = (pushG plt p0 l x).map cv := by rw [hpush_G, ← cv_p0, pushG_map wlt_cv]
theorem hpop_cv (l : List P2) : hpop (l.map cv) = (cv (popG plt p0 l).1, (popG plt p0 l).2.map cv) := by rw [hpop_G, ← cv_p0, popG_map wlt_cv]

/-- the run of _law_words -/
def stepW (M : Mx) (sz : List Nat) (longest : Int) (p : P2) (letter : Nat) (hs : List P2) : List P2 :=
  if (p.1 : Int) + (sz.getD letter 0 : Nat) ≤ longest ∧ goesR M letter p.2.reverse = true then pushG plt p0 hs (p.1 + sz.getD letter 0, p.2 ++ [letter]) else hs
def wRun (M : Mx) (sz : List Nat) (longest : Int) : Nat → List P2 → Option (List P2)
  | 0, hs => if hs.isEmpty then some [] else none
  | f+1, hs => if hs.isEmpty then some [] else
    let r := popG plt p0 hs
    if r.1.2.length ≤ 100 ∧ r.2.length ≤ 100 then (wRun M sz longest f (stepW M sz longest r.1 2 (stepW M sz longest r.1 1 (stepW M sz longest r.1 0 r.2)))).map (r.1 :: ·) else none

section
variable {prog : Program} {w : World} {Z : Tb} {ht : Heap} {mg mb : Str → Option Value} {Ua Ub : TabSpec} {μ : Store} {n : Nat}
def Lets (p : P2) : Prop := ∀ c ∈ p.2, c < 3
theorem sdG_mem {α : Type} {lt : α → α → Bool} {d : α} {Q : α → Prop} (hd : Q d) : ∀ (f : Nat) (l : List α) (x : α) (p : Nat), (∀ a ∈ l, Q a) → Q x → ∀ a ∈ sdG lt d f l x p, Q a
  | 0, l, x, p, hl, hx, a, h => by
    unfold sdG at h
    rcases List.mem_or_eq_of_mem_set h with h | h
    · exact hl a h
    · rw [h]; exact hx
  | f+1, l, x, p, hl, hx, a, h => by
    have hq : ∀ i, Q (l.getD i d) := fun i => by
      simp only [List.getD]
      cases e : l[i]? with
      | none => exact hd
      | some y => exact hl y (List.mem_of_getElem? e)
    have hs : ∀ (y : α) (i : Nat), Q y → ∀ b ∈ l.set i y, Q b := fun y i hy b hb => by
      rcases List.mem_or_eq_of_mem_set hb with h | h
      · exact hl b h
      · rw [h]; exact hy
    unfold sdG at h
    split at h
    · exact hs x p hx a h
    · split at h
      · exact sdG_mem hd f _ x _ (hs _ _ (hq _)) hx a h
      · exact hs x p hx a h
theorem suG_mem {α : Type} {lt : α → α → Bool} {d : α} {Q : α → Prop} (hd : Q d) (N : Nat) : ∀ (f : Nat) (l : List α) (p : Nat), (∀ a ∈ l, Q a) → ∀ a ∈ (suG lt d N f l p).1, Q a
  | 0, l, p, hl, a, h => hl a h
  | f+1, l, p, hl, a, h => by
    have hq : ∀ i, Q (l.getD i d) := fun i => by
      simp only [List.getD]
      cases e : l[i]? with
      | none => exact hd
      | some y => exact hl y (List.mem_of_getElem? e)
    have hs : ∀ (y : α) (i : Nat), Q y → ∀ b ∈ l.set i y, Q b := fun y i hy b hb => by
      rcases List.mem_or_eq_of_mem_set hb with h | h
      · exact hl b h
      · rw [h]; exact hy
    unfold suG at h
    split at h
    · split at h
      · exact suG_mem hd N f _ _ (hs _ _ (hq _)) a h
      · exact suG_mem hd N f _ _ (hs _ _ (hq _)) a h
    · exact hl a h
theorem getD_mem {α : Type} {d : α} {Q : α → Prop} (hd : Q d) {l : List α} (hl : ∀ a ∈ l, Q a) (i : Nat) : Q (l.getD i d) := by
  simp only [List.getD]
  cases e : l[i]? with
  | none => exact hd
  | some y => exact hl y (List.mem_of_getElem? e)
theorem popG_mem {α : Type} {lt : α → α → Bool} {d : α} {Q : α → Prop} (hd : Q d) {l : List α} (hl : ∀ a ∈ l, Q a) : Q (popG lt d l).1 ∧ ∀ a ∈ (popG lt d l).2, Q a := by
  unfold popG
  split
  · exact ⟨getD_mem hd hl 0, fun a h => nomatch h⟩
  · refine ⟨getD_mem hd hl 0, fun a h => ?_⟩
    have h1 : ∀ a ∈ l.dropLast.set 0 (l.getD (l.length - 1) d), Q a := fun a h => by
      rcases List.mem_or_eq_of_mem_set h with h | h
      · exact hl a (List.dropLast_subset _ h)
      · rw [h]; exact getD_mem hd hl _
    unfold supG at h
    refine sdG_mem hd _ _ _ _ (fun b hb => ?_) (getD_mem hd h1 0) a h
    rcases List.mem_or_eq_of_mem_set hb with hb | hb
    · exact suG_mem hd _ _ _ _ h1 b hb
    · rw [hb]; exact getD_mem hd h1 0
theorem pushG_mem {α : Type} {lt : α → α → Bool} {d : α} {Q : α → Prop} (hd : Q d) {l : List α} {x : α} (hl : ∀ a ∈ l, Q a) (hx : Q x) : ∀ a ∈ pushG lt d l x, Q a := by
  unfold pushG
  refine sdG_mem hd _ _ _ _ (fun b hb => ?_) hx
  rcases List.mem_append.mp hb with hb | hb
  · exact hl b hb
  · rw [List.mem_singleton.mp hb]; exact hx
theorem pushG_length (l : List P2) (x : P2) : (pushG plt p0 l x).length = l.length + 1 := by
  have h := congrArg List.length (hpush_cv l x)
  rw [hpush_length] at h
  simp at h
  omega
theorem stepW_ok {M : Mx} {sz : List Nat} {longest : Int} {p : P2} {letter : Nat} {hs : List P2} (hl : letter < 3) (hp : Lets p) (h : ∀ a ∈ hs, Lets a) : (∀ a ∈ stepW M sz longest p letter hs, Lets a) ∧ (stepW M sz longest p letter hs).length ≤ hs.length + 1 := by
  unfold stepW
  split
  · refine ⟨pushG_mem (fun c h => nomatch h) h fun c hc => ?_, by rw [pushG_length]; omega⟩
    rcases List.mem_append.mp hc with hc | hc
    · exact hp c hc
    · rw [List.mem_singleton.mp hc]; exact hl
  · exact ⟨h, by omega⟩
theorem st_snoc (u : List Nat) (c : Nat) : st u ++ (⟨#[c + 97]⟩ : Str) = st (u ++ [c]) := by
  unfold st
  show (⟨_ ++ _⟩ : Str) = _
  simp
theorem abc {i : Nat} (h : i < 3) : ("abc" : Str).cps[((i : Nat) : Int).toNat]? = some (i + 97) := by
  rw [Int.toNat_natCast]
  match i, h with
  | 0, _ => rfl
  | 1, _ => rfl
  | 2, _ => rfl

structure WI (PostW : List P2 → Prop) (M : Mx) (sz : List Nat) (longest : Int) (μ₀ : Store) (m : Nat) (ρ : Rho) (μ : Store) : Prop where
  ex : ∃ (hs out r : List P2), wRun M sz longest m hs = some r ∧ (∀ a ∈ hs, Lets a) ∧ hs.length ≤ 103 ∧ out.length + m ≤ 1000 ∧ μ = μ₀ ++ [(hs.map cv).map wv, (out.map cv).map wv] ∧ PostW (out ++ r)
  h1 : ρ "heap" = some (.m μ₀.length)
  h2 : ρ "words" = some (.m (μ₀.length + 1))
  h3 : ρ "loose" = some (.p (mv M))
  h4 : ρ "sizes" = some (.p (.lst (sz.map fun i => .int (i : Nat))))
  h5 : ρ "longest" = some (.p (.int longest))
theorem get_fst {μ₀ : Store} {a b : List V} : (μ₀ ++ [a, b])[μ₀.length]? = some a := by simp
theorem get_snd {μ₀ : Store} {a b : List V} : (μ₀ ++ [a, b])[μ₀.length + 1]? = some b := by simp
theorem set_fst {μ₀ : Store} {a b c : List V} : List.set (μ₀ ++ [a, b]) μ₀.length c = μ₀ ++ [c, b] := by simp
theorem set_snd {μ₀ : Store} {a b c : List V} : List.set (μ₀ ++ [a, b]) (μ₀.length + 1) c = μ₀ ++ [a, c] := by simp
theorem k_words (C : Ctx ht mg mb Ua Ub) : Says prog w Z ht mg n "_law_words" fun f => ∀ (M : Mx) (sz : List Nat) (longest : Int) (F : Nat) (r : List P2) (μ : Store) (Post : AV → Store → Prop), M3 M → sz.length = 3 → F ≤ 900 → wRun M sz longest F [p0] = some r →
    Post (.p (.lst ((r.map cv).map wv))) μ → TC prog w Z ht (n + 4) f [.p (mv M), .p (.lst (sz.map fun i => .int (i : Nat))), .p (.int longest)] μ Post := by
  obtain ⟨cd, hf⟩ := C.fn 22 (by decide)
  refine hf.says fun a o pm ho hd hcd M sz longest Fu r μ Post hM hsz hFu hr hP => ?_
  obtain ⟨fpop, gpop, cpop, kpop⟩ := k_pop (prog := prog) (w := w) (Z := Z) (n := n) C
  obtain ⟨fpush, gpush, cpush, kpush⟩ := k_push (prog := prog) (w := w) (Z := Z) (n := n + 1) C
  obtain ⟨fg, gg, cg, kg⟩ := k_goes (prog := prog) (w := w) (Z := Z) (n := n + 2) C
  refine TC.def C.base ho hd hcd rfl (pn := ["loose", "sizes", "longest"]) (bind3 fun _ _ _ => rfl) rfl rfl rfl (by rfl) (by rfl) rfl rfl rfl fun L => ?_
  have one : ∀ (i : Nat) (ρ : Rho) (hs : List P2) (out : List V) (p : P2) (Q : Fl → Rho → Store → Prop), i < 3 → ρ "heap" = some (.m μ.length) → ρ "loose" = some (.p (mv M)) → ρ "sizes" = some (.p (.lst (sz.map fun i => .int (i : Nat)))) → ρ "longest" = some (.p (.int longest)) →
      ρ "size" = some (.p (.int (p.1 : Nat))) → ρ "word" = some (.p (.str (st p.2))) → Lets p → p.2.length ≤ 100 → hs.length ≤ 200 → Q .next (upd ρ "letter" (.p (.int (i : Nat)))) (μ ++ [((stepW M sz longest p i hs).map cv).map wv, out]) →
      TS prog w Z ht (n + 3) (defF (fdAt 22 pm cd) L a) (match bodyAt 22 with | _ :: _ :: .While _ (_ :: _ :: .For _ _ b _ _ :: _) _ _ :: _ => b | _ => []) (upd ρ "letter" (.p (.int (i : Nat)))) (μ ++ [(hs.map cv).map wv, out]) Q := by
    intro i ρ hs out p Q hi h1 h3 h4 h5 h6 h7 hp hpl hhs hQ
    have hsi : (sz.map fun i => V.int (i : Nat))[((i : Nat) : Int).toNat]? = some (.int (sz.getD i 0 : Nat)) := by
      have : i < sz.length := by omega
      rw [Int.toNat_natCast, List.getElem?_map, List.getElem?_eq_getElem this]
      simp [this]
    show TS _ _ _ _ _ _ (_ :: _) _ _ _
    repeat walk_at "mine"
    refine i_list (.inl rfl) (by omega) (by omega) hsi ?_
    repeat walk_at "mine"
    split <;> rename_i e0
    · have e0' := of_decide_eq_true e0
      repeat walk_at "mine"
      refine TE.callG C.base gg cg rfl ?_
      repeat walk_at "mine"
      refine kg p.2 i M _ _ hp hi hM (by omega) ?_
      repeat walk_at "mine"
      split <;> rename_i e1
      · repeat walk_at "mine"
        refine TE.callG C.base gpush cpush rfl ?_
        repeat walk_at "mine"
        refine i_list (.inl rfl) (by omega) (by omega) hsi ?_
        repeat walk_at "mine"
        refine i_str (by omega) (by omega) (abc hi) ?_
        refine s_add ?_ ?_
        · show (st p.2).cps.size + 1 ≤ 1000000
          unfold st; simp; omega
        rw [st_snoc]
        repeat walk_at "mine"
        refine ⟨[.int ((p.1 : Int) + (sz.getD i 0 : Nat)), .str (st (p.2 ++ [i]))], rfl, Nat.le_of_ble_eq_true rfl, ?_⟩
        repeat walk_at "mine"
        have ex : V.tup [.int ((p.1 : Int) + (sz.getD i 0 : Nat)), .str (st (p.2 ++ [i]))] = wv (cv (p.1 + sz.getD i 0, p.2 ++ [i])) := by
          unfold wv cv
          simp
        rw [ex]
        refine kpush _ _ _ _ _ get_fst (by simp; omega) ?_
        rw [set_fst, hpush_cv]
        unfold stepW at hQ
        rw [if_pos ⟨e0', e1⟩] at hQ
        repeat walk_at "mine"
        exact hQ
      · unfold stepW at hQ
        rw [if_neg (fun q => by rw [e1] at q; cases q.2)] at hQ
        repeat walk_at "mine"
        exact hQ
    · have e0' := of_decide_eq_false e0
      unfold stepW at hQ
      rw [if_neg (fun q => e0' q.1)] at hQ
      show TS _ _ _ _ _ _ _ _ _ _
      repeat walk_at "mine"
      exact hQ
  repeat walk_at "mine"
  refine TE.lstM ?_
  repeat walk_at "mine"
  refine ⟨[.int 0, .str ""], rfl, Nat.le_of_ble_eq_true rfl, ?_⟩
  repeat walk_at "mine"
  refine ⟨[.tup [.int 0, .str ""]], rfl, Nat.le_of_ble_eq_true rfl, ?_⟩
  repeat walk_at "mine"
  refine TE.lstM ?_
  repeat walk_at "mine"
  refine ⟨[], rfl, Nat.le_of_ble_eq_true rfl, ?_⟩
  repeat walk_at "mine"
  refine T1.while (WI (fun r => Post (.p (.lst ((r.map cv).map wv))) μ) M sz longest μ) (fun m ρ μ₁ I => ?_) Fu ⟨⟨[p0], [], r, hr, ?_, by decide, by simp; omega, ?_, hP⟩, rfl, ?_, rfl, rfl, rfl⟩
  · obtain ⟨⟨hs, out, r', hr', hle, hhl, hol, rfl, hP'⟩, h1, h2, h3, h4, h5⟩ := I
    repeat walk_at "mine"
    refine t_list (.inr ⟨_, rfl, get_fst⟩) (by simp; omega) ?_
    rw [List.isEmpty_map, List.isEmpty_map]
    cases hs with
    | nil =>
      have er : r' = [] := by
        cases m with
        | zero => exact (Option.some.inj (show some [] = some r' from hr')).symm
        | succ m => exact (Option.some.inj (show some [] = some r' from hr')).symm
      rw [er, List.append_nil] at hP'
      show thenS _ _ _ _ _ _ _ _ Fl.next _ _
      repeat walk_at "mine"
      refine .inr ⟨by omega, _, get_snd, ?_⟩
      rw [List.take_left]
      exact hP'
    | cons h0 hs =>
      obtain ⟨m, rfl⟩ : ∃ m', m = m' + 1 := by
        cases m with
        | zero => unfold wRun at hr'; rw [if_neg (by simp)] at hr'; cases hr'
        | succ m => exact ⟨m, rfl⟩
      unfold wRun at hr'
      rw [if_neg (by simp)] at hr'
      dsimp only at hr'
      have hq := popG_mem (lt := plt) (d := p0) (Q := Lets) (fun c h => nomatch h) hle
      generalize hpp : popG plt p0 (h0 :: hs) = pp at hr' hq
      obtain ⟨p, hs'⟩ := pp
      dsimp only at hr' hq
      split at hr'
      · rename_i hb
        obtain ⟨r2, hr2, rfl⟩ := Option.map_eq_some_iff.mp hr'
        show TS _ _ _ _ _ _ _ _ _ _
        walk_at "mine"
        refine T1.assignTup (l := [("size", _), ("word", _)]) ?_ (fun q hq => ?_)
        · refine TE.callG C.base gpop cpop rfl ?_
          repeat walk_at "mine"
          refine kpop _ _ _ _ get_fst (by simp) (by simp at hhl ⊢; omega) ?_
          rw [set_fst, hpop_cv, hpp]
          refine ⟨[.int (p.1 : Nat), .str (st p.2)], rfl, rfl, ?_⟩
          show thenS _ _ _ _ _ _ _ _ Fl.next (upd (upd ρ "size" (.p (.int (p.1 : Nat)))) "word" (.p (.str (st p.2)))) _
          walk_at "mine"
          walk_at "mine"
          walk_at "mine"
          refine TE.meth (id := "list.append") ?_
          repeat walk_at "mine"
          refine ⟨gm_list (.inr ⟨_, rfl, get_snd⟩) PySem.F.slot_list_append PySem.F.type_list_append, ?_⟩
          repeat walk_at "mine"
          refine ⟨[.int (p.1 : Nat), .str (st p.2)], rfl, Nat.le_of_ble_eq_true rfl, ?_⟩
          repeat walk_at "mine"
          refine tc_append get_snd (by simp; omega) ?_
          rw [set_snd]
          repeat walk_at "mine"
          refine T1.for (TI.rng ?_) (.inl rfl)
          repeat walk_at "mine"
          refine ⟨by decide, by decide, ?_⟩
          have k0 := stepW_ok (M := M) (sz := sz) (longest := longest) (p := p) (letter := 0) (hs := hs') (by decide) hq.1 hq.2
          have k1 := stepW_ok (M := M) (sz := sz) (longest := longest) (p := p) (letter := 1) (by decide) hq.1 k0.1
          have k2 := stepW_ok (M := M) (sz := sz) (longest := longest) (p := p) (letter := 2) (by decide) hq.1 k1.1
          show TS _ _ _ _ _ _ _ _ _ _
          refine one 0 _ hs' _ p _ (by decide) (by walk_at "look") (by walk_at "look") (by walk_at "look") (by walk_at "look") (by walk_at "look") (by walk_at "look") hq.1 hb.1 (by omega) ?_
          refine ⟨trivial, ?_⟩
          show TS _ _ _ _ _ _ _ _ _ _
          refine one 1 _ (stepW M sz longest p 0 hs') _ p _ (by decide) (by walk_at "look") (by walk_at "look") (by walk_at "look") (by walk_at "look") (by walk_at "look") (by walk_at "look") hq.1 hb.1 (by omega) ?_
          refine ⟨trivial, ?_⟩
          show TS _ _ _ _ _ _ _ _ _ _
          refine one 2 _ (stepW M sz longest p 1 (stepW M sz longest p 0 hs')) _ p _ (by decide) (by walk_at "look") (by walk_at "look") (by walk_at "look") (by walk_at "look") (by walk_at "look") (by walk_at "look") hq.1 hb.1 (by omega) ?_
          refine ⟨trivial, ?_⟩
          show thenS _ _ _ _ _ _ _ _ Fl.next _ _
          repeat walk_at "mine"
          refine ⟨m, by omega, ⟨⟨_, out ++ [p], r2, hr2, k2.1, by omega, by simp; omega, ?_, ?_⟩, ?_, ?_, ?_, ?_, ?_⟩⟩
          · rw [List.map_append, List.map_append]; rfl
          · rw [List.append_assoc]; exact hP'
          all_goals (walk_at "look")
        · rcases List.mem_cons.mp hq with rfl | hq
          · exact .inl rfl
          · rcases List.mem_cons.mp hq with rfl | hq
            · exact .inl rfl
            · cases hq
      · cases hr'
  · intro a ha
    rw [List.mem_singleton.mp ha]
    exact fun c h => nomatch h
  · rw [List.append_assoc]; rfl
  · show some (AV.m (μ ++ [_]).length) = _
    rw [List.length_append]; rfl
end

section
variable {prog : Program} {w : World} {Z : Tb} {ht : Heap} {n : Nat} {F : Fm} {ρ : Rho} {μ : Store}
theorem TE.compN {x : Str} {p : Pos} {iter elt : Expr} {ifs : List Expr} {scope : Scope} {pos : Pos} {Post : AV → Store → Prop} (S : ScopeOk scope F) (hw : ∀ C, (Tgt.name x p).w (compF scope F C))
    (h : TI prog w Z ht n F iter ρ μ fun vs G μ₁ => μ₁ = μ ∧ vs.length ≤ 1000000 ∧ ∃ g : V → Option V, (∀ C, ∀ v ∈ vs, StepOk prog w Z ht n (compF scope F C) ifs elt (upd (mask scope ρ) x (.p v)) μ (g v)) ∧ Post (.p (.lst (vs.filterMap g))) μ)
    (hs : ∀ x, foldedSetIterable iter F.env x = pure x := by intro _; rfl) : TE prog w Z ht n F (.ListComp elt [⟨.Name x p, iter, ifs, 0⟩] scope pos) ρ μ Post := by
  exact TE.comp (h.imp fun vs G μ₁ ⟨hμ, hz, g, hst, hP⟩ => ⟨hμ, _, LoopC.one (t := .name x p) (g := g) ⟨hz, fun _ _ => trivial, hw, hst⟩, hP⟩) S hs
theorem TE.compT {l : List (Str × Pos)} {k : Nat} {p : Pos} {iter elt : Expr} {ifs : List Expr} {scope : Scope} {pos : Pos} {Post : AV → Store → Prop} (S : ScopeOk scope F) (hw : ∀ C, Writable (compF scope F C) l)
    (h : TI prog w Z ht n F iter ρ μ fun vs G μ₁ => μ₁ = μ ∧ vs.length ≤ 1000000 ∧ (∀ v ∈ vs, (Tgt.tup l k p).ok v) ∧ ∃ g : V → Option V, (∀ C, ∀ v ∈ vs, StepOk prog w Z ht n (compF scope F C) ifs elt ((Tgt.tup l k p).ρ (mask scope ρ) v) μ (g v)) ∧ Post (.p (.lst (vs.filterMap g))) μ)
    (hs : ∀ x, foldedSetIterable iter F.env x = pure x := by intro _; rfl) : TE prog w Z ht n F (.ListComp elt [⟨.Tuple (nameElts l) k p, iter, ifs, 0⟩] scope pos) ρ μ Post := by
  exact TE.comp (h.imp fun vs G μ₁ ⟨hμ, hz, hok, g, hst, hP⟩ => ⟨hμ, _, LoopC.one (t := .tup l k p) (g := g) ⟨hz, hok, hw, hst⟩, hP⟩) S hs
theorem T1.assignCompN {y : Str} {py : Pos} {x : Str} {p : Pos} {iter elt : Expr} {ifs : List Expr} {scope : Scope} {pos spos : Pos} {Post : Fl → Rho → Store → Prop} (S : ScopeOk scope F) (hk : F.env.kindOf y = some .local ∨ y ∈ F.wc) (hw : ∀ C, (Tgt.name x p).w (compF scope F C))
    (h : TI prog w Z ht n F iter ρ μ fun vs G μ₁ => μ₁ = μ ∧ vs.length ≤ 1000000 ∧ ∃ g : V → Option V, (∀ C, ∀ v ∈ vs, StepOk prog w Z ht n (compF scope F C) ifs elt (upd (mask scope ρ) x (.p v)) μ (g v)) ∧ Post .next (upd ρ y (.p (.lst (vs.filterMap g)))) μ)
    (hs : ∀ x, foldedSetIterable iter F.env x = pure x := by intro _; rfl)
    (hsw : swapsWithSole [.Name y py] (.ListComp elt [⟨.Name x p, iter, ifs, 0⟩] scope pos) spos.line F.env = pure true := by rfl) : T1 prog w Z ht n F (.Assign [.Name y py] (.ListComp elt [⟨.Name x p, iter, ifs, 0⟩] scope pos) spos) ρ μ Post := by
  exact T1.assignComp (h.imp fun vs G μ₁ ⟨hμ, hz, g, hst, hP⟩ => ⟨hμ, _, LoopC.one (t := .name x p) (g := g) ⟨hz, fun _ _ => trivial, hw, hst⟩, hP⟩) S hk hs hsw
end
section
variable {prog : Program} {w : World} {Z : Tb} {ht : Heap} {mg mb : Str → Option Value} {Ua Ub : TabSpec} {μ : Store} {n : Nat}
def near (a b : Int) : Int := min ((a - b).fmod 16) ((b - a).fmod 16)
def looseM (steps : List Int) (reach : Int) : Mx := steps.map fun a => steps.map fun b => decide (reach < near a b)
theorem fm_ints {ns : List Int} {g : V → Option V} {h : Int → V} (e : ∀ i ∈ ns, g (.int i) = some (h i)) : (ns.map V.int).filterMap g = ns.map h := by
  induction ns with
  | nil => rfl
  | cons i ns ih =>
    rw [List.map_cons, List.filterMap_cons, e i List.mem_cons_self, List.map_cons, ih fun j hj => e j (List.mem_cons_of_mem _ hj)]
theorem k_loose (C : Ctx ht mg mb Ua Ub) : Says prog w Z ht mg n "_law_loose" fun f => ∀ (steps : List Int) (reach : Int) (μ : Store) (Post : AV → Store → Prop), steps.length ≤ 1000 →
    Post (.p (mv (looseM steps reach))) μ → TC prog w Z ht (n + 1) f [.p (.lst (steps.map V.int)), .p (.int reach)] μ Post := by
  obtain ⟨cd, hf⟩ := C.fn 17 (by decide)
  refine hf.says fun a o pm ho hd hcd steps reach μ Post hz hP => ?_
  refine TC.def C.base ho hd hcd rfl (pn := ["steps", "reach"]) (bind2 fun _ _ => rfl) rfl rfl rfl (by rfl) (by rfl) rfl rfl rfl fun L => ?_
  repeat walk_at "mine"
  refine TE.compN (.of rfl (by rfl) (by rfl) (by rfl)) (fun C => .inr (List.mem_singleton.mpr rfl)) ?_
  refine TI.list ?_
  repeat walk_at "mine"
  refine ⟨_, .inl rfl, rfl, by simp; omega, fun v => match v with | .int i => some (.lst (steps.map fun j => .bool (decide (reach < near i j)))) | _ => none, fun D v hv => ?_, ?_⟩
  · obtain ⟨i, hi, rfl⟩ := List.mem_map.mp hv
    show TE _ _ _ _ _ _ _ _ _ _
    refine TE.compN (.of rfl (by rfl) (by rfl) (by rfl)) (fun C => .inl rfl) ?_
    refine TI.list ?_
    repeat walk_at "mine"
    refine ⟨_, .inl rfl, rfl, by simp; omega, fun v => match v with | .int j => some (.bool (decide (reach < near i j))) | _ => none, fun D' v hv => ?_, rfl, _, rfl, ?_⟩
    · obtain ⟨j, hj, rfl⟩ := List.mem_map.mp hv
      show TE _ _ _ _ _ _ _ _ _ _
      repeat walk_at "mine"
      refine o_mod (by decide) ?_
      repeat walk_at "mine"
      refine o_mod (by decide) ?_
      repeat walk_at "mine"
      rfl
    · rw [fm_ints (h := fun j => .bool (decide (reach < near i j))) (fun i _ => rfl)]
  · show Post _ _
    rw [List.take_of_length_le (Nat.le_refl _)]
    have e : (steps.map V.int).filterMap (fun v => match v with | .int i => some (.lst (steps.map fun j => .bool (decide (reach < near i j)))) | _ => none) = (looseM steps reach).map fun r => V.lst (r.map V.bool) := by
      rw [fm_ints (h := fun i => .lst (steps.map fun j => .bool (decide (reach < near i j)))) (fun i _ => rfl)]
      unfold looseM
      simp [Function.comp_def]
    rw [e]
    exact hP
end

section
variable {prog : Program} {w : World} {Z : Tb} {ht : Heap} {mg mb : Str → Option Value} {Ua Ub : TabSpec} {μ : Store} {n : Nat}
abbrev iv (i : Nat) : V := .int (i : Nat)
def someC (c : Nat) : List Nat := (List.range 3).filter fun k => c / 2 ^ k % 2 == 1
def wrongC (letters : List Nat) (c : Nat) : List Nat := (someC c).filter fun k => !letters.contains k
def boundC (M : Mx) (c : Nat) : List Nat := (someC c).flatMap fun k => (someC c).filterMap fun i => if i < k ∧ at2 M i k = false then some k else none
def sumC (sz : List Nat) (ks : List Nat) : Nat := (ks.map fun k => sz.getD k 0).sum
def termC (letters : List Nat) (M : Mx) (sz : List Nat) (base : Int) (c : Nat) : Int :=
  if wrongC letters c = [] ∧ boundC M c = [] then (-1) ^ (someC c).length * base ^ (sz.sum - sumC sz (someC c)) else 0
def setsC (letters : List Nat) (M : Mx) (sz : List Nat) (base : Int) : Int := ((List.range 8).map (termC letters M sz base)).sum
theorem bitC (c k : Nat) : ((c : Int).fdiv (2 ^ ((k : Nat) : Int).toNat)).fmod 2 = ((c / 2 ^ k % 2 : Nat) : Int) := by
  rw [Int.toNat_natCast, Int.fdiv_eq_ediv_of_nonneg _ (Int.le_of_lt (Int.pow_pos (by decide))), Int.fmod_eq_emod_of_nonneg _ (by decide)]
  rw [Int.natCast_emod, Int.natCast_ediv, Int.natCast_pow]
  rfl
theorem pow2_ok {k : Nat} (h : k < 3) : ((2 : Int) ^ ((k : Nat) : Int).toNat) ≠ 0 ∧ ((2 : Int) ^ ((k : Nat) : Int).toNat).natAbs.log2 < 9000 := by
  match k, h with
  | 0, _ => decide
  | 1, _ => decide
  | 2, _ => decide
def zs (l : List Nat) : List Int := l.map fun (i : Nat) => (i : Int)
theorem ivs (l : List Nat) : l.map iv = (zs l).map V.int := by unfold zs; rw [List.map_map]; rfl
theorem fm_nats {p : Nat → Bool} {g : V → Option V} : ∀ {l : List Nat}, (∀ k ∈ l, g (iv k) = if p k then some (iv k) else none) → (l.map iv).filterMap g = (l.filter p).map iv
  | [], _ => rfl
  | k :: l, h => by
    rw [List.map_cons, List.filterMap_cons, h k List.mem_cons_self, List.filter_cons]
    cases p k with
    | true => show _ :: _ = _; rw [fm_nats fun j hj => h j (List.mem_cons_of_mem _ hj)]; rfl
    | false => show _ = _; rw [if_neg (by simp)]; exact fm_nats fun j hj => h j (List.mem_cons_of_mem _ hj)
theorem any_nat (letters : List Nat) (k : Nat) : ((zs letters).any (· == (k : Int))) = letters.contains k := by
  unfold zs
  induction letters with
  | nil => rfl
  | cons a l ih =>
    rw [List.map_cons, List.any_cons, ih, List.contains_cons]
    congr 1
    by_cases q : a = k
    · subst q; simp
    · rw [show ((a : Int) == (k : Int)) = false from beq_eq_false_iff_ne.mpr (by lia), show (k == a) = false from beq_eq_false_iff_ne.mpr (fun e => q e.symm)]
theorem T1.assignComp2 {F : Fm} {ρ : Rho} {y : Str} {py : Pos} {x0 x1 : Str} {p0 p1 : Pos} {iter0 iter1 elt : Expr} {ifs : List Expr} {scope : Scope} {pos spos : Pos} {Post : Fl → Rho → Store → Prop} (S : ScopeOk scope F) (hk : F.env.kindOf y = some .local ∨ y ∈ F.wc)
    (h : TI prog w Z ht n F iter0 ρ μ fun vs G μ₁ => μ₁ = μ ∧ ∃ (vs1 : V → List V) (g : V → V → Option V), CompOk2 prog w Z ht n F scope x0 x1 ifs elt iter1 ρ μ vs vs1 g ∧ Post .next (upd ρ y (.p (.lst (vs.flatMap fun v => (vs1 v).filterMap (g v))))) μ)
    (hs : ∀ x, foldedSetIterable iter0 F.env x = pure x := by intro _; rfl)
    (hsw : swapsWithSole [.Name y py] (.ListComp elt [⟨.Name x0 p0, iter0, [], 0⟩, ⟨.Name x1 p1, iter1, ifs, 0⟩] scope pos) spos.line F.env = pure true := by rfl) :
    T1 prog w Z ht n F (.Assign [.Name y py] (.ListComp elt [⟨.Name x0 p0, iter0, [], 0⟩, ⟨.Name x1 p1, iter1, ifs, 0⟩] scope pos) spos) ρ μ Post := by
  exact T1.assignComp (h.imp fun vs G μ₁ ⟨hμ, vs1, g, hC, hP⟩ => ⟨hμ, _, LoopC.two hC, hP⟩) S hk hs hsw
theorem zs_sum (l : List Nat) : (zs l).sum = (l.sum : Nat) := by
  unfold zs
  induction l with
  | nil => rfl
  | cons a l ih => rw [List.map_cons, List.sum_cons, List.sum_cons, ih]; lia
theorem zs_nil (l : List Nat) : decide (zs l = []) = l.isEmpty := by
  cases l <;> rfl
theorem sumC_le {sz : List Nat} (h : sz.length = 3) {c : Nat} (hc : c < 8) : sumC sz (someC c) ≤ sz.sum := by
  match sz, h with
  | [a, b, d], _ =>
    have : c = 0 ∨ c = 1 ∨ c = 2 ∨ c = 3 ∨ c = 4 ∨ c = 5 ∨ c = 6 ∨ c = 7 := by lia
    rcases this with rfl | rfl | rfl | rfl | rfl | rfl | rfl | rfl
    · show 0 ≤ _; lia
    · show a + 0 ≤ a + (b + (d + 0)); lia
    · show b + 0 ≤ a + (b + (d + 0)); lia
    · show a + (b + 0) ≤ a + (b + (d + 0)); lia
    · show d + 0 ≤ a + (b + (d + 0)); lia
    · show a + (d + 0) ≤ a + (b + (d + 0)); lia
    · show b + (d + 0) ≤ a + (b + (d + 0)); lia
    · show a + (b + (d + 0)) ≤ a + (b + (d + 0)); lia
theorem sum12 {sz : List Nat} (h : sz.length = 3) (h4 : ∀ s ∈ sz, s ≤ 4) : sz.sum ≤ 12 := by
  match sz, h with
  | [a, b, d], _ =>
    have h1 := h4 a (by simp); have h2 := h4 b (by simp); have h3 := h4 d (by simp)
    show a + (b + (d + 0)) ≤ 12; lia
theorem neg1_bits {k : Nat} (h : k ≤ 3) : Builtin.Int.intBits ((-1 : Int) ^ ((k : Nat) : Int).toNat) ≤ 64 := by
  have : k = 0 ∨ k = 1 ∨ k = 2 ∨ k = 3 := by omega
  rcases this with rfl | rfl | rfl | rfl <;> decide
theorem k_sets (C : Ctx ht mg mb Ua Ub) : Says prog w Z ht mg n "_law_sets" fun f => ∀ (letters : List Nat) (M : Mx) (sz : List Nat) (base : Int) (μ : Store) (Post : AV → Store → Prop), letters.length ≤ 3 → M3 M → sz.length = 3 → (∀ s ∈ sz, s ≤ 4) → 0 ≤ base → base < 2 ^ 64 →
    Post (.p (.int (setsC letters M sz base))) μ → TC prog w Z ht (n + 1) f [.p (.lst (letters.map iv)), .p (mv M), .p (.lst (sz.map iv)), .p (.int base)] μ Post := by
  obtain ⟨cd, hf⟩ := C.fn 18 (by decide)
  refine hf.says fun a o pm ho hd hcd letters M sz base μ Post hlt hM hsz hs4 hb0 hb1 hP => ?_
  refine TC.def C.base ho hd hcd rfl (pn := ["letters", "loose", "sizes", "base"]) (bind4 fun _ _ _ _ => rfl) rfl rfl rfl (by rfl) (by rfl) rfl rfl rfl fun L => ?_
  have one : ∀ (c : Nat) (ρ : Rho) (N : Int) (Q : Fl → Rho → Store → Prop), c < 8 → ρ "letters" = some (.p (.lst (letters.map iv))) → ρ "loose" = some (.p (mv M)) → ρ "sizes" = some (.p (.lst (sz.map iv))) → ρ "base" = some (.p (.int base)) → ρ "number" = some (.p (.int N)) →
      (∀ ρ' : Rho, ρ' "letters" = some (.p (.lst (letters.map iv))) → ρ' "loose" = some (.p (mv M)) → ρ' "sizes" = some (.p (.lst (sz.map iv))) → ρ' "base" = some (.p (.int base)) → ρ' "number" = some (.p (.int (N + termC letters M sz base c))) → Q .next ρ' μ) →
      TS prog w Z ht n (defF (fdAt 18 pm cd) L a) (match bodyAt 18 with | _ :: .For _ _ b _ _ :: _ => b | _ => []) (upd ρ "code" (.p (iv c))) μ Q := by
    intro c ρ N Q hc h1 h2 h3 h4 h5 hQ
    show TS _ _ _ _ _ _ (_ :: _) _ _ _
    walk_at "mine"
    refine T1.assign (TE.compN (.of rfl (by rfl) (by rfl) (by rfl)) (fun C => .inl rfl) ?_) (.inr (by show _ ∈ ownC (scopeAt 18).names; decide +kernel))
    refine TI.rng ?_
    repeat walk_at "mine"
    refine ⟨by decide, by decide, rfl, by decide, fun v => match v with | .int i => if c / 2 ^ i.toNat % 2 == 1 then some (.int i) else none | _ => none, fun D v hv => ?_, ?_⟩
    · obtain ⟨k, hk, rfl⟩ := List.mem_map.mp hv
      have hk3 : k < 3 := List.mem_range.mp hk
      show TB _ _ _ _ _ _ _ _ _ _
      repeat walk_at "mine"
      refine o_pow (by omega) (by have : Builtin.Int.intBits 2 = 2 := by decide
                                  rw [this]; lia) ?_
      repeat walk_at "mine"
      refine o_fdiv (pow2_ok hk3).1 (pow2_ok hk3).2 ?_
      repeat walk_at "mine"
      refine o_mod (by decide) ?_
      rw [bitC]
      repeat walk_at "mine"
      have eb : (((c / 2 ^ k % 2 : Nat) : Int) == 1) = (c / 2 ^ k % 2 == 1) := by
        by_cases q : c / 2 ^ k % 2 = 1
        · rw [q]; rfl
        · rw [show (c / 2 ^ k % 2 == 1) = false from beq_eq_false_iff_ne.mpr q]
          exact beq_eq_false_iff_ne.mpr (by lia)
      rw [eb]
      cases e0 : (c / 2 ^ k % 2 == 1) with
      | true =>
        show TE _ _ _ _ _ _ _ _ _ _
        repeat walk_at "mine"
        show (if (c / 2 ^ ((k : Nat) : Int).toNat % 2 == 1) = true then some (V.int (k : Nat)) else none) = _
        rw [Int.toNat_natCast, e0]; rfl
      | false =>
        show (if (c / 2 ^ ((k : Nat) : Int).toNat % 2 == 1) = true then some (V.int (k : Nat)) else none) = _
        rw [Int.toNat_natCast, e0]; rfl
    have es : (rngVs 3).filterMap (fun v => match v with | .int i => if c / 2 ^ i.toNat % 2 == 1 then some (.int i) else none | _ => none) = (someC c).map iv := by
      show ((List.range 3).map iv).filterMap _ = _
      unfold someC
      exact fm_nats fun k _ => rfl
    rw [es]
    have hs3 : ∀ k ∈ someC c, k < 3 := fun k hk => List.mem_range.mp (List.mem_filter.mp hk).1
    have hsl : (someC c).length ≤ 3 := by unfold someC; exact List.length_filter_le _ _
    walk_at "mine"
    walk_at "mine"
    refine T1.assignCompN (.of rfl (by rfl) (by rfl) (by rfl)) (.inl rfl) (fun C => .inl rfl) ?_
    refine TI.list ?_
    repeat walk_at "mine"
    refine ⟨_, .inl rfl, rfl, by simp; lia, fun v => match v with | .int i => if !letters.contains i.toNat then some (.int i) else none | _ => none, fun D v hv => ?_, ?_⟩
    · obtain ⟨k, hk, rfl⟩ := List.mem_map.mp hv
      show TB _ _ _ _ _ _ _ _ _ _
      repeat walk_at "mine"
      refine l_notin (ms := zs letters) (.inl (by rw [ivs])) ?_
      rw [any_nat]
      repeat walk_at "mine"
      cases e0 : letters.contains k with
      | false =>
        show TE _ _ _ _ _ _ _ _ _ _
        repeat walk_at "mine"
        show (if (!letters.contains ((k : Nat) : Int).toNat) = true then some (V.int (k : Nat)) else none) = _
        rw [Int.toNat_natCast, e0]; rfl
      | true =>
        show (if (!letters.contains ((k : Nat) : Int).toNat) = true then some (V.int (k : Nat)) else none) = _
        rw [Int.toNat_natCast, e0]; rfl
    have ew : ((someC c).map iv).filterMap (fun v => match v with | .int i => if !letters.contains i.toNat then some (.int i) else none | _ => none) = (wrongC letters c).map iv := by
      unfold wrongC
      exact fm_nats fun k _ => rfl
    rw [ew]
    walk_at "mine"
    walk_at "mine"
    refine T1.assignComp2 (.of rfl (by rfl) (by rfl) (by rfl)) (.inl rfl) ?_
    refine TI.list ?_
    repeat walk_at "mine"
    refine ⟨_, .inl rfl, rfl, fun _ => (someC c).map iv, fun v u => match v, u with | .int k, .int i => if i < k ∧ at2 M i.toNat k.toNat = false then some (.int k) else none | _, _ => none,
      ⟨by simp; lia, fun _ _ => by simp; lia, fun _ => rfl, fun _ => rfl, fun D v hv ρ' hρ' => ?_, fun D v hv u hu => ?_, fun _ _ => rfl⟩, ?_⟩
    · have hso : ρ' "some" = some (.p (.lst ((someC c).map iv))) := by
        rw [hρ' "some" (by decide)]
        walk_at "look"
      refine TI.list ?_
      repeat walk_at "mine"
      exact ⟨_, .inl rfl, rfl, rfl⟩
    · obtain ⟨k, hk, rfl⟩ := List.mem_map.mp hv
      obtain ⟨i, hi, rfl⟩ := List.mem_map.mp hu
      have hk3 := hs3 k hk
      have hi3 := hs3 i hi
      have eg : (fun (v u : V) => match v, u with | .int k, .int i => if i < k ∧ at2 M i.toNat k.toNat = false then some (V.int k) else none | _, _ => none) (iv k) (iv i) = if i < k ∧ at2 M i k = false then some (iv k) else none := by
        show (if ((i : Int) < (k : Int) ∧ at2 M ((i : Nat) : Int).toNat ((k : Nat) : Int).toNat = false) then some (V.int (k : Nat)) else none) = _
        rw [Int.toNat_natCast, Int.toNat_natCast]
        have : ((i : Int) < (k : Int)) ↔ i < k := by lia
        simp only [this]
      show TB _ _ _ _ _ _ _ _ _ _
      repeat walk_at "mine"
      split <;> rename_i e0
      · have e0' : i < k := by have := of_decide_eq_true e0; lia
        repeat walk_at "mine"
        refine i_row hM hi3 ?_
        repeat walk_at "mine"
        refine i_bit hM hi3 hk3 ?_
        repeat walk_at "mine"
        cases e1 : at2 M i k with
        | false =>
          show TE _ _ _ _ _ _ _ _ _ _
          repeat walk_at "mine"
          exact eg.trans (if_pos ⟨e0', e1⟩)
        | true =>
          exact eg.trans (if_neg (fun q => by rw [e1] at q; cases q.2))
      · have e0' : ¬ i < k := by have := of_decide_eq_false e0; lia
        refine ⟨rfl, ?_⟩
        exact eg.trans (if_neg (fun q => e0' q.1))
    have eb : (((someC c).map iv).flatMap fun v => ((someC c).map iv).filterMap fun u => match v, u with | .int k, .int i => if i < k ∧ at2 M i.toNat k.toNat = false then some (V.int k) else none | _, _ => none) = (boundC M c).map iv := by
      unfold boundC
      rw [List.map_flatMap, List.flatMap_map]
      congr 1
      funext k
      rw [List.map_filterMap, List.filterMap_map]
      congr 1
      funext i
      show (if ((i : Int) < (k : Int) ∧ at2 M ((i : Nat) : Int).toNat ((k : Nat) : Int).toNat = false) then some (V.int (k : Nat)) else none) = _
      rw [Int.toNat_natCast, Int.toNat_natCast]
      have : ((i : Int) < (k : Int)) ↔ i < k := by lia
      simp only [this]
      split <;> rfl
    rw [eb]
    repeat walk_at "mine"
    refine TE.lst ?_
    repeat walk_at "mine"
    refine ⟨[], rfl, Nat.le_of_ble_eq_true rfl, ?_⟩
    refine l_eq (ns := zs (wrongC letters c)) (ms := []) (.inl (by rw [ivs])) (.inl rfl) ?_
    repeat walk_at "mine"
    rw [zs_nil]
    have hno : ∀ ρ' : Rho, (wrongC letters c = [] ∧ boundC M c = [] → False) → ρ' = (upd (upd (upd (upd ρ "code" (.p (iv c))) "some" (.p (.lst ((someC c).map iv)))) "wrong" (.p (.lst ((wrongC letters c).map iv)))) "bound" (.p (.lst ((boundC M c).map iv)))) → Q .next ρ' μ := by
      intro ρ' hn e
      subst e
      refine hQ _ (by walk_at "look") (by walk_at "look") (by walk_at "look") (by walk_at "look") ?_
      unfold termC
      rw [if_neg hn, Int.add_zero]
      walk_at "look"
    cases hw0 : wrongC letters c with
    | cons x xs =>
      show TS _ _ _ _ _ _ _ _ _ _
      repeat walk_at "mine"
      exact hno _ (fun q => by rw [hw0] at q; cases q.1) (by rw [hw0])
    | nil =>
      show TB _ _ _ _ _ _ _ _ _ _
      repeat walk_at "mine"
      refine TE.lst ?_
      repeat walk_at "mine"
      refine ⟨[], rfl, Nat.le_of_ble_eq_true rfl, ?_⟩
      refine l_eq (ns := zs (boundC M c)) (ms := []) (.inl (by rw [ivs])) (.inl rfl) ?_
      repeat walk_at "mine"
      rw [zs_nil]
      cases hbn : boundC M c with
      | cons x xs =>
        show TS _ _ _ _ _ _ _ _ _ _
        repeat walk_at "mine"
        exact hno _ (fun q => by rw [hbn] at q; cases q.2) (by rw [hw0, hbn])
      | nil =>
        show TS _ _ _ _ _ _ _ _ _ _
        repeat walk_at "mine"
        refine c_len (.inl rfl) (by simp; lia) ?_
        rw [List.length_map]
        refine o_pow (by lia) (by rw [show Builtin.Int.intBits (-1) = 1 from by decide]; lia) ?_
        repeat walk_at "mine"
        refine c_sum (ns := zs sz) (.inl (by rw [ivs])) ?_
        repeat walk_at "mine"
        refine TE.compN (.of rfl (by rfl) (by rfl) (by rfl)) (fun C => .inl rfl) ?_
        refine TI.list ?_
        repeat walk_at "mine"
        refine ⟨_, .inl rfl, rfl, by simp; lia, fun v => match v with | .int i => some (iv (sz.getD i.toNat 0)) | _ => none, fun D v hv => ?_, ?_⟩
        · obtain ⟨k, hk, rfl⟩ := List.mem_map.mp hv
          have hk3 : k < sz.length := by have := hs3 k hk; lia
          show TE _ _ _ _ _ _ _ _ _ _
          repeat walk_at "mine"
          refine i_list (.inl rfl) (by lia) (by have := hs3 k hk; lia) (x := iv (sz.getD k 0)) ?_ ?_
          · rw [Int.toNat_natCast, List.getElem?_map, List.getElem?_eq_getElem hk3]; simp [hk3]
          repeat walk_at "mine"
          rfl
        have e2 : ((someC c).map iv).filterMap (fun v => match v with | .int i => some (iv (sz.getD i.toNat 0)) | _ => none) = (zs ((someC c).map fun k => sz.getD k 0)).map V.int := by
          rw [← ivs, List.map_map, List.filterMap_map]
          rw [show ((fun v => match v with | .int i => some (iv (sz.getD i.toNat 0)) | _ => none) ∘ iv) = fun k => some (iv (sz.getD k 0)) from rfl]
          rw [List.filterMap_eq_map' ]
          rfl
        rw [e2]
        repeat walk_at "mine"
        refine c_sum (.inl rfl) ?_
        rw [zs_sum, zs_sum]
        repeat walk_at "mine"
        have hle := sumC_le hsz hc
        have h12 := sum12 hsz hs4
        rw [show ((sz.sum : Nat) : Int) - ((((someC c).map fun k => sz.getD k 0).sum : Nat) : Int) = ((sz.sum - sumC sz (someC c) : Nat) : Int) from by unfold sumC at hle ⊢; lia]
        have hbb : Builtin.Int.intBits base ≤ 64 := intBits_le_iff.mpr (by lia)
        refine o_pow (by lia) ?_ ?_
        · have h1 : ((Builtin.Int.intBits base : Nat) : Int) * ((sz.sum - sumC sz (someC c) : Nat) : Int) ≤ 64 * 12 := Int.mul_le_mul (by lia) (by lia) (by lia) (by decide)
          lia
        refine o_mul (IntMulOk.of_left (neg1_bits hsl)) ?_
        repeat walk_at "mine"
        refine hQ _ (by walk_at "look") (by walk_at "look") (by walk_at "look") (by walk_at "look") ?_
        unfold termC
        rw [if_pos ⟨hw0, hbn⟩, Int.toNat_natCast, Int.toNat_natCast]
        exact upd_hit
  have key : ∀ (cs : List Nat) (ρ : Rho) (N : Int), (∀ c ∈ cs, c < 8) → ρ "letters" = some (.p (.lst (letters.map iv))) → ρ "loose" = some (.p (mv M)) → ρ "sizes" = some (.p (.lst (sz.map iv))) → ρ "base" = some (.p (.int base)) → ρ "number" = some (.p (.int N)) →
      Post (.p (.int (N + (cs.map (termC letters M sz base)).sum))) μ →
      ForI prog w Z ht n (defF (fdAt 18 pm cd) L a) "code" (match bodyAt 18 with | _ :: .For _ _ b _ _ :: _ => b | _ => []) (fun _ => True) (thenS prog w Z ht n (defF (fdAt 18 pm cd) L a) (bodyAt 18).tail.tail fun fl ρ' μ' => RetP μ Post fl μ') (cs.map iv) ρ μ := by
    intro cs
    induction cs with
    | nil =>
      intro ρ N _ h1 h2 h3 h4 h5 hP
      show thenS _ _ _ _ _ _ (_ :: _) _ Fl.next _ _
      repeat walk_at "mine"
      show Post _ _
      rw [List.take_of_length_le (Nat.le_refl _)]
      simpa using hP
    | cons c cs ih =>
      intro ρ N hcs h1 h2 h3 h4 h5 hP
      refine one c ρ N _ (hcs c List.mem_cons_self) h1 h2 h3 h4 h5 fun ρ' g1 g2 g3 g4 g5 => ?_
      refine ⟨trivial, ih ρ' _ (fun x hx => hcs x (List.mem_cons_of_mem _ hx)) g1 g2 g3 g4 g5 ?_⟩
      rw [List.map_cons, List.sum_cons, ← Int.add_assoc] at hP
      exact hP
  repeat walk_at "mine"
  refine T1.for (TI.rng ?_) (.inr (by show _ ∈ ownC (scopeAt 18).names; decide +kernel))
  repeat walk_at "mine"
  refine ⟨by decide, by decide, ?_⟩
  refine key (List.range 8) _ 0 (fun c hc => List.mem_range.mp hc) rfl rfl rfl rfl rfl ?_
  rw [Int.zero_add]
  exact hP
end

/-! figures of a number -/
theorem and_high (x s : Nat) : x &&& (x / 2 ^ s * 2 ^ s) = x / 2 ^ s * 2 ^ s := by
  apply Nat.eq_of_testBit_eq
  intro i
  rw [Nat.testBit_and, Nat.mul_comm, Nat.testBit_two_pow_mul]
  by_cases h : s ≤ i
  · rw [Nat.testBit_div_two_pow]
    have e : i - s + s = i := by omega
    simp [h, e]
  · simp [h]
theorem xor_high (x s : Nat) : Builtin.bitXor (x : Int) (((x / 2 ^ s * 2 ^ s : Nat)) : Int) = ((x % 2 ^ s : Nat) : Int) := by
  rw [bitXor_and]
  have e : Builtin.bitAnd (x : Int) (((x / 2 ^ s * 2 ^ s : Nat)) : Int) = (((x / 2 ^ s * 2 ^ s : Nat)) : Int) := by
    show (((x &&& (x / 2 ^ s * 2 ^ s) : Nat)) : Int) = _
    rw [and_high]
  rw [e]
  have := Nat.div_add_mod x (2 ^ s)
  rw [Nat.mul_comm] at this
  omega
/-- the figures L to R of l turned to those of x -/
def put (n : Nat) (l : List Nat) (x L R : Nat) : List Nat := (List.range l.length).map fun j => if L ≤ j ∧ j < R then x / 2 ^ (n * (j - L)) % 2 ^ n else l.getD j 0
theorem put_length (n : Nat) (l : List Nat) (x L R : Nat) : (put n l x L R).length = l.length := by unfold put; simp
theorem put_getD {n : Nat} {l : List Nat} {x L R j : Nat} (h : j < l.length) : (put n l x L R).getD j 0 = if L ≤ j ∧ j < R then x / 2 ^ (n * (j - L)) % 2 ^ n else l.getD j 0 := by
  unfold put
  simp [List.getD, h]
theorem put_one {n : Nat} {l : List Nat} {x L : Nat} (hL : L < l.length) (hx : x < 2 ^ n) : l.set L x = put n l x L (L + 1) := by
  apply List.ext_getElem
  · rw [put_length]; simp
  · intro j h1 h2
    have hj : j < l.length := by simpa using h1
    have e := put_getD (n := n) (l := l) (x := x) (L := L) (R := L + 1) hj
    rw [show (put n l x L (L + 1)).getD j 0 = (put n l x L (L + 1))[j] from (List.getElem_eq_getD 0).symm] at e
    rw [e, List.getElem_set]
    by_cases q : L = j
    · subst q
      rw [if_pos rfl, if_pos ⟨Nat.le_refl _, by omega⟩, Nat.sub_self, Nat.mul_zero, Nat.pow_zero, Nat.div_one, Nat.mod_eq_of_lt hx]
    · rw [if_neg q, if_neg (by omega)]
      exact List.getElem_eq_getD 0
theorem put_two {n : Nat} {l : List Nat} {x L m R : Nat} (h1 : L ≤ m) (h2 : m ≤ R) : put n (put n l (x % 2 ^ ((m - L) * n)) L m) (x / 2 ^ ((m - L) * n)) m R = put n l x L R := by
  apply List.ext_getElem
  · rw [put_length, put_length, put_length]
  · intro j g1 g2
    have hj : j < l.length := by rw [put_length] at g2; exact g2
    have a1 := put_getD (n := n) (l := put n l (x % 2 ^ ((m - L) * n)) L m) (x := x / 2 ^ ((m - L) * n)) (L := m) (R := R) (j := j) (by rw [put_length]; exact hj)
    have a2 := put_getD (n := n) (l := l) (x := x % 2 ^ ((m - L) * n)) (L := L) (R := m) hj
    have a3 := put_getD (n := n) (l := l) (x := x) (L := L) (R := R) hj
    refine (List.getElem_eq_getD 0).trans (Eq.trans ?_ (List.getElem_eq_getD 0).symm)
    rw [a1, a2, a3]
    by_cases q1 : m ≤ j ∧ j < R
    · rw [if_pos q1, if_pos (by omega), Nat.div_div_eq_div_mul, ← Nat.pow_add]
      congr 3
      rw [Nat.mul_comm (m - L) n, ← Nat.mul_add]
      congr 1
      omega
    · rw [if_neg q1]
      by_cases q2 : L ≤ j ∧ j < m
      · rw [if_pos q2, if_pos (by omega)]
        have e : (m - L) * n = n * (j - L) + (n + n * (m - j - 1)) := by
          have : m - L = (j - L) + (1 + (m - j - 1)) := by omega
          rw [this, Nat.add_mul, Nat.add_mul, Nat.one_mul, Nat.mul_comm (j - L), Nat.mul_comm (m - j - 1)]
        rw [e, Nat.pow_add, Nat.mod_mul_right_div_self, Nat.pow_add, Nat.mod_mul_right_mod]
      · rw [if_neg q2, if_neg (by omega)]

section
variable {prog : Program} {w : World} {Z : Tb} {ht : Heap} {mg mb : Str → Option Value} {Ua Ub : TabSpec} {μ : Store} {n : Nat}
theorem c_leV {a b : Int} {t : Tok} {Post : AV → Store → Prop} (h : Post (.p (.bool (decide (a ≤ b)))) μ) : Cmp prog w Z ht n .LtE (.p (.int a)) (.p (.val (.int b t))) μ Post :=
  fun A s φ loc cs ok I r => by
    cases r with
    | cons r1 r2 => cases r2 with
      | cons r2 r3 => cases r3 with
        | nil => cases r2 with
          | p r2 => cases r2 with
            | val => exact c_le h A s φ loc _ ok I (.cons r1 (.cons (.p (.int b t)) .nil))
theorem k_d2 (C : Ctx ht mg mb Ua Ub) : Says prog w Z ht mg n "_div2n1n" fun f => ∀ (a b k : Int) (μ : Store) (Post : AV → Store → Prop), b ≠ 0 → b.natAbs.log2 < 9000 → (Builtin.Int.intBits a : Int) - k ≤ 4000 →
    Post (.p (.tup [.int (a.fdiv b), .int (a.fmod b)])) μ → TC prog w Z ht (n + 1) f [.p (.int a), .p (.int b), .p (.int k)] μ Post := by
  obtain ⟨cd, hf⟩ := C.fn 2 (by decide)
  refine hf.says fun f o pm ho hd hcd a b k μ Post hb hl hk hP => ?_
  refine TC.def C.base ho hd hcd rfl (pn := ["a", "b", "n"]) (bind3 fun _ _ _ => rfl) rfl rfl rfl (by rfl) (by rfl) rfl rfl rfl fun L => ?_
  obtain ⟨t, ht4⟩ := C.lim
  repeat walk_at "mine"
  refine TE.meth0 (id := "int.bit_length") ?_
  repeat walk_at "mine"
  refine ⟨gm_bitlen, ?_⟩
  repeat walk_at "mine"
  refine TE.glob C.base ht4 rfl ?_
  refine c_leV ?_
  repeat walk_at "mine"
  rw [decide_eq_true hk]
  show TS _ _ _ _ _ _ _ _ _ _
  repeat walk_at "mine"
  refine c_divmod hb hl ?_
  repeat walk_at "mine"
  show Post _ _
  rw [List.take_of_length_le (Nat.le_refl _)]
  exact hP
end

theorem upd_cases {ρ : Rho} {x y : Str} {v u : AV} (h : upd ρ x v y = some u) : (y = x ∧ u = v) ∨ ρ y = some u := by
  unfold upd at h
  split at h
  · exact .inl ⟨by assumption, (Option.some.inj h).symm⟩
  · exact .inr h
def valL (k : Nat) : List Nat → Nat
  | [] => 0
  | a :: l => a + 2 ^ k * valL k l
theorem valL_app (k : Nat) : ∀ l r : List Nat, valL k (l ++ r) = valL k l + 2 ^ (k * l.length) * valL k r
  | [], r => by simp [valL]
  | a :: l, r => by
    rw [List.cons_append, valL, valL_app k l r, valL, List.length_cons, Nat.mul_add k, Nat.mul_one, Nat.pow_add, Nat.mul_add, Nat.add_assoc]
    congr 2
    rw [← Nat.mul_assoc, Nat.mul_comm (2 ^ k)]
theorem valL_lt (k : Nat) : ∀ l : List Nat, (∀ a ∈ l, a < 2 ^ k) → valL k l < 2 ^ (k * l.length)
  | [], _ => by simp [valL]
  | a :: l, h => by
    have h1 := valL_lt k l fun x hx => h x (List.mem_cons_of_mem _ hx)
    have h2 := h a List.mem_cons_self
    rw [valL, List.length_cons, Nat.mul_add, Nat.mul_one, Nat.add_comm (k * l.length), Nat.pow_add]
    have h3 : 2 ^ k * (valL k l + 1) ≤ 2 ^ k * 2 ^ (k * l.length) := Nat.mul_le_mul_left _ h1
    rw [Nat.mul_add] at h3
    lia
def cut (l : List Nat) (L R : Nat) : List Nat := (l.drop L).take (R - L)
theorem cut_split (l : List Nat) {L m R : Nat} (h1 : L ≤ m) (h2 : m ≤ R) : cut l L R = cut l L m ++ cut l m R := by
  unfold cut
  rw [show R - L = (m - L) + (R - m) from by lia, List.take_add, List.drop_drop, show L + (m - L) = m from by lia]
theorem cut_length (l : List Nat) {L R : Nat} (h : R ≤ l.length) : (cut l L R).length = R - L := by
  unfold cut; rw [List.length_take, List.length_drop]; lia
theorem cut_mem {l : List Nat} {L R a : Nat} (h : a ∈ cut l L R) : a ∈ l := List.mem_of_mem_drop (List.mem_of_mem_take h)
theorem cut_one (l : List Nat) {L : Nat} (h : L < l.length) : cut l L (L + 1) = [l[L]] := by
  unfold cut
  rw [show L + 1 - L = 1 from by lia, List.drop_eq_getElem_cons h]
  rfl
theorem cut_all (l : List Nat) : cut l 0 l.length = l := by unfold cut; simp
theorem half_mid (L R : Nat) : ((L : Int) + (R : Int)).fdiv (2 ^ (1 : Int).toNat) = (((L + R) / 2 : Nat) : Int) := by
  rw [Int.fdiv_eq_ediv_of_nonneg _ (by decide)]
  show ((L : Int) + R) / 2 = _
  lia
def subAt (st : Option Stmt) : Arguments × List Stmt × Scope := match st with
  | some (.FunctionDef _ params body _ _ _ scope _ _ _) => (params, body, scope)
  | _ => (⟨[], [], none, [], [], none, []⟩, [], ⟨.function, [], false, false, []⟩)
abbrev sub5 : Arguments × List Stmt × Scope := subAt ((bodyAt 5)[0]?)
abbrev q5 : Str := "_digits2int.<locals>.inner"
theorem Base.mono {ht ht' : Heap} {mg mb : Str → Option Value} (B : Base ht mg mb) (k : ∀ b o, ht.get? b = some o → ht'.get? b = some o) : Base ht' mg mb := ⟨B.g.keeps k, B.b.keeps k, B.nolimit.keeps k⟩
section
variable {prog : Program} {w : World} {Z : Tb} {ht : Heap} {mg mb : Str → Option Value} {Ua Ub : TabSpec} {μ : Store} {n : Nat}
def rho5 (v : AV) (k : Nat) (fa : Addr) : Rho := upd (upd (upd (fun _ => none) "digits" v) "n" (.p (.int (k : Nat)))) "inner" (.p (.val (.ref fa)))
theorem rho5_cases {v u : AV} {k : Nat} {fa : Addr} {x : Str} (h : rho5 v k fa x = some u) : (x = "inner" ∧ u = .p (.val (.ref fa))) ∨ (x = "n" ∧ u = .p (.int (k : Nat))) ∨ (x = "digits" ∧ u = v) := by
  rcases upd_cases h with h | h
  · exact .inl h
  · rcases upd_cases h with h | h
    · exact .inr (.inl h)
    · rcases upd_cases h with h | h
      · exact .inr (.inr h)
      · cases h
theorem k_in5 (B : Base ht mg mb) {fa : Addr} {cl : List (Str × Addr)} {doc pm ctv : Value} {c' : Addr}
    (hfa : ht.get? fa = some (fnMade "inner" q5 sub5.1 sub5.2.1 sub5.2.2 cl doc pm c' ctv)) (hrec : ht.CodeRec (.ref c') q5)
    (hcl : ∀ y ∈ (["inner", "n", "digits"] : List Str), (cl.lookup y).isSome = true) {ds : List Nat} {k : Nat} {v : AV} {μ : Store} (hv : IsL μ v (ds.map iv)) (hds : ∀ a ∈ ds, a < 2 ^ k) (hz : ds.length ≤ 1000) (hk : k ≤ 10000) :
    ∀ (d L R : Nat) (Post : AV → Store → Prop), L < R → R ≤ ds.length → R - L ≤ 2 ^ d → Post (.p (iv (valL k (cut ds L R)))) μ → TK prog w Z ht (n + d + 1) cl (rho5 v k fa) (.ref fa) [.p (iv L), .p (iv R)] μ Post := by
  intro d
  induction d with
  | zero =>
    intro L R Post h1 h2 h3 hP
    have e : R = L + 1 := by simp at h3; lia
    subst e
    refine TK.def B (fd := fnX "inner" q5 sub5.1 sub5.2.1 sub5.2.2 cl .none .none doc pm none (.ref c') ctv) hfa rfl hrec rfl (pn := ["L", "R"]) (bind2 fun _ _ => rfl) rfl rfl rfl (by rfl) (by rfl) (fun x u h => ?_) rfl rfl rfl fun Lo => ?_
    · rcases rho5_cases h with ⟨rfl, _⟩ | ⟨rfl, _⟩ | ⟨rfl, _⟩ <;> rfl
    repeat walk_at "mine"
    rw [show ((L : Int) + 1 == ((L + 1 : Nat) : Int)) = true from beq_iff_eq.mpr (by lia)]
    show TS _ _ _ _ _ _ _ _ _ _
    repeat walk_at "mine"
    refine i_list hv (by lia) (by lia) (x := iv ds[L]) ?_ ?_
    · rw [Int.toNat_natCast, List.getElem?_map, List.getElem?_eq_getElem (by lia)]; rfl
    repeat walk_at "mine"
    rw [cut_one ds (by lia)] at hP
    show Post _ _
    rw [List.take_of_length_le (Nat.le_refl _)]
    exact hP
  | succ d ih =>
    intro L R Post h1 h2 h3 hP
    by_cases e : R = L + 1
    · subst e
      exact fun A s φ loc cs a => ih L (L + 1) Post h1 h2 (by have := Nat.pow_pos (n := d) (show 0 < 2 by decide); lia) hP A s φ loc cs (a.le (by lia))
    refine TK.def B (fd := fnX "inner" q5 sub5.1 sub5.2.1 sub5.2.2 cl .none .none doc pm none (.ref c') ctv) hfa rfl hrec rfl (pn := ["L", "R"]) (bind2 fun _ _ => rfl) rfl rfl rfl (by rfl) (by rfl) (fun x u h => ?_) rfl rfl rfl fun Lo => ?_
    · rcases rho5_cases h with ⟨rfl, _⟩ | ⟨rfl, _⟩ | ⟨rfl, _⟩ <;> rfl
    repeat walk_at "mine"
    rw [show ((L : Int) + 1 == ((R : Nat) : Int)) = false from beq_eq_false_iff_ne.mpr (by lia)]
    show TS _ _ _ _ _ _ _ _ _ _
    repeat walk_at "mine"
    refine o_shr (by decide) ?_
    rw [half_mid]
    obtain ⟨m, hm⟩ : ∃ m, (L + R) / 2 = m := ⟨_, rfl⟩
    rw [hm]
    have hLm : L < m := by lia
    have hmR : m < R := by lia
    have hp : 2 ^ (d + 1) = 2 * 2 ^ d := by rw [Nat.pow_succ, Nat.mul_comm]
    repeat walk_at "mine"
    rw [show ((m : Nat) : Int) - ((L : Nat) : Int) = ((m - L : Nat) : Int) from by lia]
    refine o_mul (IntMulOk.of_left (intBits_le_iff.mpr (by lia))) ?_
    rw [show (((m - L : Nat) : Int)) * ((k : Nat) : Int) = (((m - L) * k : Nat) : Int) from by rw [Int.natCast_mul]]
    repeat walk_at "mine"
    have hw : ∀ x u, rho5 v k fa x = some u → (upd (upd (bindR ([Str.ofString "L", Str.ofString "R"].zip [AV.p (iv L), AV.p (iv R)]) (rho5 v k fa)) "mid" (AV.p (V.int (m : Nat)))) "shift" (AV.p (V.int (((m - L) * k : Nat) : Int)))) x = some u ∧
        ((inF (fnX "inner" q5 sub5.1 sub5.2.1 sub5.2.2 cl .none .none doc pm none (.ref c') ctv) Lo fa).env.kindOf x = some .cell ∨ (inF (fnX "inner" q5 sub5.1 sub5.2.1 sub5.2.2 cl .none .none doc pm none (.ref c') ctv) Lo fa).env.kindOf x = some .free) ∧ (cl.lookup x).isSome = true := by
      intro x u hx
      rcases rho5_cases hx with ⟨rfl, _⟩ | ⟨rfl, _⟩ | ⟨rfl, _⟩
      · exact ⟨hx, .inr rfl, hcl _ (by decide)⟩
      · exact ⟨hx, .inr rfl, hcl _ (by decide)⟩
      · exact ⟨hx, .inr rfl, hcl _ (by decide)⟩
    refine TE.callE (TE.name rfl (.inr (.inr rfl)) ⟨fa, _, _, rfl, hfa, rfl, ?_⟩)
    repeat walk_at "mine"
    refine TK.tce (ih m R _ hmR h2 (by lia) ?_) (fun x c h => h) hw
    repeat walk_at "mine"
    refine o_shl (by lia) ?_ ?_
    · have h4 := valL_lt k (cut ds m R) fun a ha => hds a (cut_mem ha)
      rw [cut_length ds h2] at h4
      have h5 : Builtin.Int.intBits ((valL k (cut ds m R) : Nat) : Int) ≤ k * (R - m) := intBits_le_iff.mpr (by rw [Int.natAbs_natCast]; exact h4)
      have h6 : k * (R - m) ≤ 10000 * 1000 := Nat.mul_le_mul hk (by lia)
      have h7 : (m - L) * k ≤ 1000 * 10000 := Nat.mul_le_mul (by lia) hk
      lia
    refine TE.callE (TE.name rfl (.inr (.inr rfl)) ⟨fa, _, _, rfl, hfa, rfl, ?_⟩)
    repeat walk_at "mine"
    refine TK.tce (ih L m _ hLm (by lia) (by lia) ?_) (fun x c h => h) hw
    repeat walk_at "mine"
    show Post _ _
    rw [List.take_of_length_le (Nat.le_refl _)]
    rw [cut_split ds (Nat.le_of_lt hLm) (Nat.le_of_lt hmR), valL_app, cut_length ds (by lia)] at hP
    have ev : ((valL k (cut ds m R) : Nat) : Int) * 2 ^ (((m - L) * k : Nat) : Int).toNat + ((valL k (cut ds L m) : Nat) : Int) = ((valL k (cut ds L m) + 2 ^ (k * (m - L)) * valL k (cut ds m R) : Nat) : Int) := by
      rw [Int.toNat_natCast, Int.natCast_add, Int.natCast_mul, Int.natCast_pow, Int.mul_comm, Int.add_comm, Nat.mul_comm (m - L) k]
      rfl
    rw [ev]
    exact hP
theorem FnAt.mono {ht ht' : Heap} {mg : Str → Option Value} {i : Nat} {cd : Value} (h : FnAt ht mg i cd) (k : ∀ b o, ht.get? b = some o → ht'.get? b = some o) : FnAt ht' mg i cd := by
  obtain ⟨a, o, pm, h1, h2, h3, h4⟩ := h
  exact ⟨a, o, pm, h1, k _ _ h2, h3, h4.keeps k⟩
theorem Ctx.mono {ht ht' : Heap} {mg mb : Str → Option Value} {Ua Ub : TabSpec} (C : Ctx ht mg mb Ua Ub) (k : ∀ b o, ht.get? b = some o → ht'.get? b = some o) : Ctx ht' mg mb Ua Ub :=
  { C with
    base := C.base.mono k
    fn := fun i hi => let ⟨cd, h⟩ := C.fn i hi; ⟨cd, h.mono k⟩
    fn4 := C.fn4.mono k
    fn5 := C.fn5.mono k
    b1 := by obtain ⟨bm, o, b1, b2, b3, b4, b5, b6⟩ := C.b1; exact ⟨bm, o, b1, b2, b3, b4, k _ _ b5, b6⟩
    b2 := by obtain ⟨bm, o, b1, b2, b3, b4, b5, b6⟩ := C.b2; exact ⟨bm, o, b1, b2, b3, b4, k _ _ b5, b6⟩ }
theorem cells_free {names sub : List (Str × NameKind)} {c : Nat} (h : (sub.all fun p => p.2 != .free || names.any fun q => q.1 == p.1 && q.2 == .cell) = true) {p : Str × NameKind} (hp : p ∈ sub) (hf : p.2 = .free) : ((cellsFrom c names []).lookup p.1).isSome = true := by
  have h1 := List.all_eq_true.mp h p hp
  rw [hf] at h1
  obtain ⟨q, hq, h2⟩ := List.any_eq_true.mp (show (names.any fun q => q.1 == p.1 && q.2 == .cell) = true from by simpa using h1)
  simp only [Bool.and_eq_true, beq_iff_eq] at h2
  obtain ⟨d, hd⟩ := cells_has names c [] (x := p.1) (by rw [← h2.1, ← h2.2]; exact hq)
  exact lookup_some_of_mem hd
theorem k_d2i {Ua Ub : TabSpec} (C : Ctx ht mg mb Ua Ub) (hpos : Ub.pos = ⟨47, 4, 52, 55⟩) (hq : Ub.qual = q5) : Says prog w (tbOf [Ua, Ub]) ht mg n "_digits2int" fun f => ∀ (ds : List Nat) (k : Nat) (v : AV) (μ : Store) (Post : AV → Store → Prop),
    IsL μ v (ds.map iv) → (∀ a ∈ ds, a < 2 ^ k) → ds.length ≤ 64 → k ≤ 10000 → Post (.p (iv (valL k ds))) μ → TC prog w (tbOf [Ua, Ub]) ht (n + 8) f [v, .p (iv k)] μ Post := by
  refine C.fn5.says fun a o pm ho hd hcd ds k v μ Post hv hds hz hk hP => ?_
  refine TC.def C.base ho hd hcd rfl (pn := ["digits", "n"]) (bind2 fun _ _ => rfl) rfl rfl rfl (by rfl) (by rfl) rfl rfl rfl fun L => ?_
  show TS _ _ _ _ _ _ (Stmt.FunctionDef _ _ _ _ _ _ _ _ _ _ :: _) _ _ _
  refine TS.def C.base C.b2 (List.mem_cons_of_mem _ List.mem_cons_self) (fun T' hT' e => ?_) hpos (by rw [hq]; rfl) rfl rfl rfl (fun p hp hf => ?_) (by show _ ∈ ownC (scopeAt 5).names; decide +kernel) fun ht' fa ctv doc pm' c' hle hfa hrec => ?_
  · rcases List.mem_cons.mp hT' with rfl | hT'
    · exact absurd e C.ne
    · exact List.mem_singleton.mp hT'
  · exact cells_free (names := (scopeAt 5).names) (by decide +kernel) hp hf
  rw [hq] at hfa hrec
  have C' := C.mono hle
  have hcl : ∀ y ∈ (["inner", "n", "digits"] : List Str), ((clGo (defF (fdAt 5 pm (Value.ref Ub.c)) L a).env.cells sub5.2.2.names []).lookup y).isSome = true := by
    intro y hy
    have hm : (y, NameKind.free) ∈ sub5.2.2.names := by
      rcases List.mem_cons.mp hy with rfl | hy
      · decide +kernel
      · rcases List.mem_cons.mp hy with rfl | hy
        · decide +kernel
        · rw [List.mem_singleton.mp hy]; decide +kernel
    exact clGo_has _ _ hm
  have hsnd := clGo_sound (cells := (defF (fdAt 5 pm (Value.ref Ub.c)) L a).env.cells) sub5.2.2.names [] (fun p hp hf => cells_free (names := (scopeAt 5).names) (by decide +kernel) hp hf) (fun _ _ h => nomatch h)
  repeat walk_at "mine"
  refine t_list hv (by simp; lia) ?_
  rw [List.isEmpty_map]
  cases hds0 : ds.isEmpty with
  | true =>
    obtain rfl := List.isEmpty_iff.mp hds0
    show TE _ _ _ _ _ _ _ _ _ _
    repeat walk_at "mine"
    show Post _ _
    rw [List.take_of_length_le (Nat.le_refl _)]
    exact hP
  | false =>
    have hpos : 0 < ds.length := by
      cases ds with
      | nil => cases hds0
      | cons _ _ => simp
    show TE _ _ _ _ _ _ _ _ _ _
    refine TE.callE (TE.name rfl (.inr (.inl rfl)) ⟨fa, _, _, rfl, hfa, rfl, ?_⟩)
    repeat walk_at "mine"
    refine c_len hv (by simp; lia) ?_
    rw [List.length_map]
    repeat walk_at "mine"
    refine TK.tce (k_in5 C'.base hfa hrec hcl hv hds (by lia) hk 6 0 ds.length _ hpos (Nat.le_refl _) (by lia) ?_) hsnd ?_
    · repeat walk_at "mine"
      show Post _ _
      rw [List.take_of_length_le (Nat.le_refl _), cut_all]
      exact hP
    · intro x u hx
      have hx' := rho5_cases hx
      have hc : (List.lookup x (clGo (defF (fdAt 5 pm (Value.ref Ub.c)) L a).env.cells sub5.2.2.names [])).isSome = true := hcl x (by rcases hx' with ⟨rfl, _⟩ | ⟨rfl, _⟩ | ⟨rfl, _⟩ <;> decide)
      rcases hx' with ⟨rfl, rfl⟩ | ⟨rfl, rfl⟩ | ⟨rfl, rfl⟩
      · exact ⟨rfl, .inl rfl, hc⟩
      · exact ⟨rfl, .inl rfl, hc⟩
      · exact ⟨rfl, .inl rfl, hc⟩
end

abbrev sub4 : Arguments × List Stmt × Scope := subAt ((bodyAt 4)[1]?)
abbrev q4 : Str := "_int2digits.<locals>.inner"
section
variable {prog : Program} {w : World} {Z : Tb} {ht : Heap} {mg mb : Str → Option Value} {Ua Ub : TabSpec} {μ : Store} {n : Nat}
def rho4 (j : Nat) (k : Nat) (fa : Addr) : Rho := upd (upd (upd (fun _ => none) "a_digits" (.m j)) "n" (.p (.int (k : Nat)))) "inner" (.p (.val (.ref fa)))
theorem rho4_cases {j : Nat} {u : AV} {k : Nat} {fa : Addr} {x : Str} (h : rho4 j k fa x = some u) : (x = "inner" ∧ u = .p (.val (.ref fa))) ∨ (x = "n" ∧ u = .p (.int (k : Nat))) ∨ (x = "a_digits" ∧ u = .m j) := by
  rcases upd_cases h with h | h
  · exact .inl h
  · rcases upd_cases h with h | h
    · exact .inr (.inl h)
    · rcases upd_cases h with h | h
      · exact .inr (.inr h)
      · cases h
theorem k_in4 (B : Base ht mg mb) {fa : Addr} {cl : List (Str × Addr)} {doc pm ctv : Value} {c' : Addr}
    (hfa : ht.get? fa = some (fnMade "inner" q4 sub4.1 sub4.2.1 sub4.2.2 cl doc pm c' ctv)) (hrec : ht.CodeRec (.ref c') q4)
    (hcl : ∀ y ∈ (["inner", "n", "a_digits"] : List Str), (cl.lookup y).isSome = true) {j k : Nat} (hk : k ≤ 10000) :
    ∀ (d x L R : Nat) (l : List Nat) (μ : Store) (Post : AV → Store → Prop), μ[j]? = some (l.map iv) → l.length ≤ 1000 → L < R → R ≤ l.length → R - L ≤ 2 ^ d → x < 2 ^ (k * (R - L)) → Post (.p .none) (μ.set j ((put k l x L R).map iv)) →
      TK prog w Z ht (n + d + 1) cl (rho4 j k fa) (.ref fa) [.p (iv x), .p (iv L), .p (iv R)] μ Post := by
  have base : ∀ (n x L : Nat) (l : List Nat) (μ : Store) (Post : AV → Store → Prop), μ[j]? = some (l.map iv) → l.length ≤ 1000 → L + 1 ≤ l.length → x < 2 ^ k → Post (.p .none) (μ.set j ((put k l x L (L + 1)).map iv)) →
      TK prog w Z ht (n + 1) cl (rho4 j k fa) (.ref fa) [.p (iv x), .p (iv L), .p (iv (L + 1))] μ Post := by
    intro n x L l μ Post hm hz h2 hx hP
    refine TK.def B (fd := fnX "inner" q4 sub4.1 sub4.2.1 sub4.2.2 cl .none .none doc pm none (.ref c') ctv) hfa rfl hrec rfl (pn := ["x", "L", "R"]) (bind3 fun _ _ _ => rfl) rfl rfl rfl (by rfl) (by rfl) (fun x u h => ?_) rfl rfl rfl fun Lo => ?_
    · rcases rho4_cases h with ⟨rfl, _⟩ | ⟨rfl, _⟩ | ⟨rfl, _⟩ <;> rfl
    repeat walk_at "mine"
    rw [show ((L : Int) + 1 == ((L + 1 : Nat) : Int)) = true from beq_iff_eq.mpr (by lia)]
    show TS _ _ _ _ _ _ _ _ _ _
    repeat walk_at "mine"
    refine ⟨_, _, rfl, hm, by lia, by simp; lia, by lia, ?_⟩
    rw [Int.toNat_natCast, ← List.map_set, put_one (by lia) hx]
    repeat walk_at "mine"
    show Post _ _
    rw [List.take_of_length_le (by simp)]
    exact hP
  intro d
  induction d with
  | zero =>
    intro x L R l μ Post hm hz h1 h2 h3 hx hP
    have e : R = L + 1 := by simp at h3; lia
    subst e
    exact base (n + 0) x L l μ Post hm hz h2 (by rw [show k * (L + 1 - L) = k from by rw [show L + 1 - L = 1 from by lia, Nat.mul_one]] at hx; exact hx) hP
  | succ d ih =>
    intro x L R l μ Post hm hz h1 h2 h3 hx hP
    by_cases e : R = L + 1
    · subst e
      exact base (n + (d + 1)) x L l μ Post hm hz h2 (by rw [show k * (L + 1 - L) = k from by rw [show L + 1 - L = 1 from by lia, Nat.mul_one]] at hx; exact hx) hP
    refine TK.def B (fd := fnX "inner" q4 sub4.1 sub4.2.1 sub4.2.2 cl .none .none doc pm none (.ref c') ctv) hfa rfl hrec rfl (pn := ["x", "L", "R"]) (bind3 fun _ _ _ => rfl) rfl rfl rfl (by rfl) (by rfl) (fun x u h => ?_) rfl rfl rfl fun Lo => ?_
    · rcases rho4_cases h with ⟨rfl, _⟩ | ⟨rfl, _⟩ | ⟨rfl, _⟩ <;> rfl
    repeat walk_at "mine"
    rw [show ((L : Int) + 1 == ((R : Nat) : Int)) = false from beq_eq_false_iff_ne.mpr (by lia)]
    show TS _ _ _ _ _ _ _ _ _ _
    repeat walk_at "mine"
    refine o_shr (by decide) ?_
    rw [half_mid]
    obtain ⟨m, hmm⟩ : ∃ m, (L + R) / 2 = m := ⟨_, rfl⟩
    rw [hmm]
    have hLm : L < m := by lia
    have hmR : m < R := by lia
    have hp : 2 ^ (d + 1) = 2 * 2 ^ d := by rw [Nat.pow_succ, Nat.mul_comm]
    repeat walk_at "mine"
    rw [show ((m : Nat) : Int) - ((L : Nat) : Int) = ((m - L : Nat) : Int) from by lia]
    refine o_mul (IntMulOk.of_left (intBits_le_iff.mpr (by lia))) ?_
    rw [show (((m - L : Nat) : Int)) * ((k : Nat) : Int) = (((m - L) * k : Nat) : Int) from by rw [Int.natCast_mul]]
    repeat walk_at "mine"
    refine o_shr (by lia) ?_
    have e1 : ((x : Nat) : Int).fdiv (2 ^ (((m - L) * k : Nat) : Int).toNat) = ((x / 2 ^ ((m - L) * k) : Nat) : Int) := by
      rw [Int.toNat_natCast, Int.fdiv_eq_ediv_of_nonneg _ (Int.le_of_lt (Int.pow_pos (by decide))), Int.natCast_ediv, Int.natCast_pow]; rfl
    rw [e1]
    have hup : x / 2 ^ ((m - L) * k) < 2 ^ (k * (R - m)) := by
      refine Nat.div_lt_of_lt_mul ?_
      rw [← Nat.pow_add, Nat.mul_comm (m - L) k, ← Nat.mul_add, show m - L + (R - m) = R - L from by lia]
      exact hx
    have hlo : x % 2 ^ ((m - L) * k) < 2 ^ (k * (m - L)) := by
      rw [Nat.mul_comm k]; exact Nat.mod_lt _ (Nat.pow_pos (by decide))
    repeat walk_at "mine"
    refine o_shl (by lia) ?_ ?_
    · have h5 : Builtin.Int.intBits ((x / 2 ^ ((m - L) * k) : Nat) : Int) ≤ k * (R - m) := intBits_le_iff.mpr (by rw [Int.natAbs_natCast]; exact hup)
      have h6 : k * (R - m) ≤ 10000 * 1000 := Nat.mul_le_mul hk (by lia)
      have h7 : (m - L) * k ≤ 1000 * 10000 := Nat.mul_le_mul (by lia) hk
      lia
    have e2 : ((x / 2 ^ ((m - L) * k) : Nat) : Int) * 2 ^ (((m - L) * k : Nat) : Int).toNat = ((x / 2 ^ ((m - L) * k) * 2 ^ ((m - L) * k) : Nat) : Int) := by
      rw [Int.toNat_natCast, Int.natCast_mul, Int.natCast_pow]; rfl
    rw [e2]
    repeat walk_at "mine"
    rw [xor_high]
    repeat walk_at "mine"
    have hw : ∀ y u, rho4 j k fa y = some u → (upd (upd (upd (upd (bindR ([Str.ofString "x", Str.ofString "L", Str.ofString "R"].zip [AV.p (iv x), AV.p (iv L), AV.p (iv R)]) (rho4 j k fa)) "mid" (AV.p (V.int (m : Nat)))) "shift" (AV.p (V.int (((m - L) * k : Nat) : Int))))
        "upper" (AV.p (V.int ((x / 2 ^ ((m - L) * k) : Nat) : Int)))) "lower" (AV.p (V.int ((x % 2 ^ ((m - L) * k) : Nat) : Int)))) y = some u ∧
        ((inF (fnX "inner" q4 sub4.1 sub4.2.1 sub4.2.2 cl .none .none doc pm none (.ref c') ctv) Lo fa).env.kindOf y = some .cell ∨ (inF (fnX "inner" q4 sub4.1 sub4.2.1 sub4.2.2 cl .none .none doc pm none (.ref c') ctv) Lo fa).env.kindOf y = some .free) ∧ (cl.lookup y).isSome = true := by
      intro y u hx
      rcases rho4_cases hx with ⟨rfl, _⟩ | ⟨rfl, _⟩ | ⟨rfl, _⟩
      · exact ⟨hx, .inr rfl, hcl _ (by decide)⟩
      · exact ⟨hx, .inr rfl, hcl _ (by decide)⟩
      · exact ⟨hx, .inr rfl, hcl _ (by decide)⟩
    have hj : j < μ.length := (List.getElem?_eq_some_iff.mp hm).1
    refine TE.callE (TE.name rfl (.inr (.inr rfl)) ⟨fa, _, _, rfl, hfa, rfl, ?_⟩)
    repeat walk_at "mine"
    refine TK.tce (ih (x % 2 ^ ((m - L) * k)) L m l _ _ hm hz hLm (by lia) (by lia) hlo ?_) (fun x c h => h) hw
    repeat walk_at "mine"
    refine TE.callE (TE.name rfl (.inr (.inr rfl)) ⟨fa, _, _, rfl, hfa, rfl, ?_⟩)
    repeat walk_at "mine"
    refine TK.tce (ih (x / 2 ^ ((m - L) * k)) m R (put k l (x % 2 ^ ((m - L) * k)) L m) _ _ (by rw [List.getElem?_set_self hj]) (by rw [put_length]; exact hz) hmR (by rw [put_length]; exact h2) (by lia) hup ?_) (fun x c h => h) hw
    rw [sets, put_two (Nat.le_of_lt hLm) (Nat.le_of_lt hmR)]
    repeat walk_at "mine"
    show Post _ _
    rw [List.take_of_length_le (by simp)]
    exact hP
/-- the figures of x, the lowest first -/
def figs (k x : Nat) : List Nat := (List.range ((Builtin.Int.intBits (x : Int) + k - 1) / k)).map fun j => x / 2 ^ (k * j) % 2 ^ k
theorem put_all (k x N : Nat) : put k (List.replicate N 0) x 0 N = (List.range N).map fun j => x / 2 ^ (k * j) % 2 ^ k := by
  unfold put
  rw [List.length_replicate]
  apply List.map_congr_left
  intro j hj
  rw [if_pos ⟨Nat.zero_le _, List.mem_range.mp hj⟩, Nat.sub_zero]
theorem k_i2d {Ua Ub : TabSpec} (C : Ctx ht mg mb Ua Ub) (hpos : Ua.pos = ⟨32, 4, 41, 28⟩) (hq : Ua.qual = q4) : Says prog w (tbOf [Ua, Ub]) ht mg n "_int2digits" fun f => ∀ (x k : Nat) (μ : Store) (Post : AV → Store → Prop),
    0 < k → k ≤ 8000 → x < 2 ^ (k * 60) → Post (.p (.lst ((figs k x).map iv))) μ → TC prog w (tbOf [Ua, Ub]) ht (n + 8) f [.p (iv x), .p (iv k)] μ Post := by
  refine C.fn4.says fun a o pm ho hd hcd x k μ Post hk0 hk hx hP => ?_
  refine TC.def C.base ho hd hcd rfl (pn := ["a", "n"]) (bind2 fun _ _ => rfl) rfl rfl rfl (by rfl) (by rfl) rfl rfl rfl fun L => ?_
  have hbits : Builtin.Int.intBits ((x : Nat) : Int) ≤ k * 60 := intBits_le_iff.mpr (by rw [Int.natAbs_natCast]; exact hx)
  obtain ⟨N, hN⟩ : ∃ N, (Builtin.Int.intBits ((x : Nat) : Int) + k - 1) / k = N := ⟨_, rfl⟩
  have hN60 : N ≤ 60 := by
    rw [← hN]
    refine Nat.le_of_lt_succ ((Nat.div_lt_iff_lt_mul hk0).mpr ?_)
    rw [Nat.succ_mul, Nat.mul_comm 60]
    lia
  walk_at "mine"
  refine T1.assign ?_ (.inr (by show _ ∈ ownC (scopeAt 4).names; decide +kernel))
  repeat walk_at "mine"
  refine TE.lst ?_
  repeat walk_at "mine"
  refine ⟨[.int 0], rfl, Nat.le_of_ble_eq_true rfl, ?_⟩
  repeat walk_at "mine"
  refine TE.meth0 (id := "int.bit_length") ?_
  repeat walk_at "mine"
  refine ⟨gm_bitlen, ?_⟩
  repeat walk_at "mine"
  refine o_fdiv (by lia) ?_ ?_
  · rw [Int.natAbs_natCast]
    refine Nat.lt_of_le_of_lt (Nat.log2_le_self k) ?_
    lia
  have eN : (((Builtin.Int.intBits ((x : Nat) : Int) : Nat) : Int) + ((k : Nat) : Int) - 1).fdiv ((k : Nat) : Int) = ((N : Nat) : Int) := by
    rw [show (((Builtin.Int.intBits ((x : Nat) : Int) : Nat) : Int) + ((k : Nat) : Int) - 1) = ((Builtin.Int.intBits ((x : Nat) : Int) + k - 1 : Nat) : Int) from by lia, Int.fdiv_eq_ediv_of_nonneg _ (by lia), ← hN, Int.natCast_ediv]
  rw [eN]
  refine o_rep (.inl rfl) (by lia) (by lia) ?_
  rw [Int.toNat_natCast, show List.replicate N (V.int 0) = (List.replicate N 0).map iv from by rw [List.map_replicate]; rfl]
  walk_at "mine"
  refine TS.def C.base C.b1 List.mem_cons_self (fun T' hT' e => ?_) hpos (by rw [hq]; rfl) rfl rfl rfl (fun p hp hf => ?_) (by show _ ∈ ownC (scopeAt 4).names; decide +kernel) fun ht' fa ctv doc pm' c' hle hfa hrec => ?_
  · rcases List.mem_cons.mp hT' with rfl | hT'
    · rfl
    · rw [List.mem_singleton.mp hT'] at e
      exact absurd e.symm C.ne
  · exact cells_free (names := (scopeAt 4).names) (by decide +kernel) hp hf
  rw [hq] at hfa hrec
  have C' := C.mono hle
  have hcl : ∀ y ∈ (["inner", "n", "a_digits"] : List Str), ((clGo (defF (fdAt 4 pm (Value.ref Ua.c)) L a).env.cells sub4.2.2.names []).lookup y).isSome = true := by
    intro y hy
    have hm : (y, NameKind.free) ∈ sub4.2.2.names := by
      rcases List.mem_cons.mp hy with rfl | hy
      · decide +kernel
      · rcases List.mem_cons.mp hy with rfl | hy
        · decide +kernel
        · rw [List.mem_singleton.mp hy]; decide +kernel
    exact clGo_has _ _ hm
  have hsnd := clGo_sound (cells := (defF (fdAt 4 pm (Value.ref Ua.c)) L a).env.cells) sub4.2.2.names [] (fun p hp hf => cells_free (names := (scopeAt 4).names) (by decide +kernel) hp hf) (fun _ _ h => nomatch h)
  have hget : ∀ l : List V, (μ ++ [l])[μ.length]? = some l := fun l => by simp
  have hset : ∀ l l' : List V, List.set (μ ++ [l]) μ.length l' = μ ++ [l'] := fun l l' => by simp
  have efig : figs k x = put k (List.replicate N 0) x 0 N := by rw [put_all]; unfold figs; rw [hN]
  repeat walk_at "mine"
  cases hx0 : (((x : Nat) : Int) != 0) with
  | false =>
    have hx00 : x = 0 := by simpa using hx0
    subst hx00
    show TS _ _ _ _ _ _ _ _ _ _
    repeat walk_at "mine"
    refine .inr ⟨Nat.le_refl _, _, hget _, ?_⟩
    rw [List.take_left]
    have hN0 : N = 0 := by
      rw [← hN, show Builtin.Int.intBits ((0 : Nat) : Int) = 0 from by decide]
      exact Nat.div_eq_of_lt (by lia)
    subst hN0
    rw [efig] at hP
    exact hP
  | true =>
    have hx00 : x ≠ 0 := by simpa using hx0
    have hb0 : 0 < Builtin.Int.intBits ((x : Nat) : Int) := by
      refine Nat.pos_of_ne_zero fun q => hx00 ?_
      have := intBits_le_iff.mp (Nat.le_of_eq q)
      simpa using this
    have hNpos : 0 < N := by
      rw [← hN]; exact Nat.div_pos (by lia) hk0
    have hxN : x < 2 ^ (k * (N - 0)) := by
      have h1 : x < 2 ^ (Builtin.Int.intBits ((x : Nat) : Int)) := by simpa using intBits_le_iff.mp (Nat.le_refl (Builtin.Int.intBits ((x : Nat) : Int)))
      refine Nat.lt_of_lt_of_le h1 (Nat.pow_le_pow_right (by decide) ?_)
      have h2 := Nat.div_add_mod (Builtin.Int.intBits ((x : Nat) : Int) + k - 1) k
      have h3 := Nat.mod_lt (Builtin.Int.intBits ((x : Nat) : Int) + k - 1) hk0
      rw [hN] at h2
      rw [Nat.sub_zero]
      lia
    show TS _ _ _ _ _ _ _ _ _ _
    repeat walk_at "mine"
    refine TE.callE (TE.name rfl (.inr (.inl rfl)) ⟨fa, _, _, rfl, hfa, rfl, ?_⟩)
    repeat walk_at "mine"
    refine c_len (.inr ⟨_, rfl, hget _⟩) (by simp; lia) ?_
    rw [List.length_map, List.length_replicate]
    repeat walk_at "mine"
    refine TK.tce (k_in4 C'.base hfa hrec hcl (j := μ.length) (by lia) 6 x 0 N (List.replicate N 0) _ _ (hget _) (by simp; lia) hNpos (by simp) (by lia) hxN ?_) hsnd ?_
    · rw [hset]
      repeat walk_at "mine"
      refine .inr ⟨Nat.le_refl _, _, hget _, ?_⟩
      rw [List.take_left]
      rw [efig] at hP
      exact hP
    · intro y u hx
      have hx' := rho4_cases hx
      have hc : (List.lookup y (clGo (defF (fdAt 4 pm (Value.ref Ua.c)) L a).env.cells sub4.2.2.names [])).isSome = true := hcl y (by rcases hx' with ⟨rfl, _⟩ | ⟨rfl, _⟩ | ⟨rfl, _⟩ <;> decide)
      rcases hx' with ⟨rfl, rfl⟩ | ⟨rfl, rfl⟩ | ⟨rfl, rfl⟩
      · exact ⟨rfl, .inl rfl, hc⟩
      · exact ⟨rfl, .inl rfl, hc⟩
      · exact ⟨rfl, .inl rfl, hc⟩
end

theorem nat_div_int (a b : Nat) : ((a : Int)).fdiv (b : Int) = ((a / b : Nat) : Int) := by
  rw [Int.fdiv_eq_ediv_of_nonneg _ (by omega), Int.natCast_ediv]
theorem nat_mod_int (a b : Nat) : ((a : Int)).fmod (b : Int) = ((a % b : Nat) : Int) := by
  rw [Int.fmod_eq_emod_of_nonneg _ (by omega), Int.natCast_emod]
theorem valL_figs (k x : Nat) : ∀ N, valL k ((List.range N).map fun j => x / 2 ^ (k * j) % 2 ^ k) = x % 2 ^ (k * N)
  | 0 => by simp [valL, Nat.mod_one]
  | N + 1 => by
    rw [List.range_succ, List.map_append, valL_app, valL_figs k x N, List.length_map, List.length_range, List.map_singleton]
    show _ + 2 ^ (k * N) * (_ + 2 ^ k * 0) = _
    rw [Nat.mul_zero, Nat.add_zero, Nat.mul_add k, Nat.mul_one, Nat.pow_add, Nat.mod_mul]
theorem figs_lt {k x a : Nat} (h : a ∈ figs k x) : a < 2 ^ k := by
  unfold figs at h
  obtain ⟨j, _, rfl⟩ := List.mem_map.mp h
  exact Nat.mod_lt _ (Nat.pow_pos (by decide))
theorem figs_cover {k x : Nat} (hk0 : 0 < k) : x < 2 ^ (k * ((Builtin.Int.intBits (x : Int) + k - 1) / k)) := by
  have h1 : x < 2 ^ (Builtin.Int.intBits ((x : Nat) : Int)) := by simpa using intBits_le_iff.mp (Nat.le_refl (Builtin.Int.intBits ((x : Nat) : Int)))
  refine Nat.lt_of_lt_of_le h1 (Nat.pow_le_pow_right (by decide) ?_)
  have h2 := Nat.div_add_mod (Builtin.Int.intBits ((x : Nat) : Int) + k - 1) k
  have h3 := Nat.mod_lt (Builtin.Int.intBits ((x : Nat) : Int) + k - 1) hk0
  omega
theorem valL_figs_all {k x : Nat} (hk0 : 0 < k) : valL k (figs k x) = x := by
  unfold figs
  rw [valL_figs, Nat.mod_eq_of_lt (figs_cover hk0)]
theorem figs_length {k x : Nat} (hk0 : 0 < k) {m : Nat} (hx : x < 2 ^ (k * m)) : (figs k x).length ≤ m := by
  unfold figs
  rw [List.length_map, List.length_range]
  have hbits : Builtin.Int.intBits ((x : Nat) : Int) ≤ k * m := intBits_le_iff.mpr (by rw [Int.natAbs_natCast]; exact hx)
  refine Nat.le_of_lt_succ ((Nat.div_lt_iff_lt_mul hk0).mpr ?_)
  rw [Nat.succ_mul, Nat.mul_comm m]
  omega
/-- long division -/
def dvR (n b : Nat) : List Nat → List Nat → Nat → List Nat × Nat
  | [], qs, r => (qs, r)
  | d :: ds, qs, r => dvR n b ds (qs ++ [(r * 2 ^ n + d) / b]) ((r * 2 ^ n + d) % b)
theorem dv_q {n b r d : Nat} (hr : r < b) (hd : d < 2 ^ n) : (r * 2 ^ n + d) / b < 2 ^ n := by
  refine Nat.div_lt_of_lt_mul ?_
  have : (r + 1) * 2 ^ n ≤ b * 2 ^ n := Nat.mul_le_mul_right _ hr
  rw [Nat.add_mul, Nat.one_mul] at this
  omega
theorem dvR_ok {n b : Nat} (hb : 0 < b) : ∀ (ds qs : List Nat) (r : Nat), r < b → (∀ d ∈ ds, d < 2 ^ n) → (∀ q ∈ qs, q < 2 ^ n) →
    (dvR n b ds qs r).2 < b ∧ (∀ q ∈ (dvR n b ds qs r).1, q < 2 ^ n) ∧ (dvR n b ds qs r).1.length = qs.length + ds.length ∧
      valL n (dvR n b ds qs r).1.reverse * b + (dvR n b ds qs r).2 = (valL n qs.reverse * b + r) * 2 ^ (n * ds.length) + valL n ds.reverse
  | [], qs, r, hr, _, hq => ⟨hr, hq, rfl, by simp [dvR, valL]⟩
  | d :: ds, qs, r, hr, hd, hq => by
    have hd0 := hd d List.mem_cons_self
    have h := dvR_ok hb ds (qs ++ [(r * 2 ^ n + d) / b]) ((r * 2 ^ n + d) % b) (Nat.mod_lt _ hb) (fun x hx => hd x (List.mem_cons_of_mem _ hx)) (fun x hx => by
      rcases List.mem_append.mp hx with hx | hx
      · exact hq x hx
      · rw [List.mem_singleton.mp hx]; exact dv_q hr hd0)
    unfold dvR
    refine ⟨h.1, h.2.1, by rw [h.2.2.1]; simp; omega, ?_⟩
    rw [h.2.2.2, List.reverse_append, List.reverse_singleton, List.singleton_append, valL, List.reverse_cons, valL_app, List.length_reverse, List.length_cons]
    have e := Nat.div_add_mod (r * 2 ^ n + d) b
    show _ = _ + (_ + 2 ^ (n * ds.length) * (d + 2 ^ n * 0))
    simp only [Nat.mul_zero, Nat.add_zero]
    rw [Nat.mul_add n, Nat.mul_one, Nat.pow_add]
    generalize (r * 2 ^ n + d) / b = q' at e ⊢
    generalize (r * 2 ^ n + d) % b = r' at e ⊢
    generalize valL n qs.reverse = Q
    generalize 2 ^ (n * ds.length) = X
    generalize valL n ds.reverse = Y
    generalize 2 ^ n = T at e ⊢
    have e1 : (q' + T * Q) * b + r' = (Q * b + r) * T + d := by
      rw [Nat.add_mul, Nat.add_mul (Q * b), Nat.mul_comm q' b, Nat.mul_assoc T, Nat.mul_comm T]
      omega
    rw [e1, Nat.add_mul, Nat.mul_comm d X, Nat.mul_assoc, Nat.mul_comm T X]
    omega
theorem dvR_div {n a b : Nat} (hn : 0 < n) (hb : 0 < b) : valL n (dvR n b (figs n a).reverse [] 0).1.reverse = a / b ∧ (dvR n b (figs n a).reverse [] 0).2 = a % b := by
  obtain ⟨h1, _, _, h4⟩ := dvR_ok (n := n) hb (figs n a).reverse [] 0 hb (fun d hd => figs_lt (List.mem_reverse.mp hd)) (fun q h => nomatch h)
  rw [List.reverse_reverse, valL_figs_all hn] at h4
  generalize valL n (dvR n b (figs n a).reverse [] 0).1.reverse = q at h4 ⊢
  generalize (dvR n b (figs n a).reverse [] 0).2 = r at h1 h4 ⊢
  simp [valL] at h4
  rw [Nat.mul_comm] at h4
  have := (Nat.div_mod_unique (a := a) (d := q) hb).mpr ⟨by rw [Nat.add_comm]; exact h4, h1⟩
  exact ⟨this.1.symm, this.2.symm⟩
section
variable {prog : Program} {w : World} {ht : Heap} {mg mb : Str → Option Value} {Ua Ub : TabSpec} {μ : Store} {n : Nat}
theorem k_dp (C : Ctx ht mg mb Ua Ub) (hpa : Ua.pos = ⟨32, 4, 41, 28⟩) (hqa : Ua.qual = q4) (hpb : Ub.pos = ⟨47, 4, 52, 55⟩) (hqb : Ub.qual = q5) : Says prog w (tbOf [Ua, Ub]) ht mg n "_divmod_pos" fun f => ∀ (x y : Nat) (μ : Store) (Post : AV → Store → Prop),
    0 < y → Builtin.Int.intBits (y : Int) ≤ 4000 → x < 2 ^ (Builtin.Int.intBits (y : Int) * 60) → Post (.p (.tup [iv (x / y), iv (x % y)])) μ → TC prog w (tbOf [Ua, Ub]) ht (n + 9) f [.p (iv x), .p (iv y)] μ Post := by
  obtain ⟨cd, hf⟩ := C.fn 6 (by decide)
  refine hf.says fun a o pm ho hd hcd x y μ Post hy hyk hx hP => ?_
  obtain ⟨fi, gi, ci, ki⟩ := k_i2d (prog := prog) (w := w) (n := n) C hpa hqa
  obtain ⟨fd, gd, cd', kd⟩ := k_d2i (prog := prog) (w := w) (n := n) C hpb hqb
  obtain ⟨f2, g2, c2, k2⟩ := k_d2 (prog := prog) (w := w) (Z := tbOf [Ua, Ub]) (n := n + 7) C
  refine TC.def C.base ho hd hcd rfl (pn := ["a", "b"]) (bind2 fun _ _ => rfl) rfl rfl rfl (by rfl) (by rfl) rfl rfl rfl fun L => ?_
  obtain ⟨k, hk⟩ : ∃ k, Builtin.Int.intBits (y : Int) = k := ⟨_, rfl⟩
  rw [hk] at hx hyk
  have hk0 : 0 < k := by
    refine Nat.pos_of_ne_zero fun q => ?_
    rw [q] at hk
    have := intBits_le_iff.mp (Nat.le_of_eq hk)
    simp at this; omega
  have hyb : y < 2 ^ k := by
    have := intBits_le_iff.mp (Nat.le_of_eq hk)
    simpa using this
  have hlen := figs_length hk0 hx
  repeat walk_at "mine"
  refine TE.meth0 (id := "int.bit_length") ?_
  repeat walk_at "mine"
  refine ⟨gm_bitlen, ?_⟩
  repeat walk_at "mine"
  rw [show V.int ((Builtin.Int.intBits (y : Int) : Nat) : Int) = iv k from by rw [hk]]
  refine TE.callG C.base gi ci rfl ?_
  repeat walk_at "mine"
  refine ki x k _ _ hk0 (by omega) hx ?_
  repeat walk_at "mine"
  refine TE.lstM ?_
  repeat walk_at "mine"
  refine ⟨[], rfl, Nat.le_of_ble_eq_true rfl, ?_⟩
  repeat walk_at "mine"
  refine T1.for (TI.rev (TE.blt C.base (C.nog _ (by decide)) C.brev rfl ⟨rfl, ?_⟩)) (.inl rfl)
  repeat walk_at "mine"
  refine ⟨_, .inl rfl, ?_⟩
  rw [← List.map_reverse]
  have hget : ∀ l : List V, (μ ++ [l])[μ.length]? = some l := fun l => by simp
  have hset : ∀ l l' : List V, List.set (μ ++ [l]) μ.length l' = μ ++ [l'] := fun l l' => by simp
  have key : ∀ (ds qs : List Nat) (r : Nat) (ρ : Rho) (Q : Fl → Rho → Store → Prop), r < y → (∀ d ∈ ds, d < 2 ^ k) → qs.length + ds.length ≤ 60 → ρ "b" = some (.p (iv y)) → ρ "n" = some (.p (iv k)) → ρ "r" = some (.p (iv r)) → ρ "q_digits" = some (.m μ.length) →
      (∀ ρ' : Rho, ρ' "b" = some (.p (iv y)) → ρ' "n" = some (.p (iv k)) → ρ' "r" = some (.p (iv (dvR k y ds qs r).2)) → ρ' "q_digits" = some (.m μ.length) → Q .next ρ' (μ ++ [(dvR k y ds qs r).1.map iv])) →
      ForI prog w (tbOf [Ua, Ub]) ht (n + 8) (defF (fdAt 6 pm cd) L a) "a_digit" (match bodyAt 6 with | _ :: _ :: _ :: _ :: .For _ _ b _ _ :: _ => b | _ => []) (fun μ => IsL μ (.p (.lst ((figs k x).map iv))) ((figs k x).map iv)) Q (ds.map iv) ρ (μ ++ [qs.map iv]) := by
    intro ds
    induction ds with
    | nil =>
      intro qs r ρ Q hr _ hl h1 h2 h3 h4 hQ
      exact hQ ρ h1 h2 h3 h4
    | cons d ds ih =>
      intro qs r ρ Q hr hds hl h1 h2 h3 h4 hQ
      have hd0 := hds d List.mem_cons_self
      show TS _ _ _ _ _ _ (_ :: _) _ _ _
      walk_at "mine"
      refine T1.assignTup (l := [("q_digit", _), ("r", _)]) ?_ (fun q hq => ?_)
      · refine TE.callG C.base g2 c2 rfl ?_
        repeat walk_at "mine"
        have hrb : Builtin.Int.intBits ((r : Nat) : Int) ≤ k := intBits_le_iff.mpr (by rw [Int.natAbs_natCast]; omega)
        refine o_shl (by omega) (by omega) ?_
        repeat walk_at "mine"
        have e1 : ((r : Nat) : Int) * 2 ^ ((k : Nat) : Int).toNat + ((d : Nat) : Int) = ((r * 2 ^ k + d : Nat) : Int) := by
          rw [Int.toNat_natCast, Int.natCast_add, Int.natCast_mul, Int.natCast_pow]; rfl
        rw [e1]
        refine k2 _ _ _ _ _ (by omega) ?_ ?_ ?_
        · rw [Int.natAbs_natCast]
          refine Nat.lt_of_le_of_lt ?_ (show k < 9000 by omega)
          exact Nat.le_of_lt_succ (Nat.lt_succ_of_lt ((Nat.log2_lt (by omega)).mpr hyb))
        · have : Builtin.Int.intBits ((r * 2 ^ k + d : Nat) : Int) ≤ k + k := intBits_le_iff.mpr (by
            rw [Int.natAbs_natCast, Nat.pow_add]
            have : (r + 1) * 2 ^ k ≤ 2 ^ k * 2 ^ k := Nat.mul_le_mul_right _ (by omega)
            rw [Nat.add_mul, Nat.one_mul] at this
            omega)
          omega
        rw [nat_div_int, nat_mod_int]
        refine ⟨[iv ((r * 2 ^ k + d) / y), iv ((r * 2 ^ k + d) % y)], rfl, rfl, ?_⟩
        show thenS _ _ _ _ _ _ _ _ Fl.next (upd (upd (upd ρ "a_digit" (.p (iv d))) "q_digit" (.p (iv ((r * 2 ^ k + d) / y)))) "r" (.p (iv ((r * 2 ^ k + d) % y)))) _
        walk_at "mine"
        walk_at "mine"
        walk_at "mine"
        refine TE.meth (id := "list.append") ?_
        repeat walk_at "mine"
        refine ⟨gm_list (.inr ⟨_, rfl, hget _⟩) PySem.F.slot_list_append PySem.F.type_list_append, ?_⟩
        repeat walk_at "mine"
        refine tc_append (hget _) (by simp; simp at hl; omega) ?_
        rw [hset]
        repeat walk_at "mine"
        refine ⟨.inl rfl, ?_⟩
        have ea : qs.map iv ++ [iv ((r * 2 ^ k + d) / y)] = (qs ++ [(r * 2 ^ k + d) / y]).map iv := by simp
        rw [ea]
        exact ih (qs ++ [(r * 2 ^ k + d) / y]) ((r * 2 ^ k + d) % y) _ Q (Nat.mod_lt _ hy) (fun z hz => hds z (List.mem_cons_of_mem _ hz)) (by simp at hl ⊢; omega) (by walk_at "look") (by walk_at "look") (by walk_at "look") (by walk_at "look") hQ
      · rcases List.mem_cons.mp hq with rfl | hq
        · exact .inl rfl
        · rcases List.mem_cons.mp hq with rfl | hq
          · exact .inl rfl
          · cases hq
  have hdl : ∀ d ∈ (figs k x).reverse, d < 2 ^ k := fun d hd => figs_lt (List.mem_reverse.mp hd)
  refine key (figs k x).reverse [] 0 _ _ hy hdl (by simp; omega) rfl rfl rfl rfl ?_
  intro ρ' h1 h2 h3 h4
  obtain ⟨d1, d2⟩ := dvR_div (a := x) hk0 hy
  have dok := dvR_ok (n := k) hy (figs k x).reverse [] 0 hy hdl (fun q h => nomatch h)
  rw [← d1, ← d2] at hP
  generalize dvR k y (figs k x).reverse [] 0 = D at h3 hP dok ⊢
  repeat walk_at "mine"
  refine TE.meth0 (id := "list.reverse") ?_
  repeat walk_at "mine"
  refine ⟨gm_list (.inr ⟨_, rfl, hget _⟩) PySem.F.slot_list_reverse PySem.F.type_list_reverse, ?_⟩
  refine tc_reverse (hget _) (by rw [List.length_map, dok.2.2.1]; simp; omega) ?_
  rw [hset, ← List.map_reverse]
  repeat walk_at "mine"
  refine TE.callG C.base gd cd' rfl ?_
  repeat walk_at "mine"
  refine kd _ k _ _ _ (.inr ⟨_, rfl, hget _⟩) (fun q hq => dok.2.1 q (List.mem_reverse.mp hq)) (by rw [List.length_reverse, dok.2.2.1]; simp; omega) (by omega) ?_
  repeat walk_at "mine"
  refine ⟨[iv (valL k D.1.reverse), iv D.2], rfl, Nat.le_of_ble_eq_true rfl, ?_⟩
  repeat walk_at "mine"
  show Post _ _
  rw [List.take_left]
  exact hP
theorem k_idm (C : Ctx ht mg mb Ua Ub) (hpa : Ua.pos = ⟨32, 4, 41, 28⟩) (hqa : Ua.qual = q4) (hpb : Ub.pos = ⟨47, 4, 52, 55⟩) (hqb : Ub.qual = q5) : Says prog w (tbOf [Ua, Ub]) ht mg n "int_divmod" fun f => ∀ (x y : Nat) (μ : Store) (Post : AV → Store → Prop),
    0 < y → Builtin.Int.intBits (y : Int) ≤ 4000 → x < 2 ^ (Builtin.Int.intBits (y : Int) * 60) → Post (.p (.tup [iv (x / y), iv (x % y)])) μ → TC prog w (tbOf [Ua, Ub]) ht (n + 10) f [.p (iv x), .p (iv y)] μ Post := by
  obtain ⟨cd, hf⟩ := C.fn 7 (by decide)
  refine hf.says fun a o pm ho hd hcd x y μ Post hy hyk hx hP => ?_
  obtain ⟨fp, gp, cp, kp⟩ := k_dp (prog := prog) (w := w) (n := n) C hpa hqa hpb hqb
  refine TC.def C.base ho hd hcd rfl (pn := ["a", "b"]) (bind2 fun _ _ => rfl) rfl rfl rfl (by rfl) (by rfl) rfl rfl rfl fun L => ?_
  repeat walk_at "mine"
  rw [show (((y : Nat) : Int) == 0) = false from beq_eq_false_iff_ne.mpr (by omega)]
  show TS _ _ _ _ _ _ _ _ _ _
  repeat walk_at "mine"
  rw [show decide (((y : Nat) : Int) < 0) = false from decide_eq_false (by omega)]
  show TS _ _ _ _ _ _ _ _ _ _
  repeat walk_at "mine"
  rw [show decide (((x : Nat) : Int) < 0) = false from decide_eq_false (by omega)]
  show TS _ _ _ _ _ _ _ _ _ _
  repeat walk_at "mine"
  refine TE.callG C.base gp cp rfl ?_
  repeat walk_at "mine"
  refine kp x y _ _ hy hyk hx ?_
  repeat walk_at "mine"
  show Post _ _
  rw [List.take_of_length_le (Nat.le_refl _)]
  exact hP
end

section
variable {prog : Program} {w : World} {ht : Heap} {mg mb : Str → Option Value} {Ua Ub : TabSpec} {μ : Store} {n : Nat}
structure CountOk (barred : List Nat) (M : Mx) (sz : List Nat) (wd sb sa : Nat) : Prop where
  b3 : barred.length ≤ 3
  m3 : M3 M
  s3 : sz.length = 3
  s4 : ∀ s ∈ sz, s ≤ 4
  w0 : 0 < wd
  w60 : wd ≤ 60
  eb : setsC barred M sz ((2 ^ wd : Nat) : Int) = (sb : Nat)
  ea : setsC [0, 1, 2] M sz ((2 ^ wd : Nat) : Int) = (sa : Nat)
  a0 : 0 < sa
  a1 : sa < 2 ^ 4000
  b1 : sb < 2 ^ 4000
  top : (2 ^ wd) ^ 8 * sb < 2 ^ (Builtin.Int.intBits (sa : Int) * 60)
  quo : (2 ^ wd) ^ 8 * sb / sa < 2 ^ (wd * 60)
theorem natpow (a k : Nat) : ((a : Nat) : Int) ^ ((k : Nat) : Int).toNat = ((a ^ k : Nat) : Int) := by rw [Int.toNat_natCast, Int.natCast_pow]
theorem k_counts (C : Ctx ht mg mb Ua Ub) (hpa : Ua.pos = ⟨32, 4, 41, 28⟩) (hqa : Ua.qual = q4) (hpb : Ub.pos = ⟨47, 4, 52, 55⟩) (hqb : Ub.qual = q5) : Says prog w (tbOf [Ua, Ub]) ht mg n "_law_counts" fun f => ∀ (barred : List Nat) (M : Mx) (sz : List Nat) (wd sb sa : Nat) (μ : Store) (Post : AV → Store → Prop),
    CountOk barred M sz wd sb sa → Post (.p (.lst ((figs wd ((2 ^ wd) ^ 8 * sb / sa)).reverse.map iv))) μ → TC prog w (tbOf [Ua, Ub]) ht (n + 11) f [.p (.lst (barred.map iv)), .p (mv M), .p (.lst (sz.map iv)), .p (iv wd)] μ Post := by
  obtain ⟨cd, hf⟩ := C.fn 19 (by decide)
  refine hf.says fun a o pm ho hd hcd barred M sz wd sb sa μ Post K hP => ?_
  obtain ⟨fs, gs, cs, ks⟩ := k_sets (prog := prog) (w := w) (Z := tbOf [Ua, Ub]) (n := n + 9) C
  obtain ⟨fi, gi, ci, ki⟩ := k_i2d (prog := prog) (w := w) (n := n + 2) C hpa hqa
  obtain ⟨fm, gm, cm, km⟩ := k_idm (prog := prog) (w := w) (n := n) C hpa hqa hpb hqb
  refine TC.def C.base ho hd hcd rfl (pn := ["barred", "loose", "sizes", "width"]) (bind4 fun _ _ _ _ => rfl) rfl rfl rfl (by rfl) (by rfl) rfl rfl rfl fun L => ?_
  have hw := K.w60
  have hbase : 2 ^ wd ≤ 2 ^ 60 := Nat.pow_le_pow_right (by decide) hw
  have hbb : Builtin.Int.intBits ((2 ^ wd : Nat) : Int) ≤ 61 := intBits_le_iff.mpr (by rw [Int.natAbs_natCast]; exact Nat.lt_of_le_of_lt hbase (by decide))
  have hb0 : (0 : Int) ≤ ((2 ^ wd : Nat) : Int) := Int.natCast_nonneg _
  have hb1 : ((2 ^ wd : Nat) : Int) < 2 ^ 64 := Int.lt_of_le_of_lt (Int.ofNat_le.mpr hbase) (by decide)
  repeat walk_at "mine"
  refine o_pow (by omega) (by have : Builtin.Int.intBits 2 = 2 := by decide
                              rw [this]; omega) ?_
  rw [show (2 : Int) ^ ((wd : Nat) : Int).toNat = ((2 ^ wd : Nat) : Int) from natpow 2 wd]
  repeat walk_at "mine"
  refine o_pow (by decide) (by omega) ?_
  rw [show ((2 ^ wd : Nat) : Int) ^ (8 : Int).toNat = (((2 ^ wd) ^ 8 : Nat) : Int) from natpow (2 ^ wd) 8]
  repeat walk_at "mine"
  refine TE.callG C.base gs cs rfl ?_
  repeat walk_at "mine"
  refine ks barred M sz _ _ _ K.b3 K.m3 K.s3 K.s4 hb0 hb1 ?_
  rw [K.eb]
  refine o_mul (IntMulOk.of_bits ?_ ?_) ?_
  · refine intBits_le_iff.mpr ?_
    rw [Int.natAbs_natCast, ← Nat.pow_mul]
    exact Nat.pow_lt_pow_right (by decide) (by omega)
  · exact Nat.le_trans (intBits_le_iff.mpr (by rw [Int.natAbs_natCast]; exact K.b1)) (by decide +kernel)
  rw [show (((2 ^ wd) ^ 8 : Nat) : Int) * ((sb : Nat) : Int) = (((2 ^ wd) ^ 8 * sb : Nat) : Int) from by rw [Int.natCast_mul]]
  walk_at "mine"
  walk_at "mine"
  refine T1.assignTup (l := [("quotient", _), ("rest", _)]) ?_ (fun q hq => ?_)
  · refine TE.callG C.base gm cm rfl ?_
    repeat walk_at "mine"
    refine TE.callG C.base gs cs rfl ?_
    repeat walk_at "mine"
    refine TE.lst ?_
    repeat walk_at "mine"
    refine ⟨[0, 1, 2].map iv, rfl, Nat.le_of_ble_eq_true rfl, ?_⟩
    repeat walk_at "mine"
    refine ks [0, 1, 2] M sz _ _ _ (by decide) K.m3 K.s3 K.s4 hb0 hb1 ?_
    rw [K.ea]
    repeat walk_at "mine"
    refine km _ sa _ _ K.a0 (intBits_le_iff.mpr (by rw [Int.natAbs_natCast]; exact K.a1)) K.top ?_
    refine ⟨[iv ((2 ^ wd) ^ 8 * sb / sa), iv ((2 ^ wd) ^ 8 * sb % sa)], rfl, rfl, ?_⟩
    show thenS _ _ _ _ _ _ _ _ Fl.next (upd (upd _ "quotient" (.p (iv ((2 ^ wd) ^ 8 * sb / sa)))) "rest" (.p (iv ((2 ^ wd) ^ 8 * sb % sa)))) _
    walk_at "mine"
    walk_at "mine"
    walk_at "mine"
    refine TE.sliceL ?_
    refine TE.callG C.base gi ci rfl ?_
    repeat walk_at "mine"
    refine ki _ wd _ _ K.w0 (by omega) K.quo ?_
    show TE _ _ _ _ _ _ _ _ _ _
    repeat walk_at "mine"
    refine ⟨by decide, _, .inl rfl, ?_, ?_⟩
    · rw [List.length_map]
      exact Nat.le_trans (figs_length K.w0 K.quo) (by decide)
    rw [pick_rev, ← List.map_reverse]
    repeat walk_at "mine"
    show Post _ _
    rw [List.take_of_length_le (Nat.le_refl _)]
    exact hP
  · rcases List.mem_cons.mp hq with rfl | hq
    · exact .inl rfl
    · rcases List.mem_cons.mp hq with rfl | hq
      · exact .inl rfl
      · cases hq
end

section
variable {prog : Program} {w : World} {ht : Heap} {mg mb : Str → Option Value} {Ua Ub : TabSpec} {μ : Store} {n : Nat}
def frac (a b : Int) : UInt64 := Float64.ofFrac (decide (a < 0) != decide (b < 0)) a.natAbs b.natAbs
def hueI (c : Int) : Int := c.fmod 32
def satI (c : Int) : Int := (c.fdiv 32).fmod 4 + 1
def valI (c : Int) : Int := (c.fdiv 128).fmod 4 + 1
def rgbA (c : Int) : UInt64 × UInt64 × UInt64 := hsvR (frac (hueI c) 16) (frac (satI c) 4) (frac (valI c) 4)
def toldA (c : Int) : UInt64 × UInt64 × UInt64 := rgbR (rgbA c).1 (rgbA c).2.1 (rgbA c).2.2
def sixteen : UInt64 := Float64.ofInt 16
def four : UInt64 := Float64.ofInt 4
structure ColOk (c : Int) : Prop where
  i1 : Float64.isInf (frac (hueI c) 16) = false
  i2 : Float64.isInf (frac (satI c) 4) = false
  i3 : Float64.isInf (frac (valI c) 4) = false
  h : hsvOk (frac (hueI c) 16) (frac (satI c) 4) (frac (valI c) 4) = true
  r : rgbOk (rgbA c).1 (rgbA c).2.1 (rgbA c).2.2 = true
  f1 : isFin (Float64.mul sixteen (toldA c).1) = true
  f2 : isFin (Float64.mul four (toldA c).2.2) = true
  t1 : trunc64 (Float64.mul sixteen (toldA c).1) = c.fmod 16
  t2 : trunc64 (Float64.mul four (toldA c).2.2) = valI c
def barN (T : Int) : List Nat := (List.range 3).filter fun k => ((T.fdiv 8).fdiv (2 ^ k)).fmod 2 == 1
def valN (c : Int) : Nat := (valI c).toNat
def ciS (ns : List Int) (k : Int) : Int := (pickI ns (some k) none (some 3)).sum
def keepW (M : Mx) (barred : List Nat) (p : P2) : Bool := barred.all fun k => !endsR M k p.2.reverse
structure LawOk (c0 c1 c2 T : Int) (M : Mx) (sz : List Nat) (wd s0 sb sa : Nat) (every spared : List Nat) (lg Fu : Nat) (r : List P2) : Prop where
  col : ∀ c ∈ [c0, c1, c2], ColOk c
  t : T = 3 + (c0 + (c1 + (c2 + 0)))
  m : M = looseM [hueI c0, hueI c1, hueI c2] (T.fmod 8)
  m' : M = looseM [c0.fmod 16, c1.fmod 16, c2.fmod 16] (T.fmod 8)
  esz : sz = [valN c0, valN c1, valN c2]
  ewd : 20 + T.fmod 9 = (wd : Nat)
  k0 : CountOk [] M sz wd s0 sa
  kb : CountOk (barN T) M sz wd sb sa
  ev : (figs wd ((2 ^ wd) ^ 8 * s0 / sa)).reverse = every
  sp : (figs wd ((2 ^ wd) ^ 8 * sb / sa)).reverse = spared
  elg : ((List.range 9).filter fun k => decide ((((every.take (k + 1)).sum : Nat) : Int) ≤ 26 - (T.fdiv 64).fmod 15)).length = lg + 1
  fu : Fu ≤ 900
  run : wRun M sz lg Fu [p0] = some r
  r64 : r.length < 64
  asc : Asc (r.map cv)
  lets : ∀ p ∈ r, Lets p ∧ p.2.length ≤ 1000
  c1 : (List.range (lg + 1)).map (fun k => (r.map (·.1)).count k) = every.take (lg + 1)
  c2 : (List.range (lg + 1)).map (fun k => ((r.filter (keepW M (barN T))).map (·.1)).count k) = spared.take (lg + 1)
theorem valI_nat (c : Int) : iv (valN c) = V.int (valI c) := by
  have : 0 ≤ valI c := by
    have := Int.fmod_nonneg_of_pos (c.fdiv 128) (show (0 : Int) < 4 by decide)
    unfold valI; omega
  show V.int (((valI c).toNat : Nat) : Int) = _
  rw [Int.toNat_of_nonneg this]
theorem fm_wv {q : P2 → Bool} {g : V → Option V} : ∀ {r : List P2}, (∀ p ∈ r, g (wv (cv p)) = if q p then some (iv p.1) else none) → ((r.map cv).map wv).filterMap g = ((r.filter q).map (·.1)).map iv
  | [], _ => rfl
  | p :: r, h => by
    rw [List.map_cons, List.map_cons, List.filterMap_cons, h p List.mem_cons_self, List.filter_cons]
    cases q p with
    | true => show _ :: _ = _; rw [fm_wv fun j hj => h j (List.mem_cons_of_mem _ hj)]; rfl
    | false => show _ = _; rw [if_neg (by simp)]; exact fm_wv fun j hj => h j (List.mem_cons_of_mem _ hj)
theorem zs_count (l : List Nat) (k : Nat) : (zs l).count (k : Int) = l.count k := by
  unfold zs
  induction l with
  | nil => rfl
  | cons a l ih =>
    rw [List.map_cons, List.count_cons, List.count_cons, ih]
    congr 1
    by_cases q : a = k
    · subst q; simp
    · rw [show ((a : Int) == (k : Int)) = false from beq_eq_false_iff_ne.mpr (by omega), show (a == k) = false from beq_eq_false_iff_ne.mpr q]
theorem filter_none {q : Nat → Bool} : ∀ l : List Nat, (l.filter q).isEmpty = l.all fun k => !q k
  | [] => rfl
  | a :: l => by
    rw [List.filter_cons, List.all_cons]
    cases q a with
    | true => rfl
    | false => rw [if_neg (by simp), filter_none l]; rfl
theorem st_back (u : List Nat) : (st u).cps.toList.map (· - 97) = u := by
  unfold st
  rw [List.map_map]
  conv => rhs; rw [← List.map_id u]
  apply List.map_congr_left
  intro x _
  show x + 97 - 97 = x
  omega
theorem fm_natsF {h : Nat → Nat} {g : V → Option V} : ∀ {l : List Nat}, (∀ k ∈ l, g (iv k) = some (iv (h k))) → (l.map iv).filterMap g = (l.map h).map iv
  | [], _ => rfl
  | k :: l, e => by
    rw [List.map_cons, List.filterMap_cons, e k List.mem_cons_self]
    show _ :: _ = _
    rw [fm_natsF fun j hj => e j (List.mem_cons_of_mem _ hj)]; rfl
theorem pow2_fdiv {k : Nat} : (2 : Int) ^ ((k : Nat) : Int).toNat = 2 ^ k := by rw [Int.toNat_natCast]
theorem k_lawB (C : Ctx ht mg mb Ua Ub) (hpa : Ua.pos = ⟨32, 4, 41, 28⟩) (hqa : Ua.qual = q4) (hpb : Ub.pos = ⟨47, 4, 52, 55⟩) (hqb : Ub.qual = q5) {a L : Addr} {pm cd : Value}
    {c0 c1 c2 T : Int} {M : Mx} {sz : List Nat} {wd s0 sb sa : Nat} {every spared : List Nat} {lg Fu : Nat} {r : List P2} {μ : Store} {Post : AV → Store → Prop}
    (K : LawOk c0 c1 c2 T M sz wd s0 sb sa every spared lg Fu r) (hP : Post (.p (.bool true)) μ) {ρ : Rho} (h1 : ρ "cells" = some (.p (.lst [.int c0, .int c1, .int c2]))) (h2 : ρ "total" = some (.p (.int T))) (h3 : ρ "told" = some (.m μ.length)) :
    TS prog w (tbOf [Ua, Ub]) ht (n + 11) (defF (fdAt 23 pm cd) L a) ((bodyAt 23).drop 4) ρ (μ ++ [[f3 (toldA c0), f3 (toldA c1), f3 (toldA c2)]]) fun fl ρ' μ' => RetP μ Post fl μ' := by
  obtain ⟨flo, glo, clo, klo⟩ := k_loose (prog := prog) (w := w) (Z := tbOf [Ua, Ub]) (n := n + 10) C
  obtain ⟨fco, gco, cco, kco⟩ := k_counts (prog := prog) (w := w) (n := n) C hpa hqa hpb hqb
  obtain ⟨fwo, gwo, cwo, kwo⟩ := k_words (prog := prog) (w := w) (Z := tbOf [Ua, Ub]) (n := n + 7) C
  obtain ⟨fen, gen, cen, ken⟩ := k_ends (prog := prog) (w := w) (Z := tbOf [Ua, Ub]) (n := n + 10) C
  have own : ∀ x ∈ (["total", "barred", "every", "most", "seen", "came", "kept"] : List Str), x ∈ (defF (fdAt 23 pm cd) L a).wc := by
    show ∀ x ∈ (["total", "barred", "every", "most", "seen", "came", "kept"] : List Str), x ∈ ownC (scopeAt 23).names
    decide +kernel
  generalize hμ : μ ++ [[f3 (toldA c0), f3 (toldA c1), f3 (toldA c2)]] = μ1
  have hget : μ1[μ.length]? = some [f3 (toldA c0), f3 (toldA c1), f3 (toldA c2)] := by rw [← hμ]; simp
  have htake : μ1.take μ.length = μ := by rw [← hμ]; simp
  show TS _ _ _ _ _ _ (_ :: _) _ _ _
  walk_at "mine"
  walk_at "mine"
  refine TE.callG C.base glo clo rfl ?_
  walk_at "mine"
  refine TE.compN (.of rfl (by rfl) (by rfl) (by rfl)) (fun C => .inl rfl) ?_
  refine TI.list ?_
  repeat walk_at "mine"
  refine ⟨_, .inl rfl, rfl, Nat.le_of_ble_eq_true rfl, fun v => match v with | .int i => some (.int (hueI i)) | _ => none, fun D v hv => ?_, ?_⟩
  · obtain ⟨i, rfl⟩ : ∃ i, v = .int i := by
      rcases List.mem_cons.mp hv with rfl | hv
      · exact ⟨_, rfl⟩
      · rcases List.mem_cons.mp hv with rfl | hv
        · exact ⟨_, rfl⟩
        · exact ⟨_, List.mem_singleton.mp hv⟩
    show TE _ _ _ _ _ _ _ _ _ _
    repeat walk_at "mine"
    refine o_mod (by decide) ?_
    repeat walk_at "mine"
    rfl
  repeat walk_at "mine"
  refine o_mod (by decide) ?_
  repeat walk_at "mine"
  refine klo [hueI c0, hueI c1, hueI c2] _ _ _ (Nat.le_of_ble_eq_true rfl) ?_
  rw [← K.m]
  walk_at "mine"
  walk_at "mine"
  refine T1.assignCompN (.of rfl (by rfl) (by rfl) (by rfl)) (.inl rfl) (fun C => .inl rfl) ?_
  refine TI.list ?_
  repeat walk_at "mine"
  refine ⟨_, .inl rfl, rfl, Nat.le_of_ble_eq_true rfl, fun v => match v with | .int i => some (.int (valI i)) | _ => none, fun D v hv => ?_, ?_⟩
  · obtain ⟨i, rfl⟩ : ∃ i, v = .int i := by
      rcases List.mem_cons.mp hv with rfl | hv
      · exact ⟨_, rfl⟩
      · rcases List.mem_cons.mp hv with rfl | hv
        · exact ⟨_, rfl⟩
        · exact ⟨_, List.mem_singleton.mp hv⟩
    show TE _ _ _ _ _ _ _ _ _ _
    repeat walk_at "mine"
    refine o_fdiv (by decide) (by decide) ?_
    repeat walk_at "mine"
    refine o_mod (by decide) ?_
    repeat walk_at "mine"
    rfl
  have esz : sz.map iv = [V.int (valI c0), V.int (valI c1), V.int (valI c2)] := by
    rw [K.esz, ← valI_nat, ← valI_nat, ← valI_nat]; rfl
  rw [show List.filterMap (fun v => match v with | V.int i => some (V.int (valI i)) | _ => none) [V.int c0, V.int c1, V.int c2] = sz.map iv from esz.symm]
  walk_at "mine"
  walk_at "mine"
  refine T1.assign (TE.compN (.of rfl (by rfl) (by rfl) (by rfl)) (fun C => .inl rfl) ?_) (.inr (own _ (by decide)))
  refine TI.rng ?_
  repeat walk_at "mine"
  refine ⟨by decide, by decide, rfl, by decide, fun v => match v with | .int i => if ((T.fdiv 8).fdiv (2 ^ i.toNat)).fmod 2 == 1 then some (.int i) else none | _ => none, fun D v hv => ?_, ?_⟩
  · obtain ⟨k, hk, rfl⟩ := List.mem_map.mp hv
    have hk3 : k < 3 := List.mem_range.mp hk
    show TB _ _ _ _ _ _ _ _ _ _
    repeat walk_at "mine"
    refine o_fdiv (by decide) (by decide) ?_
    repeat walk_at "mine"
    refine o_pow (by omega) (by have : Builtin.Int.intBits 2 = 2 := by decide
                                rw [this]; omega) ?_
    repeat walk_at "mine"
    refine o_fdiv (pow2_ok hk3).1 (pow2_ok hk3).2 ?_
    repeat walk_at "mine"
    refine o_mod (by decide) ?_
    repeat walk_at "mine"
    have eg : (fun v => match v with | V.int i => if ((T.fdiv 8).fdiv (2 ^ i.toNat)).fmod 2 == 1 then some (V.int i) else none | _ => none) (V.int (k : Nat)) = if ((T.fdiv 8).fdiv (2 ^ ((k : Nat) : Int).toNat)).fmod 2 == 1 then some (V.int (k : Nat)) else none := rfl
    cases e0 : (((T.fdiv 8).fdiv (2 ^ ((k : Nat) : Int).toNat)).fmod 2 == 1) with
    | true =>
      rw [e0] at eg
      show TE _ _ _ _ _ _ _ _ _ _
      repeat walk_at "mine"
      exact eg
    | false =>
      rw [e0] at eg
      exact eg
  have eb : (rngVs 3).filterMap (fun v => match v with | .int i => if ((T.fdiv 8).fdiv (2 ^ i.toNat)).fmod 2 == 1 then some (.int i) else none | _ => none) = (barN T).map iv := by
    show ((List.range 3).map iv).filterMap _ = _
    unfold barN
    exact fm_nats fun k _ => rfl
  rw [eb]
  repeat walk_at "mine"
  refine o_mod (by decide) ?_
  repeat walk_at "mine"
  rw [show V.int (20 + T.fmod 9) = iv wd from by rw [K.ewd]]
  refine T1.assign ?_ (.inr (own _ (by decide)))
  refine TE.callG C.base gco cco rfl ?_
  repeat walk_at "mine"
  refine TE.lst ?_
  repeat walk_at "mine"
  refine ⟨[], rfl, Nat.le_of_ble_eq_true rfl, ?_⟩
  repeat walk_at "mine"
  refine kco [] M sz wd s0 sa _ _ K.k0 ?_
  rw [K.ev]
  repeat walk_at "mine"
  refine TE.callG C.base gco cco rfl ?_
  repeat walk_at "mine"
  refine kco (barN T) M sz wd sb sa _ _ K.kb ?_
  rw [K.sp]
  walk_at "mine"
  walk_at "mine"
  refine T1.assign ?_ (.inr (own _ (by decide)))
  repeat walk_at "mine"
  refine o_fdiv (by decide) (by decide) ?_
  repeat walk_at "mine"
  refine o_mod (by decide) ?_
  repeat walk_at "mine"
  have hev : every.length ≤ 60 := by
    rw [← K.ev, List.length_reverse]
    exact figs_length K.k0.w0 K.k0.quo
  refine TE.compN (.of rfl (by rfl) (by rfl) (by rfl)) (fun C => .inl rfl) ?_
  refine TI.rng ?_
  repeat walk_at "mine"
  refine ⟨by decide, by decide, rfl, by decide, fun v => match v with | .int i => if decide ((((every.take (i.toNat + 1)).sum : Nat) : Int) ≤ 26 - (T.fdiv 64).fmod 15) then some (.int i) else none | _ => none, fun D v hv => ?_, ?_⟩
  · obtain ⟨k, hk, rfl⟩ := List.mem_map.mp hv
    have hk9 : k < 9 := List.mem_range.mp hk
    show TB _ _ _ _ _ _ _ _ _ _
    repeat walk_at "mine"
    refine ⟨by decide, _, .inl rfl, by rw [List.length_map]; omega, ?_⟩
    rw [show ((k : Nat) : Int) + 1 = ((k + 1 : Nat) : Int) from rfl, pick_upto, ← List.map_take]
    repeat walk_at "mine"
    refine c_sum (ns := zs (every.take (k + 1))) (.inl (by rw [ivs])) ?_
    rw [zs_sum]
    repeat walk_at "mine"
    have eg : (fun v => match v with | V.int i => if decide ((((every.take (i.toNat + 1)).sum : Nat) : Int) ≤ 26 - (T.fdiv 64).fmod 15) then some (V.int i) else none | _ => none) (V.int (k : Nat)) = if decide ((((every.take (((k : Nat) : Int).toNat + 1)).sum : Nat) : Int) ≤ 26 - (T.fdiv 64).fmod 15) then some (V.int (k : Nat)) else none := rfl
    rw [Int.toNat_natCast] at eg
    cases e0 : decide ((((every.take (k + 1)).sum : Nat) : Int) ≤ 26 - (T.fdiv 64).fmod 15) with
    | true =>
      rw [e0] at eg
      show TE _ _ _ _ _ _ _ _ _ _
      repeat walk_at "mine"
      exact eg
    | false =>
      rw [e0] at eg
      exact eg
  have el : (rngVs 9).filterMap (fun v => match v with | .int i => if decide ((((every.take (i.toNat + 1)).sum : Nat) : Int) ≤ 26 - (T.fdiv 64).fmod 15) then some (.int i) else none | _ => none) = ((List.range 9).filter fun k => decide ((((every.take (k + 1)).sum : Nat) : Int) ≤ 26 - (T.fdiv 64).fmod 15)).map iv := by
    show ((List.range 9).map iv).filterMap _ = _
    exact fm_nats fun k _ => rfl
  rw [el]
  repeat walk_at "mine"
  refine c_len (.inl rfl) (by rw [List.length_map]; exact Nat.le_trans (List.length_filter_le _ _) (by decide)) ?_
  rw [List.length_map, K.elg]
  repeat walk_at "mine"
  rw [show (((lg + 1 : Nat) : Int)) - 1 = (lg : Nat) from by omega]
  refine T1.assign ?_ (.inr (own _ (by decide)))
  refine TE.callG C.base glo clo rfl ?_
  walk_at "mine"
  have htold : ∀ v ∈ [f3 (toldA c0), f3 (toldA c1), f3 (toldA c2)], ∃ c, v = f3 (toldA c) ∧ ColOk c := fun v hv => by
    rcases List.mem_cons.mp hv with rfl | hv
    · exact ⟨_, rfl, K.col c0 (by simp)⟩
    · rcases List.mem_cons.mp hv with rfl | hv
      · exact ⟨_, rfl, K.col c1 (by simp)⟩
      · exact ⟨_, List.mem_singleton.mp hv, K.col c2 (by simp)⟩
  refine TE.compN (.of rfl (by rfl) (by rfl) (by rfl)) (fun C => .inl rfl) ?_
  refine TI.list ?_
  repeat walk_at "mine"
  refine ⟨_, .inr ⟨_, rfl, hget⟩, rfl, Nat.le_of_ble_eq_true rfl, fun v => match v with | .tup (.flt h :: _) => some (.int (trunc64 (Float64.mul sixteen h))) | _ => none, fun D v hv => ?_, ?_⟩
  · obtain ⟨c, rfl, kc⟩ := htold v hv
    show TE _ _ _ _ _ _ _ _ _ _
    repeat walk_at "mine"
    refine i_tup (by decide) (by decide) (x := .flt (toldA c).1) rfl ?_
    refine f_mul_if (by decide +kernel) ?_
    repeat walk_at "mine"
    refine c_int64 kc.f1 ?_
    exact ⟨rfl, _, rfl, rfl⟩
  have es : List.filterMap (fun v => match v with | V.tup (.flt h :: _) => some (V.int (trunc64 (Float64.mul sixteen h))) | _ => none) [f3 (toldA c0), f3 (toldA c1), f3 (toldA c2)] = [c0.fmod 16, c1.fmod 16, c2.fmod 16].map V.int := by
    show [V.int (trunc64 (Float64.mul sixteen (toldA c0).1)), V.int (trunc64 (Float64.mul sixteen (toldA c1).1)), V.int (trunc64 (Float64.mul sixteen (toldA c2).1))] = _
    rw [(K.col c0 (by simp)).t1, (K.col c1 (by simp)).t1, (K.col c2 (by simp)).t1]; rfl
  rw [es]
  repeat walk_at "mine"
  refine o_mod (by decide) ?_
  repeat walk_at "mine"
  refine klo _ _ _ _ (Nat.le_of_ble_eq_true rfl) ?_
  rw [← K.m']
  walk_at "mine"
  walk_at "mine"
  walk_at "mine"
  refine TE.callG C.base gwo cwo rfl ?_
  walk_at "mine"
  walk_at "mine"
  walk_at "mine"
  refine TE.compN (.of rfl (by rfl) (by rfl) (by rfl)) (fun C => .inl rfl) ?_
  refine TI.list ?_
  repeat walk_at "mine"
  refine ⟨_, .inr ⟨_, rfl, hget⟩, rfl, Nat.le_of_ble_eq_true rfl, fun v => match v with | .tup (_ :: _ :: .flt h :: _) => some (.int (trunc64 (Float64.mul four h))) | _ => none, fun D v hv => ?_, ?_⟩
  · obtain ⟨c, rfl, kc⟩ := htold v hv
    show TE _ _ _ _ _ _ _ _ _ _
    repeat walk_at "mine"
    refine i_tup (by decide) (by decide) (x := .flt (toldA c).2.2) rfl ?_
    refine f_mul_if (by decide +kernel) ?_
    repeat walk_at "mine"
    refine c_int64 kc.f2 ?_
    exact ⟨rfl, _, rfl, rfl⟩
  have ez : List.filterMap (fun v => match v with | V.tup (_ :: _ :: .flt h :: _) => some (V.int (trunc64 (Float64.mul four h))) | _ => none) [f3 (toldA c0), f3 (toldA c1), f3 (toldA c2)] = sz.map fun (i : Nat) => V.int (i : Nat) := by
    show [V.int (trunc64 (Float64.mul four (toldA c0).2.2)), V.int (trunc64 (Float64.mul four (toldA c1).2.2)), V.int (trunc64 (Float64.mul four (toldA c2).2.2))] = sz.map iv
    rw [(K.col c0 (by simp)).t2, (K.col c1 (by simp)).t2, (K.col c2 (by simp)).t2, esz]
  rw [ez]
  repeat walk_at "mine"
  refine kwo M sz lg Fu r _ _ K.k0.m3 K.k0.s3 K.fu K.run ?_
  repeat walk_at "mine"
  refine c_sorted (.inl rfl) K.asc (by rw [List.length_map]; exact K.r64) ?_
  refine w_ne (.inl rfl) (.inl rfl) ?_
  refine ⟨_, rfl, ?_⟩
  show TS _ _ _ _ _ _ _ _ _ _
  repeat walk_at "mine"
  have hlg : lg + 1 ≤ 9 := by
    rw [← K.elg]; exact Nat.le_trans (List.length_filter_le _ _) (by decide)
  have hrl : ((r.map cv).map wv).length ≤ 1000000 := by
    rw [List.length_map, List.length_map]; have := K.r64; omega
  have hokT : ∀ (k : Nat) (p p1 p2 : Pos), ∀ v ∈ (r.map cv).map wv, (Tgt.tup [("size", p1), ("word", p2)] k p).ok v := fun k p p1 p2 v hv => by
    obtain ⟨q, _, rfl⟩ := List.mem_map.mp hv
    exact ⟨_, rfl, rfl⟩
  refine T1.assign (TE.compT (l := [("size", _), ("word", _)]) (.of rfl (by rfl) (by rfl) (by rfl)) (fun C q hq => ?_) ?_) (.inr (own _ (by decide)))
  · rcases List.mem_cons.mp hq with rfl | hq
    · exact .inl rfl
    · rw [List.mem_singleton.mp hq]; exact .inl rfl
  refine TI.list ?_
  repeat walk_at "mine"
  refine ⟨_, .inl rfl, rfl, hrl, hokT _ _ _ _, fun v => match v with | .tup (.int i :: _) => some (.int i) | _ => none, fun D v hv => ?_, ?_⟩
  · obtain ⟨q, hq, rfl⟩ := List.mem_map.mp hv
    obtain ⟨p, hp, rfl⟩ := List.mem_map.mp hq
    show TE _ _ _ _ _ _ _ (upd (upd (mask _ _) "size" (.p (.int (p.1 : Nat)))) "word" (.p (.str (st p.2)))) _ _
    repeat walk_at "mine"
    rfl
  rw [fm_wv (q := fun _ => true) (fun p _ => rfl), show List.filter (fun _ => true) r = r from List.filter_eq_self.mpr (fun _ _ => rfl)]
  walk_at "mine"
  walk_at "mine"
  walk_at "mine"
  walk_at "mine"
  refine TE.compN (.of rfl (by rfl) (by rfl) (by rfl)) (fun C => .inl rfl) ?_
  refine TI.rng ?_
  repeat walk_at "mine"
  have ern : rngVs ((lg : Nat) + 1) = (List.range (lg + 1)).map iv := by
    unfold rngVs
    rw [show (((lg : Nat) : Int) + 1).toNat = lg + 1 from by omega]
  refine ⟨by omega, by omega, rfl, by rw [ern]; simp; omega, fun v => match v with | .int i => some (iv ((r.map (·.1)).count i.toNat)) | _ => none, fun D v hv => ?_, ?_⟩
  · rw [ern] at hv
    obtain ⟨k, hk, rfl⟩ := List.mem_map.mp hv
    show TE _ _ _ _ _ _ _ _ _ _
    refine TE.meth (id := "list.count") ?_
    repeat walk_at "mine"
    refine ⟨gm_list (.inl rfl) PySem.F.slot_list_count PySem.F.type_list_count, ?_⟩
    repeat walk_at "mine"
    refine c_count (ns := zs (r.map (·.1))) (.inl (by rw [ivs])) ?_
    rw [zs_count]
    exact ⟨rfl, _, rfl, rfl⟩
  rw [ern, fm_natsF (h := fun k => (r.map (·.1)).count k) (fun k _ => rfl), K.c1]
  repeat walk_at "mine"
  refine ⟨by decide, _, .inl rfl, by rw [List.length_map]; omega, ?_⟩
  rw [show ((lg : Nat) : Int) + 1 = ((lg + 1 : Nat) : Int) from rfl, pick_upto, ← List.map_take]
  refine l_ne (ns := zs (every.take (lg + 1))) (ms := zs (every.take (lg + 1))) (.inl (by rw [ivs])) (.inl (by rw [ivs])) ?_
  rw [decide_eq_true rfl]
  refine ⟨_, rfl, ?_⟩
  show TS _ _ _ _ _ _ _ _ _ _
  repeat walk_at "mine"
  refine T1.assign (TE.compT (l := [("size", _), ("word", _)]) (.of rfl (by rfl) (by rfl) (by rfl)) (fun C q hq => ?_) ?_) (.inr (own _ (by decide)))
  · rcases List.mem_cons.mp hq with rfl | hq
    · exact .inl rfl
    · rw [List.mem_singleton.mp hq]; exact .inr (List.mem_singleton.mpr rfl)
  refine TI.list ?_
  repeat walk_at "mine"
  have hb3 : (barN T).length ≤ 3 := K.kb.b3
  have hbk : ∀ k ∈ barN T, k < 3 := fun k hk => List.mem_range.mp (List.mem_filter.mp hk).1
  refine ⟨_, .inl rfl, rfl, hrl, hokT _ _ _ _, fun v => match v with | .tup (.int i :: .str x :: _) => if keepW M (barN T) (i.toNat, x.cps.toList.map (· - 97)) then some (.int i) else none | _ => none, fun D v hv => ?_, ?_⟩
  · obtain ⟨q, hq, rfl⟩ := List.mem_map.mp hv
    obtain ⟨p, hp, rfl⟩ := List.mem_map.mp hq
    obtain ⟨hlet, hlp⟩ := K.lets p hp
    show TB _ _ _ _ _ _ _ (upd (upd (mask _ _) "size" (.p (.int (p.1 : Nat)))) "word" (.p (.str (st p.2)))) _ _
    walk_at "mine"
    refine TE.compN (.of rfl (by rfl) (by rfl) (by rfl)) (fun C => .inl rfl) ?_
    refine TI.list ?_
    repeat walk_at "mine"
    refine ⟨_, .inl rfl, rfl, by rw [List.length_map]; omega, fun v => match v with | .int i => if endsR M i.toNat p.2.reverse then some (.int i) else none | _ => none, fun D' v hv => ?_, ?_⟩
    · obtain ⟨k, hk, rfl⟩ := List.mem_map.mp hv
      show TB _ _ _ _ _ _ _ _ _ _
      walk_at "mine"
      refine TE.callG C.base gen cen rfl ?_
      repeat walk_at "mine"
      refine ken p.2 k M _ _ hlet (hbk k hk) K.k0.m3 hlp ?_
      repeat walk_at "mine"
      have eg : (fun v => match v with | V.int i => if endsR M i.toNat p.2.reverse then some (V.int i) else none | _ => none) (V.int (k : Nat)) = if endsR M ((k : Nat) : Int).toNat p.2.reverse then some (V.int (k : Nat)) else none := rfl
      rw [Int.toNat_natCast] at eg
      cases e0 : endsR M k p.2.reverse with
      | true =>
        rw [e0] at eg
        show TE _ _ _ _ _ _ _ _ _ _
        repeat walk_at "mine"
        exact eg
      | false =>
        rw [e0] at eg
        exact eg
    have ek : ((barN T).map iv).filterMap (fun v => match v with | .int i => if endsR M i.toNat p.2.reverse then some (.int i) else none | _ => none) = ((barN T).filter fun k => endsR M k p.2.reverse).map iv := fm_nats fun k _ => rfl
    rw [ek]
    repeat walk_at "mine"
    refine TE.lst ?_
    repeat walk_at "mine"
    refine ⟨[], rfl, Nat.le_of_ble_eq_true rfl, ?_⟩
    refine l_eq (ns := zs ((barN T).filter fun k => endsR M k p.2.reverse)) (ms := []) (.inl (by rw [ivs])) (.inl rfl) ?_
    rw [zs_nil, filter_none]
    refine ⟨_, rfl, rfl, ?_⟩
    have eg : (fun v => match v with | V.tup (.int i :: .str x :: _) => if keepW M (barN T) (i.toNat, x.cps.toList.map (· - 97)) then some (V.int i) else none | _ => none) (wv (cv p)) = if keepW M (barN T) (((p.1 : Nat) : Int).toNat, (st p.2).cps.toList.map (· - 97)) then some (V.int (p.1 : Nat)) else none := rfl
    rw [Int.toNat_natCast, st_back] at eg
    show (match keepW M (barN T) p with | true => _ | false => _)
    cases e0 : keepW M (barN T) p with
    | true =>
      rw [show ((p.1, p.2) : P2) = p from rfl, e0] at eg
      show TE _ _ _ _ _ _ _ _ _ _
      repeat walk_at "mine"
      exact eg
    | false =>
      rw [show ((p.1, p.2) : P2) = p from rfl, e0] at eg
      exact eg
  rw [fm_wv (q := keepW M (barN T)) (fun p _ => by
    show (if keepW M (barN T) (((p.1 : Nat) : Int).toNat, (st p.2).cps.toList.map (· - 97)) then some (V.int (p.1 : Nat)) else none) = _
    rw [Int.toNat_natCast, st_back])]
  walk_at "mine"
  walk_at "mine"
  walk_at "mine"
  walk_at "mine"
  refine TE.compN (.of rfl (by rfl) (by rfl) (by rfl)) (fun C => .inl rfl) ?_
  refine TI.rng ?_
  repeat walk_at "mine"
  refine ⟨by omega, by omega, rfl, by rw [ern]; simp; omega, fun v => match v with | .int i => some (iv (((r.filter (keepW M (barN T))).map (·.1)).count i.toNat)) | _ => none, fun D v hv => ?_, ?_⟩
  · rw [ern] at hv
    obtain ⟨k, hk, rfl⟩ := List.mem_map.mp hv
    show TE _ _ _ _ _ _ _ _ _ _
    refine TE.meth (id := "list.count") ?_
    repeat walk_at "mine"
    refine ⟨gm_list (.inl rfl) PySem.F.slot_list_count PySem.F.type_list_count, ?_⟩
    repeat walk_at "mine"
    refine c_count (ns := zs ((r.filter (keepW M (barN T))).map (·.1))) (.inl (by rw [ivs])) ?_
    rw [zs_count]
    exact ⟨rfl, _, rfl, rfl⟩
  rw [ern, fm_natsF (h := fun k => ((r.filter (keepW M (barN T))).map (·.1)).count k) (fun k _ => rfl), K.c2]
  have hsp : spared.length ≤ 60 := by
    rw [← K.sp, List.length_reverse]
    exact figs_length K.kb.w0 K.kb.quo
  repeat walk_at "mine"
  refine ⟨by decide, _, .inl rfl, by rw [List.length_map]; omega, ?_⟩
  rw [show ((lg : Nat) : Int) + 1 = ((lg + 1 : Nat) : Int) from rfl, pick_upto, ← List.map_take]
  refine l_eq (ns := zs (spared.take (lg + 1))) (ms := zs (spared.take (lg + 1))) (.inl (by rw [ivs])) (.inl (by rw [ivs])) ?_
  rw [decide_eq_true rfl]
  repeat walk_at "mine"
  show Post _ _
  rw [htake]
  exact hP
end

section
variable {prog : Program} {w : World} {ht : Heap} {mg mb : Str → Option Value} {Ua Ub : TabSpec} {μ : Store} {n : Nat}
def rhoC (ρ : Rho) (c : Int) : Rho := upd (upd (upd (upd ρ "cell" (.p (.int c))) "red" (.p (.flt (rgbA c).1))) "green" (.p (.flt (rgbA c).2.1))) "blue" (.p (.flt (rgbA c).2.2))
theorem k_law (C : Ctx ht mg mb Ua Ub) (hpa : Ua.pos = ⟨32, 4, 41, 28⟩) (hqa : Ua.qual = q4) (hpb : Ub.pos = ⟨47, 4, 52, 55⟩) (hqb : Ub.qual = q5) {a : Addr} {o : Obj} {pm cd : Value} (ho : ht.get? a = some o) (hd : o.data = .func (fdAt 23 pm cd)) (hcd : ht.CodeRec cd (nameAt 23))
    {ns : List Int} {T : Int} {M : Mx} {sz : List Nat} {wd s0 sb sa : Nat} {every spared : List Nat} {lg Fu : Nat} {r : List P2} {μ : Store} {Post : AV → Store → Prop} (hns : ns.length ≤ 1000)
    (K : LawOk (208 + ciS ns 0) (263 + ciS ns 1) (122 + ciS ns 2) T M sz wd s0 sb sa every spared lg Fu r) (hP : Post (.p (.bool true)) μ) : TC prog w (tbOf [Ua, Ub]) ht (n + 12) (.ref a) [.p (.lst (ns.map V.int))] μ Post := by
  refine TC.def C.base ho hd hcd rfl (pn := ["script"]) (bind1 fun _ => rfl) rfl rfl rfl (by rfl) (by rfl) rfl rfl rfl fun L => ?_
  generalize hc0 : 208 + ciS ns 0 = c0 at K
  generalize hc1 : 263 + ciS ns 1 = c1 at K
  generalize hc2 : 122 + ciS ns 2 = c2 at K
  unfold ciS at hc0 hc1 hc2
  have own : ∀ x ∈ (["total", "barred", "every", "most", "seen", "came", "kept"] : List Str), x ∈ (defF (fdAt 23 pm cd) L a).wc := by
    show ∀ x ∈ (["total", "barred", "every", "most", "seen", "came", "kept"] : List Str), x ∈ ownC (scopeAt 23).names
    decide +kernel
  have slen : (ns.map V.int).length ≤ 1000000 := by rw [List.length_map]; omega
  have hget : ∀ l : List V, (μ ++ [l])[μ.length]? = some l := fun l => by simp
  have hset : ∀ l l' : List V, List.set (μ ++ [l]) μ.length l' = μ ++ [l'] := fun l l' => by simp
  have one : ∀ (c : Int) (ts : List V) (ρ : Rho) (Q : Fl → Rho → Store → Prop), ColOk c → ts.length ≤ 10 → ρ "told" = some (.m μ.length) → Q .next (rhoC ρ c) (μ ++ [ts ++ [f3 (toldA c)]]) →
      TS prog w (tbOf [Ua, Ub]) ht (n + 11) (defF (fdAt 23 pm cd) L a) (match bodyAt 23 with | _ :: _ :: _ :: .For _ _ b _ _ :: _ => b | _ => []) (upd ρ "cell" (.p (.int c))) (μ ++ [ts]) Q := by
    intro c ts ρ Q K hts h1 hQ
    obtain ⟨fhs, ghs, chs, khs⟩ := k_hsv (prog := prog) (w := w) (Z := tbOf [Ua, Ub]) (n := n + 10) (μ := μ ++ [ts]) C
    obtain ⟨frg, grg, crg, krg⟩ := k_rgb (prog := prog) (w := w) (Z := tbOf [Ua, Ub]) (n := n + 10) (μ := μ ++ [ts]) C
    show TS _ _ _ _ _ _ (_ :: _) _ _ _
    walk_at "mine"
    refine T1.assignTup (l := [("red", _), ("green", _), ("blue", _)]) ?_ (fun q hq => ?_)
    · refine TE.callG C.base ghs chs rfl ?_
      repeat walk_at "mine"
      refine o_mod (by decide) ?_
      repeat walk_at "mine"
      refine f_frac (by decide) (fun q => Bool.false_ne_true (K.i1.symm.trans q)) ?_
      repeat walk_at "mine"
      refine o_fdiv (by decide) (by decide) ?_
      repeat walk_at "mine"
      refine o_mod (by decide) ?_
      repeat walk_at "mine"
      refine f_frac (by decide) (fun q => Bool.false_ne_true (K.i2.symm.trans q)) ?_
      repeat walk_at "mine"
      refine o_fdiv (by decide) (by decide) ?_
      repeat walk_at "mine"
      refine o_mod (by decide) ?_
      repeat walk_at "mine"
      refine f_frac (by decide) (fun q => Bool.false_ne_true (K.i3.symm.trans q)) ?_
      repeat walk_at "mine"
      refine khs (frac (hueI c) 16) (frac (satI c) 4) (frac (valI c) 4) _ K.h ?_
      refine ⟨[.flt (rgbA c).1, .flt (rgbA c).2.1, .flt (rgbA c).2.2], rfl, rfl, ?_⟩
      show thenS _ _ _ _ _ _ _ _ Fl.next (rhoC ρ c) _
      unfold rhoC
      walk_at "mine"
      walk_at "mine"
      walk_at "mine"
      refine TE.meth (id := "list.append") ?_
      repeat walk_at "mine"
      refine ⟨gm_list (.inr ⟨_, rfl, hget _⟩) PySem.F.slot_list_append PySem.F.type_list_append, ?_⟩
      repeat walk_at "mine"
      refine TE.callG C.base grg crg rfl ?_
      repeat walk_at "mine"
      refine krg _ _ _ _ K.r ?_
      repeat walk_at "mine"
      refine tc_append (hget _) (by omega) ?_
      rw [hset]
      repeat walk_at "mine"
      exact hQ
    · rcases List.mem_cons.mp hq with rfl | hq
      · exact .inl rfl
      · rcases List.mem_cons.mp hq with rfl | hq
        · exact .inl rfl
        · rcases List.mem_cons.mp hq with rfl | hq
          · exact .inl rfl
          · cases hq
  repeat walk_at "mine"
  refine TE.lst ?_
  repeat walk_at "mine"
  refine ⟨by decide, _, .inl rfl, slen, ?_⟩
  rw [pick_ints]
  repeat walk_at "mine"
  refine c_sum (.inl rfl) ?_
  repeat walk_at "mine"
  refine ⟨by decide, _, .inl rfl, slen, ?_⟩
  rw [pick_ints]
  repeat walk_at "mine"
  refine c_sum (.inl rfl) ?_
  repeat walk_at "mine"
  refine ⟨by decide, _, .inl rfl, slen, ?_⟩
  rw [pick_ints]
  repeat walk_at "mine"
  refine c_sum (.inl rfl) ?_
  repeat walk_at "mine"
  refine ⟨[.int _, .int _, .int _], rfl, Nat.le_of_ble_eq_true rfl, ?_⟩
  rw [hc0, hc1, hc2]
  walk_at "mine"
  walk_at "mine"
  refine T1.assign ?_ (.inr (own _ (by decide)))
  repeat walk_at "mine"
  refine c_sum (ns := [c0, c1, c2]) (.inl rfl) ?_
  repeat walk_at "mine"
  rw [show 3 + List.sum [c0, c1, c2] = T from K.t.symm]
  refine TE.lstM ?_
  repeat walk_at "mine"
  refine ⟨[], rfl, Nat.le_of_ble_eq_true rfl, ?_⟩
  walk_at "mine"
  walk_at "mine"
  refine T1.for (TI.list ?_) (.inl rfl)
  repeat walk_at "mine"
  refine ⟨_, .inl rfl, ?_⟩
  have g0 := K.col c0 (by simp)
  have g1 := K.col c1 (by simp)
  have g2 := K.col c2 (by simp)
  refine one c0 [] _ _ g0 (by decide) rfl ⟨.inl rfl, ?_⟩
  refine one c1 [f3 (toldA c0)] _ _ g1 (Nat.le_of_ble_eq_true rfl) rfl ⟨.inl rfl, ?_⟩
  refine one c2 [f3 (toldA c0), f3 (toldA c1)] _ _ g2 (Nat.le_of_ble_eq_true rfl) rfl ⟨.inl rfl, ?_⟩
  show thenS _ _ _ _ _ _ _ _ Fl.next _ (μ ++ [[f3 (toldA c0), f3 (toldA c1), f3 (toldA c2)]])
  walk_at "mine"
  exact k_lawB C hpa hqa hpb hqb K hP rfl rfl rfl
end

def lit {α : Type} (x : UInt64) (k : UInt64 → α) : α := Nat.rec (k 0) (fun m _ => k (UInt64.ofNat (m + 1))) x.toNat
theorem lit_eq {α : Type} (x : UInt64) (k : UInt64 → α) : lit x k = k x := by
  unfold lit
  have h : UInt64.ofNat x.toNat = x := UInt64.ofNat_toNat
  generalize x.toNat = n at h
  subst h
  cases n <;> rfl
def litN {α : Type} (x : Nat) (k : Nat → α) : α := Nat.rec (k 0) (fun m _ => k (m + 1)) x
theorem litN_eq {α : Type} (x : Nat) (k : Nat → α) : litN x k = k x := by cases x <;> rfl
/-- rgb_to_hsv's hue and value, forced -/
def rgbL (r g b : UInt64) (k : UInt64 → UInt64 → Bool) : Bool :=
  lit (fmax3 r g b) fun M => lit (fmin3 r g b) fun m =>
    match Float64.cmp m M == some Ordering.eq with
    | true => false
    | false => lit (Float64.sub M m) fun d => !Float64.isZero M && (!Float64.isZero d && (
      lit (Float64.div (Float64.sub M r) d) fun rc => lit (Float64.div (Float64.sub M g) d) fun gc => lit (Float64.div (Float64.sub M b) d) fun bc =>
        lit (if Float64.cmp r M == some Ordering.eq then Float64.sub bc gc else if Float64.cmp g M == some Ordering.eq then Float64.sub (Float64.add 4611686018427387904 rc) bc else Float64.sub (Float64.add 4616189618054758400 gc) rc) fun h =>
          lit (Float64.divmod (Float64.div h six) one).snd fun h' => k h' M))
def colE (h v : Nat) (r g b : UInt64) : Bool := rgbL r g b fun H V => lit (Float64.mul sixteen H) fun a => lit (Float64.mul four V) fun c => isFin a && (isFin c && ((trunc64 a == ((h % 16 : Nat) : Int)) && (trunc64 c == ((v : Nat) : Int))))
def colL (h s v : Nat) : Bool :=
  lit (frac h 16) fun H => lit (frac s 4) fun S => lit (frac v 4) fun V => lit (Float64.mul H six) fun h6 =>
    !Float64.isInf H && (!Float64.isInf S && (!Float64.isInf V && (!(Float64.cmp S 0 == some Ordering.eq) && (isFin h6 && (!(Float64.isInf (Float64.ofInt (trunc64 h6))) && (
      lit (Float64.sub h6 (Float64.ofInt (trunc64 h6))) fun f => lit (Float64.mul V (Float64.sub one S)) fun p =>
        lit (Float64.mul V (Float64.sub one (Float64.mul S f))) fun q => lit (Float64.mul V (Float64.sub one (Float64.mul S (Float64.sub one f)))) fun t =>
          litN ((trunc64 h6).fmod 6).toNat fun i => match i with
            | 0 => colE h v V t p | 1 => colE h v q V p | 2 => colE h v p V t | 3 => colE h v p q V | 4 => colE h v t p V | 5 => colE h v V p q | _ => false))))))
theorem rgbL_ok {r g b : UInt64} {k : UInt64 → UInt64 → Bool} (h : rgbL r g b k = true) : rgbOk r g b = true ∧ k (rgbR r g b).1 (rgbR r g b).2.2 = true := by
  unfold rgbL at h
  simp only [lit_eq] at h
  cases e0 : (Float64.cmp (fmin3 r g b) (fmax3 r g b) == some Ordering.eq) with
  | true => rw [e0] at h; cases h
  | false =>
    rw [e0] at h
    simp only [Bool.and_eq_true] at h
    obtain ⟨h1, h2, h3⟩ := h
    refine ⟨?_, ?_⟩
    · unfold rgbOk; rw [h1, h2]; simp
    · have e : rgbR r g b = ((Float64.divmod (Float64.div (if Float64.cmp r (fmax3 r g b) == some Ordering.eq then Float64.sub (Float64.div (Float64.sub (fmax3 r g b) b) (Float64.sub (fmax3 r g b) (fmin3 r g b))) (Float64.div (Float64.sub (fmax3 r g b) g) (Float64.sub (fmax3 r g b) (fmin3 r g b)))
          else if Float64.cmp g (fmax3 r g b) == some Ordering.eq then Float64.sub (Float64.add 4611686018427387904 (Float64.div (Float64.sub (fmax3 r g b) r) (Float64.sub (fmax3 r g b) (fmin3 r g b)))) (Float64.div (Float64.sub (fmax3 r g b) b) (Float64.sub (fmax3 r g b) (fmin3 r g b)))
          else Float64.sub (Float64.add 4616189618054758400 (Float64.div (Float64.sub (fmax3 r g b) g) (Float64.sub (fmax3 r g b) (fmin3 r g b)))) (Float64.div (Float64.sub (fmax3 r g b) r) (Float64.sub (fmax3 r g b) (fmin3 r g b)))) six) one).snd,
          Float64.div (Float64.sub (fmax3 r g b) (fmin3 r g b)) (fmax3 r g b), fmax3 r g b) := by
        unfold rgbR
        dsimp only
        rw [if_neg (by rw [e0]; simp)]
      rw [e]
      exact h3
structure ColN (h s v : Nat) : Prop where
  i1 : Float64.isInf (frac (h : Nat) 16) = false
  i2 : Float64.isInf (frac (s : Nat) 4) = false
  i3 : Float64.isInf (frac (v : Nat) 4) = false
  hk : hsvOk (frac (h : Nat) 16) (frac (s : Nat) 4) (frac (v : Nat) 4) = true
  e : let r := hsvR (frac (h : Nat) 16) (frac (s : Nat) 4) (frac (v : Nat) 4); colE h v r.1 r.2.1 r.2.2 = true
theorem colL_ok {h s v : Nat} (H : colL h s v = true) : ColN h s v := by
  unfold colL at H
  simp only [lit_eq, litN_eq, Bool.and_eq_true] at H
  obtain ⟨h1, h2, h3, h4, h5, h6, h7⟩ := H
  refine ⟨by simpa using h1, by simpa using h2, by simpa using h3, by unfold hsvOk; rw [h4, h5, h6]; rfl, ?_⟩
  have b0 : 0 ≤ (trunc64 (Float64.mul (frac (h : Nat) 16) six)).fmod 6 := Int.fmod_nonneg_of_pos _ (by decide)
  unfold hsvR
  dsimp only
  generalize (trunc64 (Float64.mul (frac (h : Nat) 16) six)).fmod 6 = j at b0 h7 ⊢
  obtain ⟨n, rfl⟩ := Int.eq_ofNat_of_zero_le b0
  rw [Int.toNat_natCast] at h7
  have hn : n = 0 ∨ n = 1 ∨ n = 2 ∨ n = 3 ∨ n = 4 ∨ n = 5 ∨ 6 ≤ n := by lia
  rcases hn with rfl | rfl | rfl | rfl | rfl | rfl | hn
  · exact h7
  · exact h7
  · exact h7
  · exact h7
  · exact h7
  · exact h7
  · exfalso
    obtain ⟨m, rfl⟩ : ∃ m, n = m + 6 := ⟨n - 6, by lia⟩
    cases h7
theorem ColN.ok {h s v : Nat} {c : Int} (N : ColN h s v) (e1 : hueI c = (h : Nat)) (e2 : satI c = (s : Nat)) (e3 : valI c = (v : Nat)) (hh : h < 32) : ColOk c := by
  have e := N.e
  dsimp only at e
  unfold colE at e
  obtain ⟨g1, g2⟩ := rgbL_ok e
  simp only [lit_eq, Bool.and_eq_true, beq_iff_eq] at g2
  obtain ⟨g3, g4, g5, g6⟩ := g2
  have er : rgbA c = hsvR (frac (h : Nat) 16) (frac (s : Nat) 4) (frac (v : Nat) 4) := by unfold rgbA; rw [e1, e2, e3]
  have et : toldA c = rgbR (rgbA c).1 (rgbA c).2.1 (rgbA c).2.2 := rfl
  rw [← er] at g1 g3 g4 g5 g6
  rw [← et] at g3 g4 g5 g6
  refine ⟨by rw [e1]; exact N.i1, by rw [e2]; exact N.i2, by rw [e3]; exact N.i3, by rw [e1, e2, e3]; exact N.hk, g1, g3, g4, ?_, by rw [g6, e3]⟩
  rw [g5]
  unfold hueI at e1
  rw [Int.fmod_eq_emod_of_nonneg _ (by decide)] at e1 ⊢
  lia
theorem col_11 : ((List.range 32).all fun h => colL h 1 1) = true := by decide +kernel
theorem col_12 : ((List.range 32).all fun h => colL h 1 2) = true := by decide +kernel
theorem col_13 : ((List.range 32).all fun h => colL h 1 3) = true := by decide +kernel
theorem col_14 : ((List.range 32).all fun h => colL h 1 4) = true := by decide +kernel
theorem col_21 : ((List.range 32).all fun h => colL h 2 1) = true := by decide +kernel
theorem col_22 : ((List.range 32).all fun h => colL h 2 2) = true := by decide +kernel
theorem col_23 : ((List.range 32).all fun h => colL h 2 3) = true := by decide +kernel
theorem col_24 : ((List.range 32).all fun h => colL h 2 4) = true := by decide +kernel
theorem col_31 : ((List.range 32).all fun h => colL h 3 1) = true := by decide +kernel
theorem col_32 : ((List.range 32).all fun h => colL h 3 2) = true := by decide +kernel
theorem col_33 : ((List.range 32).all fun h => colL h 3 3) = true := by decide +kernel
theorem col_34 : ((List.range 32).all fun h => colL h 3 4) = true := by decide +kernel
theorem col_41 : ((List.range 32).all fun h => colL h 4 1) = true := by decide +kernel
theorem col_42 : ((List.range 32).all fun h => colL h 4 2) = true := by decide +kernel
theorem col_43 : ((List.range 32).all fun h => colL h 4 3) = true := by decide +kernel
theorem col_44 : ((List.range 32).all fun h => colL h 4 4) = true := by decide +kernel
theorem col_all {h s v : Nat} (hh : h < 32) (s0 : 1 ≤ s) (s4 : s ≤ 4) (v0 : 1 ≤ v) (v4 : v ≤ 4) : ColN h s v := by
  have k : ∀ {s v : Nat}, ((List.range 32).all fun h => colL h s v) = true → ColN h s v := fun e => colL_ok (List.all_eq_true.mp e h (List.mem_range.mpr hh))
  have hs : s = 1 ∨ s = 2 ∨ s = 3 ∨ s = 4 := by lia
  have hv : v = 1 ∨ v = 2 ∨ v = 3 ∨ v = 4 := by lia
  rcases hs with rfl | rfl | rfl | rfl <;> rcases hv with rfl | rfl | rfl | rfl
  · exact k col_11
  · exact k col_12
  · exact k col_13
  · exact k col_14
  · exact k col_21
  · exact k col_22
  · exact k col_23
  · exact k col_24
  · exact k col_31
  · exact k col_32
  · exact k col_33
  · exact k col_34
  · exact k col_41
  · exact k col_42
  · exact k col_43
  · exact k col_44
theorem colOk (c : Int) : ColOk c := by
  have h1 : 0 ≤ hueI c ∧ hueI c < 32 := ⟨Int.fmod_nonneg_of_pos _ (by decide), Int.fmod_lt_of_pos _ (by decide)⟩
  have h2 : 0 ≤ (c.fdiv 32).fmod 4 ∧ (c.fdiv 32).fmod 4 < 4 := ⟨Int.fmod_nonneg_of_pos _ (by decide), Int.fmod_lt_of_pos _ (by decide)⟩
  have h3 : 0 ≤ (c.fdiv 128).fmod 4 ∧ (c.fdiv 128).fmod 4 < 4 := ⟨Int.fmod_nonneg_of_pos _ (by decide), Int.fmod_lt_of_pos _ (by decide)⟩
  have e2 : satI c = (c.fdiv 32).fmod 4 + 1 := rfl
  have e3 : valI c = (c.fdiv 128).fmod 4 + 1 := rfl
  refine (col_all (h := (hueI c).toNat) (s := (satI c).toNat) (v := (valI c).toNat) (by lia) (by lia) (by lia) (by lia) (by lia)).ok (by lia) (by lia) (by lia) (by lia)

section
variable {α : Type} {lt : α → α → Bool} {d : α}
structure Ord (lt : α → α → Bool) : Prop where
  asym : ∀ a b, lt a b = true → lt b a = false
  tr : ∀ a b c, lt b a = false → lt c b = false → lt c a = false
theorem gs {l : List α} {p i : Nat} {x : α} (hp : p < l.length) : (l.set p x).getD i d = if i = p then x else l.getD i d := by
  simp only [List.getD, List.getElem?_set]
  by_cases h : p = i
  · subst h; simp [hp]
  · rw [if_neg h, if_neg (fun q => h q.symm)]
theorem swap_perm {l : List α} {p q : Nat} {x : α} (hp : p < l.length) (hq : q < l.length) (h : p ≠ q) : ((l.set p (l.getD q d)).set q x).Perm (l.set p x) := by
  have h1 : p < (l.set p x).length := by simp [hp]
  have h2 : q < (l.set p x).length := by simp [hq]
  have := List.set_set_perm (as := l.set p x) h1 h2
  rw [List.set_set] at this
  have e1 : (l.set p x)[q] = l.getD q d := by
    rw [List.getElem_set, if_neg h]; exact List.getElem_eq_getD d
  have e2 : (l.set p x)[p] = x := by rw [List.getElem_set, if_pos rfl]
  rw [e1, e2] at this
  exact this
theorem sdG_perm : ∀ (f : Nat) (l : List α) (x : α) (p : Nat), p < l.length → (sdG lt d f l x p).Perm (l.set p x)
  | 0, l, x, p, hp => List.Perm.refl _
  | f+1, l, x, p, hp => by
    unfold sdG
    split
    · exact List.Perm.refl _
    · rename_i h0
      split
      · have hq : (p - 1) / 2 < p := by lia
        exact (sdG_perm f _ x _ (by rw [List.length_set]; lia)).trans (swap_perm hp (by lia) (by lia))
      · exact List.Perm.refl _
theorem suG_perm (N : Nat) (x : α) : ∀ (f : Nat) (l : List α) (p : Nat), p < l.length → l.length = N → (suG lt d N f l p).2 < N ∧ (suG lt d N f l p).1.length = N ∧ ((suG lt d N f l p).1.set (suG lt d N f l p).2 x).Perm (l.set p x)
  | 0, l, p, hp, hl => ⟨by unfold suG; lia, hl, List.Perm.refl _⟩
  | f+1, l, p, hp, hl => by
    unfold suG
    split
    · rename_i h1
      split
      · rename_i h2
        obtain ⟨a, b, c⟩ := suG_perm N x f (l.set p (l.getD (2 * p + 1 + 1) d)) (2 * p + 1 + 1) (by rw [List.length_set]; lia) (by rw [List.length_set]; lia)
        exact ⟨a, b, c.trans (swap_perm hp (by lia) (by lia))⟩
      · obtain ⟨a, b, c⟩ := suG_perm N x f (l.set p (l.getD (2 * p + 1) d)) (2 * p + 1) (by rw [List.length_set]; lia) (by rw [List.length_set]; lia)
        exact ⟨a, b, c.trans (swap_perm hp (by lia) (by lia))⟩
    · exact ⟨by lia, hl, List.Perm.refl _⟩
/-- the heap's order -/
def HP (lt : α → α → Bool) (d : α) (l : List α) : Prop := ∀ i, 0 < i → i < l.length → lt (l.getD i d) (l.getD ((i - 1) / 2) d) = false
theorem sdG_heap (O : Ord lt) : ∀ (f : Nat) (l : List α) (x : α) (p : Nat), p < l.length → p ≤ f →
    (∀ i, 0 < i → i < l.length → i ≠ p → (i - 1) / 2 ≠ p → lt (l.getD i d) (l.getD ((i - 1) / 2) d) = false) →
    (∀ i, 0 < i → i < l.length → (i - 1) / 2 = p → lt (l.getD i d) x = false) →
    (0 < p → ∀ i, 0 < i → i < l.length → (i - 1) / 2 = p → lt (l.getD i d) (l.getD ((p - 1) / 2) d) = false) → HP lt d (sdG lt d f l x p) := by
  have fin : ∀ (l : List α) (x : α) (p : Nat), p < l.length → (0 < p → lt x (l.getD ((p - 1) / 2) d) = false) →
      (∀ i, 0 < i → i < l.length → i ≠ p → (i - 1) / 2 ≠ p → lt (l.getD i d) (l.getD ((i - 1) / 2) d) = false) →
      (∀ i, 0 < i → i < l.length → (i - 1) / 2 = p → lt (l.getD i d) x = false) → HP lt d (l.set p x) := by
    intro l x p hp h0 h1 h2 i hi hl
    rw [List.length_set] at hl
    rw [gs hp, gs hp]
    by_cases e : i = p
    · subst e
      rw [if_pos rfl, if_neg (by lia)]
      exact h0 hi
    · rw [if_neg e]
      by_cases e2 : (i - 1) / 2 = p
      · rw [if_pos e2]; exact h2 i hi hl e2
      · rw [if_neg e2]; exact h1 i hi hl e e2
  intro f
  induction f with
  | zero =>
    intro l x p hp hf h1 h2 h3
    obtain rfl : p = 0 := by lia
    exact fin l x 0 hp (fun h => absurd h (by lia)) h1 h2
  | succ f ih =>
    intro l x p hp hf h1 h2 h3
    unfold sdG
    split
    · rename_i h0
      subst h0
      exact fin l x 0 hp (fun h => absurd h (by lia)) h1 h2
    · rename_i h0
      have hq : (p - 1) / 2 < p := by lia
      generalize hqq : (p - 1) / 2 = q at *
      split
      · rename_i hlt
        have hxy := O.asym _ _ hlt
        refine ih (l.set p (l.getD q d)) x q (by rw [List.length_set]; lia) (by lia) ?_ ?_ ?_
        · intro i hi hl e1 e2
          rw [List.length_set] at hl
          rw [gs hp, gs hp]
          by_cases e : i = p
          · subst e; exact absurd hqq e2
          · rw [if_neg e]
            by_cases e3 : (i - 1) / 2 = p
            · rw [if_pos e3]; exact h3 (by lia) i hi hl e3
            · rw [if_neg e3]; exact h1 i hi hl e e3
        · intro i hi hl e1
          rw [List.length_set] at hl
          rw [gs hp]
          by_cases e : i = p
          · rw [if_pos e]; exact hxy
          · rw [if_neg e]
            have := h1 i hi hl e (by lia)
            rw [e1] at this
            exact O.tr _ _ _ hxy this
        · intro hq0 i hi hl e1
          rw [List.length_set] at hl
          rw [gs hp, gs hp, if_neg (show (q - 1) / 2 ≠ p by lia)]
          have hqe := h1 q hq0 (by lia) (by lia) (by lia)
          by_cases e : i = p
          · rw [if_pos e]; exact hqe
          · rw [if_neg e]
            have := h1 i hi hl e (by lia)
            rw [e1] at this
            exact O.tr _ _ _ hqe this
      · rename_i hlt
        refine fin l x p hp (fun _ => ?_) h1 h2
        rw [hqq]
        simpa using hlt
theorem suG_heap (O : Ord lt) (N : Nat) : ∀ (f : Nat) (l : List α) (p : Nat), p < l.length → l.length = N → N - p ≤ f →
    (∀ i, 0 < i → i < l.length → i ≠ p → (i - 1) / 2 ≠ p → lt (l.getD i d) (l.getD ((i - 1) / 2) d) = false) →
    (0 < p → ∀ i, 0 < i → i < l.length → (i - 1) / 2 = p → lt (l.getD i d) (l.getD ((p - 1) / 2) d) = false) →
    N ≤ 2 * (suG lt d N f l p).2 + 1 ∧ (∀ i, 0 < i → i < N → i ≠ (suG lt d N f l p).2 → (i - 1) / 2 ≠ (suG lt d N f l p).2 → lt ((suG lt d N f l p).1.getD i d) ((suG lt d N f l p).1.getD ((i - 1) / 2) d) = false) := by
  intro f
  induction f with
  | zero => intro l p hp hl hf; lia
  | succ f ih =>
    intro l p hp hl hf h1 h3
    have step : ∀ c, c < N → (c = 2 * p + 1 ∨ c = 2 * p + 2) → (∀ i, 0 < i → i < N → (i - 1) / 2 = p → i ≠ c → lt (l.getD i d) (l.getD c d) = false) →
        N ≤ 2 * (suG lt d N f (l.set p (l.getD c d)) c).2 + 1 ∧ (∀ i, 0 < i → i < N → i ≠ (suG lt d N f (l.set p (l.getD c d)) c).2 → (i - 1) / 2 ≠ (suG lt d N f (l.set p (l.getD c d)) c).2 → lt ((suG lt d N f (l.set p (l.getD c d)) c).1.getD i d) ((suG lt d N f (l.set p (l.getD c d)) c).1.getD ((i - 1) / 2) d) = false) := by
      intro c hc hcc hs
      refine ih _ c (by rw [List.length_set]; lia) (by rw [List.length_set]; lia) (by lia) ?_ ?_
      · intro i hi hli e1 e2
        rw [List.length_set] at hli
        rw [gs hp, gs hp]
        by_cases e : i = p
        · subst e
          rw [if_pos rfl, if_neg (by lia)]
          exact h3 hi c (by lia) (by lia) (by lia)
        · rw [if_neg e]
          by_cases e3 : (i - 1) / 2 = p
          · rw [if_pos e3]; exact hs i hi (by lia) e3 e1
          · rw [if_neg e3]; exact h1 i hi hli e e3
      · intro hc0 i hi hli e1
        rw [List.length_set] at hli
        rw [gs hp, gs hp, if_neg (show i ≠ p by lia), if_pos (show (c - 1) / 2 = p by lia)]
        have := h1 i hi hli (by lia) (by lia)
        rw [e1] at this
        exact this
    unfold suG
    split
    · rename_i hc
      split
      · rename_i h2
        refine step _ (by lia) (by lia) fun i hi hli e1 e2 => ?_
        obtain rfl : i = 2 * p + 1 := by lia
        exact h2.2
      · rename_i h2
        refine step _ (by lia) (by lia) fun i hi hli e1 e2 => ?_
        obtain rfl : i = 2 * p + 1 + 1 := by lia
        refine O.asym _ _ ?_
        cases e : lt (l.getD (2 * p + 1) d) (l.getD (2 * p + 1 + 1) d) with
        | true => rfl
        | false => exact absurd ⟨by lia, e⟩ h2
    · rename_i hc
      exact ⟨by dsimp only; lia, fun i hi hli e1 e2 => h1 i hi (by lia) e1 e2⟩
theorem heap_min (O : Ord lt) (hr : ∀ a, lt a a = false) {l : List α} (h : HP lt d l) : ∀ i, i < l.length → lt (l.getD i d) (l.getD 0 d) = false := by
  intro i
  induction i using Nat.strongRecOn with
  | ind i ih =>
    intro hi
    by_cases h0 : i = 0
    · subst h0; exact hr _
    · exact O.tr _ _ _ (ih ((i - 1) / 2) (by lia) (by lia)) (h i (by lia) hi)
theorem pushG_heap (O : Ord lt) {l : List α} {x : α} (h : HP lt d l) : HP lt d (pushG lt d l x) := by
  have ga : ∀ i, i < l.length → (l ++ [x]).getD i d = l.getD i d := fun i hi => by simp [List.getD, List.getElem?_append_left hi]
  unfold pushG
  refine sdG_heap O _ _ x _ (by simp) (Nat.le_refl _) (fun i hi hl e1 e2 => ?_) (fun i hi hl e1 => ?_) (fun h0 i hi hl e1 => ?_)
  · simp at hl
    rw [ga i (by lia), ga _ (by lia)]
    exact h i hi (by lia)
  · simp at hl; lia
  · simp at hl; lia
theorem pushG_perm {l : List α} {x : α} : (pushG lt d l x).Perm (l ++ [x]) := by
  unfold pushG
  have := sdG_perm (lt := lt) (d := d) l.length (l ++ [x]) x l.length (by simp)
  rw [show (l ++ [x]).set l.length x = l ++ [x] from by simp] at this
  exact this
theorem popG_ok (O : Ord lt) (hr : ∀ a, lt a a = false) {l : List α} (h : HP lt d l) (hl : 0 < l.length) :
    HP lt d (popG lt d l).2 ∧ ((popG lt d l).1 :: (popG lt d l).2).Perm l ∧ ∀ a ∈ l, lt a (popG lt d l).1 = false := by
  have e1 : (popG lt d l).1 = l.getD 0 d := by unfold popG; split <;> rfl
  have hmin : ∀ a ∈ l, lt a (popG lt d l).1 = false := fun a ha => by
    obtain ⟨i, hi, rfl⟩ := List.mem_iff_getElem.mp ha
    rw [e1, List.getElem_eq_getD d]
    exact heap_min O hr h i hi
  refine ⟨?_, ?_, hmin⟩
  · unfold popG
    split
    · exact fun i hi hl => by simp at hl
    · rename_i hne
      generalize hm : l.dropLast.set 0 (l.getD (l.length - 1) d) = m
      have hml : m.length = l.length - 1 := by rw [← hm]; simp
      have hg : ∀ i, 0 < i → i < m.length → m.getD i d = l.getD i d := fun i hi hl => by
        rw [← hm, gs (by simp; lia), if_neg (by lia)]
        simp only [List.getD]
        rw [List.getElem?_dropLast, if_pos (by lia)]
      show HP lt d (supG lt d m)
      unfold supG
      dsimp only
      obtain ⟨a1, a2, a3⟩ := suG_perm (lt := lt) (d := d) m.length (m.getD 0 d) m.length m 0 (by lia) rfl
      obtain ⟨b1, b2⟩ := suG_heap (lt := lt) (d := d) O m.length m.length m 0 (by lia) rfl (by lia) (fun i hi hl e1 e2 => by
        rw [hg i hi hl, hg _ (by lia) (by lia)]; exact h i hi (by lia)) (fun h0 => absurd h0 (by lia))
      generalize suG lt d m.length m.length m 0 = r at a1 a2 a3 b1 b2
      refine sdG_heap O _ _ _ _ (by rw [List.length_set]; lia) (Nat.le_refl _) (fun i hi hl e1 e2 => ?_) (fun i hi hl e1 => ?_) (fun h0 i hi hl e1 => ?_)
      · rw [List.length_set] at hl
        rw [gs (by lia), gs (by lia), if_neg e1, if_neg e2]
        exact b2 i hi (by lia) e1 e2
      · rw [List.length_set] at hl; lia
      · rw [List.length_set] at hl; lia
  · rw [e1]
    unfold popG
    split
    · rename_i h1
      obtain ⟨a, rfl⟩ := List.length_eq_one_iff.mp h1
      exact List.Perm.refl _
    · rename_i hne
      show (l.getD 0 d :: supG lt d (l.dropLast.set 0 (l.getD (l.length - 1) d))).Perm l
      have hsup : ∀ m : List α, 0 < m.length → (supG lt d m).Perm m := fun m h0 => by
        unfold supG
        dsimp only
        obtain ⟨a1, a2, a3⟩ := suG_perm (lt := lt) (d := d) m.length (m.getD 0 d) m.length m 0 h0 rfl
        refine (sdG_perm _ _ _ _ (by rw [List.length_set]; lia)).trans ?_
        rw [List.set_set]
        refine a3.trans ?_
        cases m with
        | nil => simp at h0
        | cons a m => exact List.Perm.refl _
      obtain ⟨a, t, rfl⟩ : ∃ a t, l = a :: t := by
        cases l with
        | nil => simp at hl
        | cons a t => exact ⟨a, t, rfl⟩
      obtain ⟨u, z, rfl⟩ : ∃ u z, t = u ++ [z] := ⟨t.dropLast, t.getLast (by intro q; subst q; simp at hne), (List.dropLast_concat_getLast _).symm⟩
      have ed : (a :: (u ++ [z])).dropLast = a :: u := by
        rw [← List.cons_append, List.dropLast_concat]
      rw [ed]
      have eg : (a :: (u ++ [z])).getD ((a :: (u ++ [z])).length - 1) d = z := by simp
      rw [eg]
      show (a :: supG lt d (z :: u)).Perm _
      refine ((hsup (z :: u) (by simp)).cons a).trans (List.Perm.cons a ?_)
      exact (List.perm_append_comm (l₁ := [z]) (l₂ := u))
end

theorem plt_irr (a : P2) : plt a a = false := by
  unfold plt; rw [if_pos rfl]; exact decide_eq_false (List.lt_irrefl _)
theorem plt_ord : Ord plt where
  asym := fun a b h => by
    unfold plt at h ⊢
    by_cases e : a.1 = b.1
    · rw [if_pos e] at h
      rw [if_pos e.symm]
      exact decide_eq_false (List.lt_asymm (of_decide_eq_true h))
    · rw [if_neg e] at h
      rw [if_neg (Ne.symm e)]
      have := of_decide_eq_true h
      exact decide_eq_false (by lia)
  tr := fun a b c h1 h2 => by
    unfold plt at h1 h2 ⊢
    by_cases e1 : b.1 = a.1
    · rw [if_pos e1] at h1
      by_cases e2 : c.1 = b.1
      · rw [if_pos e2] at h2
        rw [if_pos (e2.trans e1)]
        refine decide_eq_false (List.not_lt.mpr (List.le_trans (List.not_lt.mp (of_decide_eq_false h1)) (List.not_lt.mp (of_decide_eq_false h2))))
      · rw [if_neg e2] at h2
        rw [if_neg (by lia)]
        have := of_decide_eq_false h2
        exact decide_eq_false (by lia)
    · rw [if_neg e1] at h1
      have h1' := of_decide_eq_false h1
      by_cases e2 : c.1 = b.1
      · rw [if_neg (by lia)]
        exact decide_eq_false (by lia)
      · rw [if_neg e2] at h2
        have := of_decide_eq_false h2
        rw [if_neg (by lia)]
        exact decide_eq_false (by lia)
theorem plt_size {a b : P2} (h : b.1 < a.1) : plt a b = false := by
  unfold plt
  rw [if_neg (by lia)]
  exact decide_eq_false (by lia)

/-! the tree of the words -/
def child (sz : List Nat) (p : P2) (l : Nat) : P2 := (p.1 + sz.getD l 0, p.2 ++ [l])
abbrev CanGo (M : Mx) (sz : List Nat) (lim : Nat) (p : P2) (l : Nat) : Prop := p.1 + sz.getD l 0 ≤ lim ∧ goesR M l p.2.reverse = true
def kid (M : Mx) (sz : List Nat) (lim : Nat) (p : P2) (l : Nat) : List P2 := if CanGo M sz lim p l then [child sz p l] else []
def TT (M : Mx) (sz : List Nat) (lim : Nat) : Nat → P2 → List P2
  | 0, p => [p]
  | f+1, p => p :: ((kid M sz lim p 0).flatMap (TT M sz lim f) ++ ((kid M sz lim p 1).flatMap (TT M sz lim f) ++ (kid M sz lim p 2).flatMap (TT M sz lim f)))
def Sz3 (sz : List Nat) : Prop := 1 ≤ sz.getD 0 0 ∧ 1 ≤ sz.getD 1 0 ∧ 1 ≤ sz.getD 2 0
theorem Sz3.at {sz : List Nat} (h : Sz3 sz) {l : Nat} (hl : l < 3) : 1 ≤ sz.getD l 0 := by
  match l, hl with
  | 0, _ => exact h.1
  | 1, _ => exact h.2.1
  | 2, _ => exact h.2.2
theorem kid_nil {M : Mx} {sz : List Nat} {lim : Nat} {p : P2} {l : Nat} (hs : Sz3 sz) (hl : l < 3) (h : lim ≤ p.1) : kid M sz lim p l = [] := by
  unfold kid
  rw [if_neg]
  rintro ⟨h1, _⟩
  have := hs.at hl
  lia
theorem TT_stable {M : Mx} {sz : List Nat} {lim : Nat} (hs : Sz3 sz) : ∀ (D D' : Nat) (p : P2), lim ≤ p.1 + D → lim ≤ p.1 + D' → TT M sz lim D p = TT M sz lim D' p
  | 0, 0, p, _, _ => rfl
  | 0, D'+1, p, h, _ => by
    unfold TT
    rw [kid_nil hs (by decide) (by lia), kid_nil hs (by decide) (by lia), kid_nil hs (by decide) (by lia)]; rfl
  | D+1, 0, p, _, h => by
    unfold TT
    rw [kid_nil hs (by decide) (by lia), kid_nil hs (by decide) (by lia), kid_nil hs (by decide) (by lia)]; rfl
  | D+1, D'+1, p, h, h' => by
    unfold TT
    have e : ∀ l, l < 3 → (kid M sz lim p l).flatMap (TT M sz lim D) = (kid M sz lim p l).flatMap (TT M sz lim D') := fun l hl => by
      unfold kid
      split
      · have := hs.at hl
        rw [List.flatMap_singleton, List.flatMap_singleton]
        exact TT_stable hs D D' _ (by unfold child; dsimp only; lia) (by unfold child; dsimp only; lia)
      · rfl
    rw [e 0 (by decide), e 1 (by decide), e 2 (by decide)]
theorem TT_unf {M : Mx} {sz : List Nat} {lim : Nat} (hs : Sz3 sz) (p : P2) : TT M sz lim lim p = p :: (kid M sz lim p 0 ++ (kid M sz lim p 1 ++ kid M sz lim p 2)).flatMap (TT M sz lim lim) := by
  rw [TT_stable hs lim (lim + 1) p (by lia) (by lia)]
  rw [TT, List.flatMap_append, List.flatMap_append]
theorem TT_pos {M : Mx} {sz : List Nat} {lim f : Nat} {p : P2} : 0 < (TT M sz lim f p).length := by
  cases f <;> simp [TT]
theorem perm_flatMap {α β : Type} {f : α → List β} {l m : List α} (h : l.Perm m) : (l.flatMap f).Perm (m.flatMap f) := by
  induction h with
  | nil => exact List.Perm.refl _
  | cons a _ ih => rw [List.flatMap_cons, List.flatMap_cons]; exact List.Perm.append_left _ ih
  | swap a b l =>
    rw [List.flatMap_cons, List.flatMap_cons, List.flatMap_cons, List.flatMap_cons, ← List.append_assoc, ← List.append_assoc]
    exact List.Perm.append_right _ List.perm_append_comm
  | trans _ _ ih1 ih2 => exact ih1.trans ih2
theorem stepW_kid {M : Mx} {sz : List Nat} {lim : Nat} {p : P2} {l : Nat} {hs : List P2} (h : HP plt p0 hs) : HP plt p0 (stepW M sz (lim : Nat) p l hs) ∧ (stepW M sz (lim : Nat) p l hs).Perm (hs ++ kid M sz lim p l) := by
  unfold stepW kid
  by_cases c : CanGo M sz lim p l
  · have c' : (p.1 : Int) + ((sz.getD l 0 : Nat) : Int) ≤ (lim : Nat) ∧ goesR M l p.2.reverse = true := ⟨by have := c.1; lia, c.2⟩
    rw [if_pos c', if_pos c]
    exact ⟨pushG_heap plt_ord h, pushG_perm⟩
  · have c' : ¬ ((p.1 : Int) + ((sz.getD l 0 : Nat) : Int) ≤ (lim : Nat) ∧ goesR M l p.2.reverse = true) := fun q => c ⟨by have := q.1; lia, q.2⟩
    rw [if_neg c', if_neg c, List.append_nil]
    exact ⟨h, List.Perm.refl _⟩
theorem flat_len_ge {α β : Type} {f : α → List β} (hf : ∀ a, 0 < (f a).length) : ∀ l : List α, l.length ≤ (l.flatMap f).length
  | [] => Nat.le_refl _
  | a :: l => by
    rw [List.flatMap_cons, List.length_append, List.length_cons]
    have := hf a
    have := flat_len_ge hf l
    lia
theorem mem_kid {M : Mx} {sz : List Nat} {lim : Nat} {p q : P2} {l : Nat} (h : q ∈ kid M sz lim p l) : CanGo M sz lim p l ∧ q = child sz p l := by
  unfold kid at h
  split at h
  · rename_i c
    exact ⟨c, List.mem_singleton.mp h⟩
  · cases h
theorem run_ok {M : Mx} {sz : List Nat} {lim : Nat} (hs : Sz3 sz) (h100 : lim ≤ 100) : ∀ (F : Nat) (H : List P2), F ≤ 100 → HP plt p0 H → (∀ p ∈ H, p.1 ≤ lim ∧ p.2.length ≤ p.1) → (H.flatMap (TT M sz lim lim)).length ≤ F →
    ∃ r, wRun M sz (lim : Nat) F H = some r ∧ r.Perm (H.flatMap (TT M sz lim lim)) ∧ r.Pairwise (fun a b => plt b a = false) ∧ ∀ a ∈ r, ∃ h ∈ H, plt a h = false := by
  intro F
  induction F with
  | zero =>
    intro H _ _ _ hl
    have := flat_len_ge (f := TT M sz lim lim) (fun _ => TT_pos) H
    obtain rfl : H = [] := List.length_eq_zero_iff.mp (by lia)
    exact ⟨[], rfl, List.Perm.refl _, List.Pairwise.nil, fun a h => nomatch h⟩
  | succ F ih =>
    intro H hF hH hb hl
    cases hHe : H.isEmpty with
    | true =>
      obtain rfl := List.isEmpty_iff.mp hHe
      exact ⟨[], rfl, List.Perm.refl _, List.Pairwise.nil, fun a h => nomatch h⟩
    | false =>
      have hpos : 0 < H.length := by
        cases H with
        | nil => cases hHe
        | cons _ _ => simp
      obtain ⟨q1, q2, q3⟩ := popG_ok plt_ord plt_irr hH hpos
      obtain ⟨m, hm⟩ : ∃ m, (popG plt p0 H).1 = m := ⟨_, rfl⟩
      obtain ⟨R, hR⟩ : ∃ R, (popG plt p0 H).2 = R := ⟨_, rfl⟩
      rw [hm] at q2 q3
      rw [hR] at q1 q2
      have hmH : m ∈ H := q2.mem_iff.mp List.mem_cons_self
      have hRH : ∀ p ∈ R, p ∈ H := fun p hp => q2.mem_iff.mp (List.mem_cons_of_mem _ hp)
      obtain ⟨s0, t0⟩ := stepW_kid (M := M) (sz := sz) (lim := lim) (p := m) (l := 0) q1
      obtain ⟨s1, t1⟩ := stepW_kid (M := M) (sz := sz) (lim := lim) (p := m) (l := 1) s0
      obtain ⟨s2, t2⟩ := stepW_kid (M := M) (sz := sz) (lim := lim) (p := m) (l := 2) s1
      have tt : (stepW M sz (lim : Nat) m 2 (stepW M sz (lim : Nat) m 1 (stepW M sz (lim : Nat) m 0 R))).Perm (R ++ (kid M sz lim m 0 ++ (kid M sz lim m 1 ++ kid M sz lim m 2))) := by
        refine t2.trans ?_
        rw [← List.append_assoc, ← List.append_assoc]
        refine List.Perm.append_right _ (t1.trans (List.Perm.append_right _ t0))
      obtain ⟨H', hH'⟩ : ∃ H', stepW M sz (lim : Nat) m 2 (stepW M sz (lim : Nat) m 1 (stepW M sz (lim : Nat) m 0 R)) = H' := ⟨_, rfl⟩
      rw [hH'] at s2 tt
      have eflat : (m :: H'.flatMap (TT M sz lim lim)).Perm (H.flatMap (TT M sz lim lim)) := by
        refine List.Perm.trans ?_ (perm_flatMap q2)
        rw [List.flatMap_cons, TT_unf hs m, List.cons_append]
        refine List.Perm.cons m ((perm_flatMap tt).trans ?_)
        rw [List.flatMap_append]
        exact List.perm_append_comm
      have hlen := eflat.length_eq
      rw [List.length_cons] at hlen
      have hkid : ∀ q, q ∈ kid M sz lim m 0 ++ (kid M sz lim m 1 ++ kid M sz lim m 2) → ∃ l, l < 3 ∧ CanGo M sz lim m l ∧ q = child sz m l := fun q hq => by
        rcases List.mem_append.mp hq with hq | hq
        · exact ⟨0, by decide, mem_kid hq⟩
        · rcases List.mem_append.mp hq with hq | hq
          · exact ⟨1, by decide, mem_kid hq⟩
          · exact ⟨2, by decide, mem_kid hq⟩
      obtain ⟨r2, e2, p2, o2, n2⟩ := ih H' (by lia) s2 (fun p hp => by
        rcases List.mem_append.mp (tt.mem_iff.mp hp) with hp | hp
        · exact hb p (hRH p hp)
        · obtain ⟨l, hl3, c, rfl⟩ := hkid p hp
          have := hs.at hl3
          have := (hb m hmH).2
          have := c.1
          unfold child
          dsimp only
          rw [List.length_append, List.length_singleton]
          lia) (by lia)
      have hRl : R.length ≤ 100 := by
        have h1 := flat_len_ge (f := TT M sz lim lim) (fun _ => TT_pos) H
        have h2 := q2.length_eq
        rw [List.length_cons] at h2
        lia
      refine ⟨m :: r2, ?_, (List.Perm.cons m p2).trans eflat, ?_, ?_⟩
      · have hb' : ¬ H.isEmpty = true := by rw [hHe]; simp
        unfold wRun
        rw [if_neg hb']
        show (if (popG plt p0 H).1.2.length ≤ 100 ∧ (popG plt p0 H).2.length ≤ 100 then (wRun M sz (lim : Nat) F (stepW M sz (lim : Nat) (popG plt p0 H).1 2 (stepW M sz (lim : Nat) (popG plt p0 H).1 1 (stepW M sz (lim : Nat) (popG plt p0 H).1 0 (popG plt p0 H).2)))).map ((popG plt p0 H).1 :: ·) else none) = _
        rw [hm, hR, hH', e2, if_pos ⟨by have := hb m hmH; lia, hRl⟩]
        rfl
      · refine List.pairwise_cons.mpr ⟨fun b hb2 => ?_, o2⟩
        obtain ⟨h, hh, hbh⟩ := n2 b hb2
        rcases List.mem_append.mp (tt.mem_iff.mp hh) with hp | hp
        · exact plt_ord.tr _ _ _ (q3 h (hRH h hp)) hbh
        · obtain ⟨l, hl3, c, rfl⟩ := hkid h hp
          have := hs.at hl3
          exact plt_ord.tr _ _ _ (plt_size (by unfold child; dsimp only; lia)) hbh
      · intro b hb2
        rcases List.mem_cons.mp hb2 with rfl | hb2
        · exact ⟨_, hmH, plt_irr _⟩
        · obtain ⟨h, hh, hbh⟩ := n2 b hb2
          rcases List.mem_append.mp (tt.mem_iff.mp hh) with hp | hp
          · exact ⟨h, hRH h hp, hbh⟩
          · obtain ⟨l, hl3, c, rfl⟩ := hkid h hp
            have := hs.at hl3
            exact ⟨m, hmH, plt_ord.tr _ _ _ (plt_size (by unfold child; dsimp only; lia)) hbh⟩

theorem TT_mem {M : Mx} {sz : List Nat} {lim : Nat} (hs : Sz3 sz) : ∀ (f : Nat) (p : P2), Lets p → p.2.length ≤ p.1 → p.1 ≤ lim → ∀ q ∈ TT M sz lim f p, Lets q ∧ q.2.length ≤ q.1 ∧ p.1 ≤ q.1 ∧ q.1 ≤ lim
  | 0, p, h1, h2, h3, q, hq => by
    obtain rfl := List.mem_singleton.mp hq
    exact ⟨h1, h2, Nat.le_refl _, h3⟩
  | f+1, p, h1, h2, h3, q, hq => by
    have kd : ∀ l, l < 3 → q ∈ (kid M sz lim p l).flatMap (TT M sz lim f) → Lets q ∧ q.2.length ≤ q.1 ∧ p.1 ≤ q.1 ∧ q.1 ≤ lim := fun l hl hq => by
      obtain ⟨c, hc, hq⟩ := List.mem_flatMap.mp hq
      obtain ⟨g, rfl⟩ := mem_kid hc
      have := hs.at hl
      have h := TT_mem hs f (child sz p l) (fun c hc => by
        rcases List.mem_append.mp hc with hc | hc
        · exact h1 c hc
        · rw [List.mem_singleton.mp hc]; exact hl) (by unfold child; dsimp only; rw [List.length_append, List.length_singleton]; lia) g.1 q hq
      exact ⟨h.1, h.2.1, Nat.le_trans (by unfold child; dsimp only; lia) h.2.2.1, h.2.2.2⟩
    unfold TT at hq
    rcases List.mem_cons.mp hq with rfl | hq
    · exact ⟨h1, h2, Nat.le_refl _, h3⟩
    · rcases List.mem_append.mp hq with hq | hq
      · exact kd 0 (by decide) hq
      · rcases List.mem_append.mp hq with hq | hq
        · exact kd 1 (by decide) hq
        · exact kd 2 (by decide) hq
theorem TT_ge {M : Mx} {sz : List Nat} {lim : Nat} : ∀ (f : Nat) (p : P2), ∀ q ∈ TT M sz lim f p, p.1 ≤ q.1
  | 0, p, q, hq => by rw [List.mem_singleton.mp hq]; exact Nat.le_refl _
  | f+1, p, q, hq => by
    have kd : ∀ l, q ∈ (kid M sz lim p l).flatMap (TT M sz lim f) → p.1 ≤ q.1 := fun l hq => by
      obtain ⟨c, hc, hq⟩ := List.mem_flatMap.mp hq
      obtain ⟨g, rfl⟩ := mem_kid hc
      exact Nat.le_trans (by unfold child; dsimp only; lia) (TT_ge f _ q hq)
    unfold TT at hq
    rcases List.mem_cons.mp hq with rfl | hq
    · exact Nat.le_refl _
    · rcases List.mem_append.mp hq with hq | hq
      · exact kd 0 hq
      · rcases List.mem_append.mp hq with hq | hq
        · exact kd 1 hq
        · exact kd 2 hq
theorem TT_lim {M : Mx} {sz : List Nat} {lim k : Nat} (hk : k ≤ lim) : ∀ (f : Nat) (p : P2), (TT M sz lim f p).filter (fun q => q.1 == k) = (TT M sz k f p).filter (fun q => q.1 == k)
  | 0, p => rfl
  | f+1, p => by
    have kd : ∀ l, ((kid M sz lim p l).flatMap (TT M sz lim f)).filter (fun q => q.1 == k) = ((kid M sz k p l).flatMap (TT M sz k f)).filter (fun q => q.1 == k) := fun l => by
      unfold kid
      by_cases c : CanGo M sz k p l
      · have c' : CanGo M sz lim p l := ⟨Nat.le_trans c.1 hk, c.2⟩
        rw [if_pos c, if_pos c', List.flatMap_singleton, List.flatMap_singleton]
        exact TT_lim hk f _
      · rw [if_neg c]
        by_cases c' : CanGo M sz lim p l
        · rw [if_pos c', List.flatMap_singleton]
          show _ = []
          refine List.filter_eq_nil_iff.mpr fun q hq => ?_
          have h1 := TT_ge f _ q hq
          have h2 : k < (child sz p l).1 := Nat.lt_of_not_le fun h => c ⟨h, c'.2⟩
          simp only [beq_iff_eq]
          lia
        · rw [if_neg c']; rfl
    unfold TT
    rw [List.filter_cons, List.filter_cons, List.filter_append, List.filter_append, List.filter_append, List.filter_append, kd 0, kd 1, kd 2]
theorem TT_len {M : Mx} {sz : List Nat} {lim : Nat} : ∀ (f : Nat) (p : P2), (TT M sz lim f p).length ≤ 4 ^ f
  | 0, p => by simp [TT]
  | f+1, p => by
    have kd : ∀ l, ((kid M sz lim p l).flatMap (TT M sz lim f)).length ≤ 4 ^ f := fun l => by
      unfold kid
      split
      · rw [List.flatMap_singleton]; exact TT_len f _
      · simp
    unfold TT
    rw [List.length_cons, List.length_append, List.length_append]
    have h0 := kd 0; have h1 := kd 1; have h2 := kd 2
    have : 0 < 4 ^ f := Nat.pow_pos (by decide)
    rw [Nat.pow_succ]
    lia
/-- how many of the nodes of length k are kept -/
def cntW (q : P2 → Bool) (L : List P2) (k : Nat) : Nat := ((L.filter q).map (·.1)).count k
theorem cntW_filter {q : P2 → Bool} {L : List P2} {k : Nat} : cntW q L k = cntW q (L.filter fun p => p.1 == k) k := by
  unfold cntW
  induction L with
  | nil => rfl
  | cons p L ih =>
    rw [List.filter_cons, List.filter_cons]
    cases hq : q p with
    | false =>
      rw [if_neg (by simp)]
      cases hk : (p.1 == k) with
      | false => rw [if_neg (by simp)]; exact ih
      | true => rw [if_pos rfl, List.filter_cons, hq, if_neg (by simp)]; exact ih
    | true =>
      rw [if_pos rfl, List.map_cons, List.count_cons, ih]
      cases hk : (p.1 == k) with
      | false => rw [if_neg (by simp), if_neg (by simp)]; rfl
      | true => rw [if_pos rfl, if_pos rfl, List.filter_cons, hq, if_pos rfl, List.map_cons, List.count_cons, hk, if_pos rfl]
theorem cntW_lim {M : Mx} {sz : List Nat} {lim lim' k f : Nat} {q : P2 → Bool} {p : P2} (h1 : k ≤ lim) (h2 : k ≤ lim') : cntW q (TT M sz lim f p) k = cntW q (TT M sz lim' f p) k := by
  rw [cntW_filter, TT_lim h1, cntW_filter (L := TT M sz lim' f p), TT_lim h2]
theorem cntW_le {q : P2 → Bool} {L : List P2} {k : Nat} : cntW q L k ≤ L.length := by
  unfold cntW
  refine Nat.le_trans List.count_le_length ?_
  rw [List.length_map]
  exact List.length_filter_le _ _

/-! the packed count -/
def mat (x y z : Bool) : Mx := [[false, x, y], [x, false, z], [y, z, false]]
def barOf (u v w : Bool) : List Nat := (bif u then [0] else []) ++ ((bif v then [1] else []) ++ (bif w then [2] else []))
def litB {α : Type} (b : Bool) (k : Bool → α) : α := match b with | true => k true | false => k false
theorem litB_eq {α : Type} (b : Bool) (k : Bool → α) : litB b k = k b := by cases b <;> rfl
def WS (x y z u v w : Bool) (a b c lim : Nat) : Nat → Nat → Bool → Bool → Bool → Bool → Bool → Bool → Nat
  | 0, s, g0, g1, g2, e0, e1, e2 => bif (u && e0) || ((v && e1) || (w && e2)) then 0 else 2 ^ (20 * (8 - s))
  | f+1, s, g0, g1, g2, e0, e1, e2 =>
    (bif (u && e0) || ((v && e1) || (w && e2)) then 0 else 2 ^ (20 * (8 - s))) + (
      (bif g0 && Nat.ble (s + a) lim then litN (s + a) fun s' => litB (!x || g1) fun h1 => litB (!y || g2) fun h2 => litB (x && e1) fun i1 => litB (y && e2) fun i2 => WS x y z u v w a b c lim f s' true h1 h2 true i1 i2 else 0) + (
      (bif g1 && Nat.ble (s + b) lim then litN (s + b) fun s' => litB (!z || g2) fun h2 => litB (x && e0) fun i0 => litB (z && e2) fun i2 => WS x y z u v w a b c lim f s' (!x) true h2 i0 true i2 else 0) +
      (bif g2 && Nat.ble (s + c) lim then litN (s + c) fun s' => litB (y && e0) fun i0 => litB (z && e1) fun i1 => WS x y z u v w a b c lim f s' (!y) (!z) true i0 i1 true else 0)))
def wgt (q : P2 → Bool) (p : P2) : Nat := bif q p then 2 ^ (20 * (8 - p.1)) else 0
theorem keep_bar {M : Mx} {u v w : Bool} {p : P2} : keepW M (barOf u v w) p = !((u && endsR M 0 p.2.reverse) || ((v && endsR M 1 p.2.reverse) || (w && endsR M 2 p.2.reverse))) := by
  unfold keepW barOf
  cases u <;> cases v <;> cases w <;> simp
theorem goes_snoc {M : Mx} {l s : Nat} {u : List Nat} : goesR M l (u ++ [s]).reverse = (if at2 M s l = false then true else if l < s then false else goesR M l u.reverse) := by
  rw [List.reverse_append]; rfl
theorem ends_snoc {M : Mx} {l s : Nat} {u : List Nat} : endsR M l (u ++ [s]).reverse = (if s = l then true else if at2 M s l = false then false else endsR M l u.reverse) := by
  rw [List.reverse_append]; rfl
theorem go_ge {x g : Bool} {l s : Nat} (h : ¬ l < s) : (if x = false then true else if l < s then false else g) = (!x || g) := by
  rw [if_neg h]
  cases x <;> rfl
theorem go_lt {x g : Bool} {l s : Nat} (h : l < s) : (if x = false then true else if l < s then false else g) = !x := by
  rw [if_pos h]
  cases x <;> rfl
theorem en_ne {x e : Bool} {l s : Nat} (h : ¬ s = l) : (if s = l then true else if x = false then false else e) = (x && e) := by
  rw [if_neg h]
  cases x <;> rfl
theorem sum_append (l r : List Nat) : (l ++ r).sum = l.sum + r.sum := by simp
theorem WS_ok {x y z u v w : Bool} {a b c lim : Nat} : ∀ (f : Nat) (p : P2), WS x y z u v w a b c lim f p.1 (goesR (mat x y z) 0 p.2.reverse) (goesR (mat x y z) 1 p.2.reverse) (goesR (mat x y z) 2 p.2.reverse) (endsR (mat x y z) 0 p.2.reverse) (endsR (mat x y z) 1 p.2.reverse) (endsR (mat x y z) 2 p.2.reverse) =
    ((TT (mat x y z) [a, b, c] lim f p).map (wgt (keepW (mat x y z) (barOf u v w)))).sum := by
  have node : ∀ p : P2, wgt (keepW (mat x y z) (barOf u v w)) p = (bif (u && endsR (mat x y z) 0 p.2.reverse) || ((v && endsR (mat x y z) 1 p.2.reverse) || (w && endsR (mat x y z) 2 p.2.reverse)) then 0 else 2 ^ (20 * (8 - p.1))) := fun p => by
    unfold wgt
    rw [keep_bar]
    cases ((u && endsR (mat x y z) 0 p.2.reverse) || ((v && endsR (mat x y z) 1 p.2.reverse) || (w && endsR (mat x y z) 2 p.2.reverse))) <;> rfl
  intro f
  induction f with
  | zero =>
    intro p
    show _ = wgt _ p + 0
    rw [Nat.add_zero, node]; rfl
  | succ f ih =>
    intro p
    have br : ∀ (l : Nat) (sl : Nat) (W : Nat), [a, b, c].getD l 0 = sl → W = (((TT (mat x y z) [a, b, c] lim f (child [a, b, c] p l))).map (wgt (keepW (mat x y z) (barOf u v w)))).sum →
        (bif goesR (mat x y z) l p.2.reverse && Nat.ble (p.1 + sl) lim then W else 0) = (((kid (mat x y z) [a, b, c] lim p l).flatMap (TT (mat x y z) [a, b, c] lim f)).map (wgt (keepW (mat x y z) (barOf u v w)))).sum := by
      intro l sl W hsl hW
      subst hsl hW
      unfold kid
      by_cases h : CanGo (mat x y z) [a, b, c] lim p l
      · rw [if_pos h, h.2, List.flatMap_singleton, show Nat.ble (p.1 + [a, b, c].getD l 0) lim = true from Nat.ble_eq_true_of_le h.1]; rfl
      · rw [if_neg h]
        cases hg : goesR (mat x y z) l p.2.reverse with
        | false => rfl
        | true =>
          cases hb : Nat.ble (p.1 + [a, b, c].getD l 0) lim with
          | false => rfl
          | true => exact absurd ⟨Nat.le_of_ble_eq_true hb, hg⟩ h
    rw [WS, TT, List.map_cons, List.sum_cons, List.map_append, List.map_append, sum_append, sum_append, node]
    congr 1
    rw [← br 0 a _ rfl rfl, ← br 1 b _ rfl rfl, ← br 2 c _ rfl rfl]
    rw [← ih, ← ih, ← ih]
    simp only [litN_eq, litB_eq]
    unfold child
    dsimp only
    simp only [goes_snoc, ends_snoc, show at2 (mat x y z) 0 0 = false from rfl, show at2 (mat x y z) 0 1 = x from rfl, show at2 (mat x y z) 0 2 = y from rfl, show at2 (mat x y z) 1 0 = x from rfl, show at2 (mat x y z) 1 1 = false from rfl,
      show at2 (mat x y z) 1 2 = z from rfl, show at2 (mat x y z) 2 0 = y from rfl, show at2 (mat x y z) 2 1 = z from rfl, show at2 (mat x y z) 2 2 = false from rfl]
    rw [go_ge (show ¬ 1 < 0 by decide), go_ge (show ¬ 2 < 0 by decide), go_ge (show ¬ 2 < 1 by decide), go_lt (show 0 < 1 by decide), go_lt (show 0 < 2 by decide), go_lt (show 1 < 2 by decide), en_ne (show ¬ 0 = 1 by decide), en_ne (show ¬ 0 = 2 by decide), en_ne (show ¬ 1 = 0 by decide), en_ne (show ¬ 1 = 2 by decide), en_ne (show ¬ 2 = 0 by decide), en_ne (show ¬ 2 = 1 by decide)]
    rfl

def sP (x y z u v w : Bool) (pa pb pc : Nat) : Nat := pa * pb * pc + ((bif u && (v && x) then pc else 0) + ((bif u && (w && y) then pb else 0) + (bif v && (w && z) then pa else 0)))
def sN (x y z u v w : Bool) (pa pb pc : Nat) : Nat := (bif u then pb * pc else 0) + ((bif v then pa * pc else 0) + ((bif w then pa * pb else 0) + (bif u && (v && (w && (x && (y && z)))) then 1 else 0)))
theorem term_ok {x y z u v w : Bool} {a b c : Nat} {B : Int} : setsC (barOf u v w) (mat x y z) [a, b, c] B =
    (-1) ^ 0 * B ^ (a + (b + (c + 0)) - 0) + ((bif u then (-1) ^ 1 * B ^ (a + (b + (c + 0)) - (a + 0)) else 0) + ((bif v then (-1) ^ 1 * B ^ (a + (b + (c + 0)) - (b + 0)) else 0) + ((bif u && (v && x) then (-1) ^ 2 * B ^ (a + (b + (c + 0)) - (a + (b + 0))) else 0) +
      ((bif w then (-1) ^ 1 * B ^ (a + (b + (c + 0)) - (c + 0)) else 0) + ((bif u && (w && y) then (-1) ^ 2 * B ^ (a + (b + (c + 0)) - (a + (c + 0))) else 0) + ((bif v && (w && z) then (-1) ^ 2 * B ^ (a + (b + (c + 0)) - (b + (c + 0))) else 0) +
        ((bif u && (v && (w && (x && (y && z)))) then (-1) ^ 3 * B ^ (a + (b + (c + 0)) - (a + (b + (c + 0)))) else 0) + 0))))))) := by
  cases u <;> cases v <;> cases w <;> cases x <;> cases y <;> cases z <;> rfl
theorem bi_neg {t : Bool} {X : Nat} : (bif t then (-1 : Int) * (X : Int) else 0) = -((bif t then X else 0 : Nat) : Int) := by
  cases t
  · rfl
  · exact Int.neg_one_mul _
theorem bi_pos {t : Bool} {X : Nat} : (bif t then (1 : Int) * (X : Int) else 0) = ((bif t then X else 0 : Nat) : Int) := by
  cases t
  · rfl
  · exact Int.one_mul _
theorem sets_eq {x y z u v w : Bool} {a b c B : Nat} : setsC (barOf u v w) (mat x y z) [a, b, c] (B : Int) = ((sP x y z u v w (B ^ a) (B ^ b) (B ^ c) : Nat) : Int) - ((sN x y z u v w (B ^ a) (B ^ b) (B ^ c) : Nat) : Int) := by
  rw [term_ok]
  rw [show a + (b + (c + 0)) - 0 = a + b + c from by omega, show a + (b + (c + 0)) - (a + 0) = b + c from by omega, show a + (b + (c + 0)) - (b + 0) = a + c from by omega, show a + (b + (c + 0)) - (a + (b + 0)) = c from by omega,
    show a + (b + (c + 0)) - (c + 0) = a + b from by omega, show a + (b + (c + 0)) - (a + (c + 0)) = b from by omega, show a + (b + (c + 0)) - (b + (c + 0)) = a from by omega, show a + (b + (c + 0)) - (a + (b + (c + 0))) = 0 from by omega]
  have e : ∀ n, (B : Int) ^ n = ((B ^ n : Nat) : Int) := fun n => by rw [Int.natCast_pow]
  simp only [e]
  rw [Nat.pow_add, Nat.pow_add, Nat.pow_add, Nat.pow_add, Nat.pow_zero]
  rw [show ((-1 : Int) ^ 0) = 1 from rfl, show ((-1 : Int) ^ 1) = -1 from rfl, show ((-1 : Int) ^ 2) = 1 from rfl, show ((-1 : Int) ^ 3) = -1 from rfl]
  rw [bi_neg, bi_neg, bi_neg, bi_neg, bi_pos, bi_pos, bi_pos]
  unfold sP sN
  omega
/-- the sums over the sets of letters, as polynomials -/
def pS (x y z u v w : Bool) (a b c : Nat) : List (Int × Nat) :=
  [(1, a + b + c)] ++ ((bif u && (v && x) then [(1, c)] else []) ++ ((bif u && (w && y) then [(1, b)] else []) ++ ((bif v && (w && z) then [(1, a)] else []) ++
    ((bif u then [(-1, b + c)] else []) ++ ((bif v then [(-1, a + c)] else []) ++ ((bif w then [(-1, a + b)] else []) ++ (bif u && (v && (w && (x && (y && z)))) then [(-1, 0)] else [])))))))
def ev (p : List (Int × Nat)) (B : Int) : Int := (p.map fun m => m.1 * B ^ m.2).sum
def norm (p : List (Int × Nat)) : Nat := (p.map fun m => m.1.natAbs).sum
theorem ev_cons {m : Int × Nat} {p : List (Int × Nat)} {B : Int} : ev (m :: p) B = m.1 * B ^ m.2 + ev p B := by unfold ev; rw [List.map_cons, List.sum_cons]
theorem ev_app {p q : List (Int × Nat)} {B : Int} : ev (p ++ q) B = ev p B + ev q B := by
  induction p with
  | nil => show ev q B = 0 + ev q B; omega
  | cons m p ih => rw [List.cons_append, ev_cons, ev_cons, ih]; omega
theorem norm_cons {m : Int × Nat} {p : List (Int × Nat)} : norm (m :: p) = m.1.natAbs + norm p := by unfold norm; rw [List.map_cons, List.sum_cons]
theorem norm_app {p q : List (Int × Nat)} : norm (p ++ q) = norm p + norm q := by
  induction p with
  | nil => show norm q = 0 + norm q; omega
  | cons m p ih => rw [List.cons_append, norm_cons, norm_cons, ih]; omega
theorem ev_pS {x y z u v w : Bool} {a b c B : Nat} : ev (pS x y z u v w a b c) (B : Int) = ((sP x y z u v w (B ^ a) (B ^ b) (B ^ c) : Nat) : Int) - ((sN x y z u v w (B ^ a) (B ^ b) (B ^ c) : Nat) : Int) := by
  unfold pS
  rw [ev_app, ev_app, ev_app, ev_app, ev_app, ev_app, ev_app]
  have e : ∀ n, (B : Int) ^ n = ((B ^ n : Nat) : Int) := fun n => by rw [Int.natCast_pow]
  have e1 : ∀ (t : Bool) (k : Int) (n : Nat), ev (bif t then [(k, n)] else []) (B : Int) = bif t then k * ((B ^ n : Nat) : Int) else 0 := fun t k n => by
    cases t
    · rfl
    · show k * (B : Int) ^ n + 0 = _; rw [e]; show _ = k * _; omega
  rw [e1, e1, e1, e1, e1, e1, e1, bi_neg, bi_neg, bi_neg, bi_neg, bi_pos, bi_pos, bi_pos]
  show 1 * (B : Int) ^ (a + b + c) + 0 + _ = _
  rw [e, Nat.pow_add, Nat.pow_add, Nat.pow_add, Nat.pow_add, Nat.pow_zero]
  unfold sP sN
  omega
theorem norm_pS {x y z u v w : Bool} {a b c : Nat} : norm (pS x y z u v w a b c) ≤ 8 := by
  unfold pS
  rw [norm_app, norm_app, norm_app, norm_app, norm_app, norm_app, norm_app]
  have e1 : ∀ (t : Bool) (k : Int) (n : Nat), k = 1 ∨ k = -1 → norm (bif t then [(k, n)] else []) ≤ 1 := fun t k n hk => by
    cases t
    · exact Nat.zero_le _
    · rcases hk with rfl | rfl <;> exact Nat.le_refl _
  have h0 : norm [((1 : Int), a + b + c)] = 1 := rfl
  have := e1 (u && (v && x)) 1 c (.inl rfl)
  have := e1 (u && (w && y)) 1 b (.inl rfl)
  have := e1 (v && (w && z)) 1 a (.inl rfl)
  have := e1 u (-1) (b + c) (.inr rfl)
  have := e1 v (-1) (a + c) (.inr rfl)
  have := e1 w (-1) (a + b) (.inr rfl)
  have := e1 (u && (v && (w && (x && (y && z))))) (-1) 0 (.inr rfl)
  omega
/-! the sign of a polynomial far out -/
theorem ev_bound {B : Int} (hB : 1 ≤ B) {n : Nat} : ∀ {p : List (Int × Nat)}, (∀ m ∈ p, m.2 ≤ n) → (ev p B).natAbs ≤ norm p * (B ^ n).natAbs
  | [], _ => by show (0 : Int).natAbs ≤ _; simp
  | m :: p, h => by
    rw [ev_cons, norm_cons, Nat.add_mul]
    refine Nat.le_trans (Int.natAbs_add_le _ _) (Nat.add_le_add ?_ (ev_bound hB fun m hm => h m (List.mem_cons_of_mem _ hm)))
    rw [Int.natAbs_mul]
    refine Nat.mul_le_mul_left _ ?_
    rw [Int.natAbs_pow, Int.natAbs_pow]
    exact Nat.pow_le_pow_right (by omega) (h m List.mem_cons_self)
theorem ev_split {B : Int} (n : Nat) : ∀ p : List (Int × Nat), ev p B = ((p.filter fun m => m.2 == n).map (·.1)).sum * B ^ n + ev (p.filter fun m => !(m.2 == n)) B
  | [] => by show (0 : Int) = 0 * _ + 0; simp
  | m :: p => by
    rw [ev_cons, ev_split n p, List.filter_cons, List.filter_cons]
    cases e : m.2 == n with
    | true =>
      have := beq_iff_eq.mp e
      rw [if_pos rfl, if_neg (by simp), List.map_cons, List.sum_cons, Int.add_mul, this]
      omega
    | false =>
      simp only [Bool.not_false, if_true, Bool.false_eq_true, if_false, ev_cons]
      omega
theorem norm_filter {q : Int × Nat → Bool} : ∀ {p : List (Int × Nat)}, norm (p.filter q) ≤ norm p
  | [] => Nat.le_refl _
  | m :: p => by
    rw [List.filter_cons, norm_cons]
    split
    · rw [norm_cons]; have := norm_filter (q := q) (p := p); omega
    · have := norm_filter (q := q) (p := p); omega
theorem sgn_top {B t L : Int} {n : Nat} (h : L.natAbs < (B ^ n).natAbs) (hB : 1 ≤ B) : (1 ≤ t → 0 < t * B ^ n + L) ∧ (t ≤ -1 → t * B ^ n + L < 0) := by
  have hp : 0 < B ^ n := Int.pow_pos (by omega)
  generalize B ^ n = X at h hp
  refine ⟨fun ht => ?_, fun ht => ?_⟩
  · have : 1 * X ≤ t * X := Int.mul_le_mul_of_nonneg_right ht (by omega)
    omega
  · have : t * X ≤ -1 * X := Int.mul_le_mul_of_nonneg_right ht (by omega)
    omega
theorem sgn_same {K : Nat} {B B' : Int} (h1 : (K : Int) < B) (h2 : (K : Int) < B') (g1 : 1 ≤ B) (g2 : 1 ≤ B') : ∀ (n : Nat) (p : List (Int × Nat)), norm p ≤ K → (∀ m ∈ p, m.2 < n) → 0 ≤ ev p B → 0 ≤ ev p B' := by
  intro n
  induction n with
  | zero =>
    intro p _ hp _
    cases p with
    | nil => exact Int.le_refl _
    | cons m p => exact absurd (hp m List.mem_cons_self) (by omega)
  | succ n ih =>
    intro p hK hp h
    have low : ∀ (C : Int), (K : Int) < C → 1 ≤ C → (ev (p.filter fun m => !(m.2 == n)) C).natAbs < (C ^ n).natAbs := by
      intro C hC hC1
      cases n with
      | zero =>
        have e : (p.filter fun m => !(m.2 == 0)) = [] := List.filter_eq_nil_iff.mpr fun m hm => by
          have := hp m hm
          simp; omega
        rw [e]
        show (0 : Int).natAbs < _
        rw [Int.pow_zero]
        decide
      | succ n =>
        have hb := ev_bound hC1 (n := n) (p := p.filter fun m => !(m.2 == n + 1)) (fun m hm => by
          obtain ⟨a, b⟩ := List.mem_filter.mp hm
          have := hp m a
          have : m.2 ≠ n + 1 := by simpa using b
          omega)
        refine Nat.lt_of_le_of_lt hb ?_
        rw [Int.pow_succ, Int.natAbs_mul, Nat.mul_comm]
        have hpos : 0 < (C ^ n).natAbs := Int.natAbs_pos.mpr (Int.ne_of_gt (Int.pow_pos (by omega)))
        refine Nat.mul_lt_mul_of_pos_left ?_ hpos
        have := norm_filter (q := fun m => !(m.2 == n + 1)) (p := p)
        omega
    have l1 := low B h1 g1
    have l2 := low B' h2 g2
    rw [ev_split n p] at h ⊢
    generalize ((p.filter fun m => m.2 == n).map (·.1)).sum = t at h ⊢
    have s1 := sgn_top (t := t) l1 g1
    have s2 := sgn_top (t := t) l2 g2
    by_cases ht : 1 ≤ t
    · have := s2.1 ht; omega
    · by_cases ht2 : t ≤ -1
      · have := s1.2 ht2; omega
      · obtain rfl : t = 0 := by omega
        rw [Int.zero_mul, Int.zero_add] at h ⊢
        exact ih _ (Nat.le_trans norm_filter hK) (fun m hm => by
          obtain ⟨a, b⟩ := List.mem_filter.mp hm
          have := hp m a
          have : m.2 ≠ n := by simpa using b
          omega) h
theorem sgn_transfer {K : Nat} {B B' : Int} (h1 : (K : Int) < B) (h2 : (K : Int) < B') {p : List (Int × Nat)} (hK : norm p ≤ K) (h : 0 ≤ ev p B) : 0 ≤ ev p B' := by
  have : ∃ n, ∀ m ∈ p, m.2 < n := by
    clear h hK
    induction p with
    | nil => exact ⟨0, fun m h => nomatch h⟩
    | cons a p ih =>
      obtain ⟨n, hn⟩ := ih
      refine ⟨n + a.2 + 1, fun m hm => ?_⟩
      rcases List.mem_cons.mp hm with rfl | hm
      · omega
      · have := hn m hm; omega
  obtain ⟨n, hn⟩ := this
  exact sgn_same h1 h2 (by omega) (by omega) n p hK hn h
/-! products -/
def pneg (p : List (Int × Nat)) : List (Int × Nat) := p.map fun m => (-m.1, m.2)
theorem ev_neg {B : Int} : ∀ p : List (Int × Nat), ev (pneg p) B = - ev p B
  | [] => rfl
  | m :: p => by
    show ev ((-m.1, m.2) :: pneg p) B = _
    rw [ev_cons, ev_cons, ev_neg p]
    dsimp only
    rw [Int.neg_mul]; omega
theorem norm_neg : ∀ p : List (Int × Nat), norm (pneg p) = norm p
  | [] => rfl
  | m :: p => by
    show norm ((-m.1, m.2) :: pneg p) = _
    rw [norm_cons, norm_cons, norm_neg p, Int.natAbs_neg]
def pm1 (m : Int × Nat) (q : List (Int × Nat)) : List (Int × Nat) := q.map fun m' => (m.1 * m'.1, m.2 + m'.2)
theorem ev_pm1 {B : Int} {m : Int × Nat} : ∀ q : List (Int × Nat), ev (pm1 m q) B = m.1 * B ^ m.2 * ev q B
  | [] => by show (0 : Int) = _ * 0; simp
  | m' :: q => by
    show ev ((m.1 * m'.1, m.2 + m'.2) :: pm1 m q) B = _
    rw [ev_cons, ev_cons, ev_pm1 q, Int.mul_add, Int.pow_add]
    congr 1
    simp only [Int.mul_assoc, Int.mul_left_comm]
theorem norm_pm1 {m : Int × Nat} : ∀ q : List (Int × Nat), norm (pm1 m q) = m.1.natAbs * norm q
  | [] => by show 0 = _ * 0; simp
  | m' :: q => by
    show norm ((m.1 * m'.1, m.2 + m'.2) :: pm1 m q) = _
    rw [norm_cons, norm_cons, norm_pm1 q, Int.natAbs_mul, Nat.mul_add]
def pmul (p q : List (Int × Nat)) : List (Int × Nat) := p.flatMap fun m => pm1 m q
theorem ev_mul {B : Int} {q : List (Int × Nat)} : ∀ p : List (Int × Nat), ev (pmul p q) B = ev p B * ev q B
  | [] => by show (0 : Int) = 0 * _; simp
  | m :: p => by
    show ev (pm1 m q ++ pmul p q) B = _
    rw [ev_app, ev_pm1, ev_mul p, ev_cons, Int.add_mul]
theorem norm_mul {q : List (Int × Nat)} : ∀ p : List (Int × Nat), norm (pmul p q) = norm p * norm q
  | [] => by show 0 = 0 * _; simp
  | m :: p => by
    show norm (pm1 m q ++ pmul p q) = _
    rw [norm_app, norm_pm1, norm_mul p, norm_cons, Nat.add_mul]
def pD (n : Nat) : List Nat → List (Int × Nat)
  | [] => []
  | d :: l => ((d : Int), n) :: pD (n + 1) l
theorem ev_pD {k : Nat} : ∀ (l : List Nat) (n : Nat), ev (pD n l) ((2 ^ k : Nat) : Int) = ((2 ^ k : Nat) : Int) ^ n * ((valL k l : Nat) : Int)
  | [], n => by show (0 : Int) = _ * ((0 : Nat) : Int); simp
  | d :: l, n => by
    rw [pD, ev_cons, ev_pD l (n + 1), valL, Int.natCast_add, Int.natCast_mul, Int.mul_add, Int.pow_succ, Int.mul_comm (d : Int), Int.mul_assoc]
theorem norm_pD : ∀ (l : List Nat) (n : Nat), norm (pD n l) = l.sum
  | [], n => rfl
  | d :: l, n => by rw [pD, norm_cons, norm_pD l, List.sum_cons]; rfl

theorem valL_dig {k : Nat} : ∀ (l : List Nat) (j : Nat), (∀ a ∈ l, a < 2 ^ k) → valL k l / 2 ^ (k * j) % 2 ^ k = l.getD j 0
  | [], j, _ => by simp [valL]
  | a :: l, 0, h => by
    rw [valL, Nat.mul_zero, Nat.pow_zero, Nat.div_one, Nat.add_mul_mod_self_left, Nat.mod_eq_of_lt (h a List.mem_cons_self)]
    rfl
  | a :: l, j+1, h => by
    rw [valL, Nat.mul_add, Nat.mul_one, Nat.add_comm (k * j), Nat.pow_add, ← Nat.div_div_eq_div_mul, Nat.add_mul_div_left _ _ (Nat.pow_pos (by decide)), Nat.div_eq_of_lt (h a List.mem_cons_self), Nat.zero_add, valL_dig l j fun x hx => h x (List.mem_cons_of_mem _ hx)]
    rfl
def dg (q j : Nat) : Nat := q / 2 ^ (20 * j) % 2 ^ 20
def dl (q : Nat) : List Nat := (List.range 9).map (dg q)
def dsum (q : Nat) : Nat := dg q 0 + (dg q 1 + (dg q 2 + (dg q 3 + (dg q 4 + (dg q 5 + (dg q 6 + (dg q 7 + dg q 8)))))))
theorem dl_sum (q : Nat) : (dl q).sum = dsum q := by
  show dg q 0 + (dg q 1 + (dg q 2 + (dg q 3 + (dg q 4 + (dg q 5 + (dg q 6 + (dg q 7 + (dg q 8 + 0)))))))) = _
  rw [Nat.add_zero]; rfl
theorem dl_lt {q a : Nat} (h : a ∈ dl q) : a < 2 ^ 20 := by
  obtain ⟨j, _, rfl⟩ := List.mem_map.mp h
  exact Nat.mod_lt _ (by decide)
theorem dl_val {q : Nat} (h : q < 2 ^ 180) : valL 20 (dl q) = q := by
  have := valL_figs 20 q 9
  rw [show 20 * 9 = 180 from rfl, Nat.mod_eq_of_lt h] at this
  exact this
theorem dl_get {q j : Nat} (h : j < 9) : (dl q).getD j 0 = dg q j := by
  unfold dl
  rw [List.getD_eq_getElem?_getD, List.getElem?_map, List.getElem?_range h]; rfl
def qOf (x y z u v w : Bool) (pa pb pc : Nat) : Nat := 2 ^ 160 * (sP x y z u v w pa pb pc - sN x y z u v w pa pb pc) / (sP x y z true true true pa pb pc - sN x y z true true true pa pb pc)
theorem s_bounds {x y z u v w : Bool} {pa pb pc : Nat} (ha : 8 ≤ pa) (hb : 8 ≤ pb) (hc : 8 ≤ pc) : 2 * sN x y z u v w pa pb pc ≤ pa * pb * pc ∧ pa * pb * pc ≤ sP x y z u v w pa pb pc ∧ sP x y z u v w pa pb pc ≤ 2 * (pa * pb * pc) := by
  have h1 : 8 * (pb * pc) ≤ pa * pb * pc := by rw [Nat.mul_assoc]; exact Nat.mul_le_mul_right _ ha
  have h2 : 8 * (pa * pc) ≤ pa * pb * pc := by rw [Nat.mul_comm pa pb, Nat.mul_assoc]; exact Nat.mul_le_mul_right _ hb
  have h3 : 8 * (pa * pb) ≤ pa * pb * pc := by rw [Nat.mul_comm (pa * pb) pc]; exact Nat.mul_le_mul_right _ hc
  have h4 : 8 * pc ≤ pb * pc := Nat.mul_le_mul_right _ hb
  have h5 : 8 * pb ≤ pa * pb := Nat.mul_le_mul_right _ ha
  have h6 : 8 * pa ≤ pa * pb := by rw [Nat.mul_comm pa pb]; exact Nat.mul_le_mul_right _ hb
  have bl : ∀ (t : Bool) (X : Nat), (bif t then X else 0) ≤ X := fun t X => by
    cases t
    · exact Nat.zero_le _
    · exact Nat.le_refl _
  have k1 := bl u (pb * pc)
  have k2 := bl v (pa * pc)
  have k3 := bl w (pa * pb)
  have k4 := bl (u && (v && (w && (x && (y && z))))) 1
  have k5 := bl (u && (v && x)) pc
  have k6 := bl (u && (w && y)) pb
  have k7 := bl (v && (w && z)) pa
  unfold sN sP
  generalize pa * pb * pc = P at h1 h2 h3 ⊢
  generalize pb * pc = X at h1 h4 k1 ⊢
  generalize pa * pc = Y at h2 k2 ⊢
  generalize pa * pb = Z at h3 h5 h6 k3 ⊢
  clear bl
  omega
def sD (x y z u v w : Bool) (pa pb pc : Nat) : Nat := sP x y z u v w pa pb pc - sN x y z u v w pa pb pc
theorem pow8 {k a : Nat} (hk : 3 ≤ k) (ha : 1 ≤ a) : 8 ≤ (2 ^ k) ^ a := by
  rw [← Nat.pow_mul]
  have : 2 ^ 3 ≤ 2 ^ (k * a) := Nat.pow_le_pow_right (by decide) (Nat.le_trans hk (Nat.le_mul_of_pos_right _ ha))
  exact this
section
variable {x y z u v w : Bool} {a b c k : Nat}
theorem ev_sD (hk : 3 ≤ k) (ha : 1 ≤ a) (hb : 1 ≤ b) (hc : 1 ≤ c) : ev (pS x y z u v w a b c) ((2 ^ k : Nat) : Int) = ((sD x y z u v w ((2 ^ k) ^ a) ((2 ^ k) ^ b) ((2 ^ k) ^ c) : Nat) : Int) := by
  rw [ev_pS]
  have h := s_bounds (x := x) (y := y) (z := z) (u := u) (v := v) (w := w) (pow8 hk ha) (pow8 hk hb) (pow8 hk hc)
  unfold sD
  omega
def f1 (x y z u v w : Bool) (a b c : Nat) (l : List Nat) : List (Int × Nat) := pmul [(1, 8)] (pS x y z u v w a b c) ++ pneg (pmul (pD 0 l) (pS x y z true true true a b c))
def f2 (x y z u v w : Bool) (a b c : Nat) (l : List Nat) : List (Int × Nat) := pmul (pD 0 l ++ [(1, 0)]) (pS x y z true true true a b c) ++ ([(-1, 0)] ++ pneg (pmul [(1, 8)] (pS x y z u v w a b c)))
theorem ev_f1 (hk : 3 ≤ k) (ha : 1 ≤ a) (hb : 1 ≤ b) (hc : 1 ≤ c) (l : List Nat) : ev (f1 x y z u v w a b c l) ((2 ^ k : Nat) : Int) =
    (((2 ^ k) ^ 8 * sD x y z u v w ((2 ^ k) ^ a) ((2 ^ k) ^ b) ((2 ^ k) ^ c) : Nat) : Int) - ((valL k l * sD x y z true true true ((2 ^ k) ^ a) ((2 ^ k) ^ b) ((2 ^ k) ^ c) : Nat) : Int) := by
  unfold f1
  rw [ev_app, ev_neg, ev_mul, ev_mul, ev_sD hk ha hb hc, ev_sD hk ha hb hc, ev_pD, ev_cons]
  show (1 * ((2 ^ k : Nat) : Int) ^ 8 + 0) * _ + _ = _
  rw [show ((2 ^ k : Nat) : Int) ^ 8 = (((2 ^ k) ^ 8 : Nat) : Int) from (Int.natCast_pow _ _).symm, Int.pow_zero, Int.one_mul, Int.one_mul, Int.add_zero, Int.natCast_mul, Int.natCast_mul]
  omega
theorem ev_f2 (hk : 3 ≤ k) (ha : 1 ≤ a) (hb : 1 ≤ b) (hc : 1 ≤ c) (l : List Nat) : ev (f2 x y z u v w a b c l) ((2 ^ k : Nat) : Int) =
    (((valL k l + 1) * sD x y z true true true ((2 ^ k) ^ a) ((2 ^ k) ^ b) ((2 ^ k) ^ c) : Nat) : Int) - 1 - (((2 ^ k) ^ 8 * sD x y z u v w ((2 ^ k) ^ a) ((2 ^ k) ^ b) ((2 ^ k) ^ c) : Nat) : Int) := by
  unfold f2
  rw [ev_app, ev_app, ev_neg, ev_mul, ev_mul, ev_app, ev_sD hk ha hb hc, ev_sD hk ha hb hc, ev_pD, ev_cons, ev_cons, ev_cons]
  show (_ + (1 * ((2 ^ k : Nat) : Int) ^ 0 + 0)) * _ + (-1 * ((2 ^ k : Nat) : Int) ^ 0 + 0 + -((1 * ((2 ^ k : Nat) : Int) ^ 8 + 0) * _)) = _
  rw [show ((2 ^ k : Nat) : Int) ^ 8 = (((2 ^ k) ^ 8 : Nat) : Int) from (Int.natCast_pow _ _).symm, Int.natCast_mul, Int.natCast_mul, Int.natCast_add]
  generalize (((2 ^ k) ^ 8 : Nat) : Int) = A
  rw [Int.pow_zero, Int.one_mul, Int.one_mul, Int.one_mul, Int.add_zero, Int.add_zero, Int.add_zero]
  show _ = ((_ + 1 : Int) * _) - 1 - _
  omega
theorem norm_f1 (l : List Nat) : norm (f1 x y z u v w a b c l) ≤ 8 + l.sum * 8 := by
  unfold f1
  rw [norm_app, norm_neg, norm_mul, norm_mul, norm_pD]
  have h1 := norm_pS (x := x) (y := y) (z := z) (u := u) (v := v) (w := w) (a := a) (b := b) (c := c)
  have h2 := Nat.mul_le_mul_left l.sum (norm_pS (x := x) (y := y) (z := z) (u := true) (v := true) (w := true) (a := a) (b := b) (c := c))
  have h3 : norm [((1 : Int), 8)] = 1 := rfl
  rw [h3]
  omega
theorem norm_f2 (l : List Nat) : norm (f2 x y z u v w a b c l) ≤ 9 + (l.sum + 1) * 8 := by
  unfold f2
  rw [norm_app, norm_app, norm_neg, norm_mul, norm_mul, norm_app, norm_pD]
  have h1 := norm_pS (x := x) (y := y) (z := z) (u := u) (v := v) (w := w) (a := a) (b := b) (c := c)
  have h3 : norm [((1 : Int), 8)] = 1 := rfl
  have h4 : norm [((1 : Int), 0)] = 1 := rfl
  have h5 : norm [((-1 : Int), 0)] = 1 := rfl
  rw [h3, h4, h5]
  have h2 := Nat.mul_le_mul_left (l.sum + 1) (norm_pS (x := x) (y := y) (z := z) (u := true) (v := true) (w := true) (a := a) (b := b) (c := c))
  omega
theorem div_wd (ha : 1 ≤ a) (hb : 1 ≤ b) (hc : 1 ≤ c) {q : Nat} (hq : q = qOf x y z u v w (2 ^ (20 * a)) (2 ^ (20 * b)) (2 ^ (20 * c))) (h1 : q / 2 ^ 160 = 1) (hd : dsum q ≤ 10000) (hk : 20 ≤ k) :
    (2 ^ k) ^ 8 * sD x y z u v w ((2 ^ k) ^ a) ((2 ^ k) ^ b) ((2 ^ k) ^ c) / sD x y z true true true ((2 ^ k) ^ a) ((2 ^ k) ^ b) ((2 ^ k) ^ c) = valL k (dl q) := by
  have hq180 : q < 2 ^ 180 := by
    have := Nat.div_add_mod q (2 ^ 160)
    have := Nat.mod_lt q (show 0 < 2 ^ 160 by decide)
    have e160 : 2 ^ 180 = 2 ^ 160 * 1048576 := by decide
    rw [h1] at *
    omega
  have hv := dl_val hq180
  have pos : ∀ k, 20 ≤ k → 0 < sD x y z true true true ((2 ^ k) ^ a) ((2 ^ k) ^ b) ((2 ^ k) ^ c) := fun k hk => by
    have h := s_bounds (x := x) (y := y) (z := z) (u := true) (v := true) (w := true) (pow8 (show 3 ≤ k by omega) ha) (pow8 (show 3 ≤ k by omega) hb) (pow8 (show 3 ≤ k by omega) hc)
    have : 0 < (2 ^ k) ^ a * (2 ^ k) ^ b * (2 ^ k) ^ c := Nat.mul_pos (Nat.mul_pos (Nat.pow_pos (Nat.pow_pos (by decide))) (Nat.pow_pos (Nat.pow_pos (by decide)))) (Nat.pow_pos (Nat.pow_pos (by decide)))
    unfold sD
    omega
  have q20 : q = (2 ^ 20) ^ 8 * sD x y z u v w ((2 ^ 20) ^ a) ((2 ^ 20) ^ b) ((2 ^ 20) ^ c) / sD x y z true true true ((2 ^ 20) ^ a) ((2 ^ 20) ^ b) ((2 ^ 20) ^ c) := by
    rw [hq, ← Nat.pow_mul, ← Nat.pow_mul, ← Nat.pow_mul, ← Nat.pow_mul]; rfl
  have p20 := pos 20 (Nat.le_refl _)
  have hN : (2 ^ 20 : Nat) ≤ 2 ^ k := Nat.pow_le_pow_right (by decide) hk
  have e20 : (2 ^ 20 : Nat) = 1048576 := by decide
  have hs := dl_sum q
  have g1 : 0 ≤ ev (f1 x y z u v w a b c (dl q)) ((2 ^ 20 : Nat) : Int) := by
    rw [ev_f1 (by decide) ha hb hc, hv]
    have := Nat.div_mul_le_self ((2 ^ 20) ^ 8 * sD x y z u v w ((2 ^ 20) ^ a) ((2 ^ 20) ^ b) ((2 ^ 20) ^ c)) (sD x y z true true true ((2 ^ 20) ^ a) ((2 ^ 20) ^ b) ((2 ^ 20) ^ c))
    rw [← q20] at this
    exact Int.sub_nonneg_of_le (Int.ofNat_le.mpr this)
  have g2 : 0 ≤ ev (f2 x y z u v w a b c (dl q)) ((2 ^ 20 : Nat) : Int) := by
    rw [ev_f2 (by decide) ha hb hc, hv]
    have := Nat.lt_mul_of_div_lt (show (2 ^ 20) ^ 8 * sD x y z u v w ((2 ^ 20) ^ a) ((2 ^ 20) ^ b) ((2 ^ 20) ^ c) / sD x y z true true true ((2 ^ 20) ^ a) ((2 ^ 20) ^ b) ((2 ^ 20) ^ c) < q + 1 by rw [← q20]; exact Nat.lt_succ_self _) p20
    have h2 := Int.ofNat_lt.mpr this
    omega
  have t1 := sgn_transfer (K := 100000) (B := ((2 ^ 20 : Nat) : Int)) (B' := ((2 ^ k : Nat) : Int)) (by decide) (by omega) (Nat.le_trans (norm_f1 _) (by omega)) g1
  have t2 := sgn_transfer (K := 100000) (B := ((2 ^ 20 : Nat) : Int)) (B' := ((2 ^ k : Nat) : Int)) (by decide) (by omega) (Nat.le_trans (norm_f2 _) (by omega)) g2
  rw [ev_f1 (by omega) ha hb hc] at t1
  rw [ev_f2 (by omega) ha hb hc] at t2
  refine Nat.div_eq_of_lt_le ?_ ?_
  · exact Int.ofNat_le.mp (Int.le_of_sub_nonneg t1)
  · exact Int.ofNat_lt.mp (by omega)
end
theorem figs_wd {q k : Nat} (hk : 20 ≤ k) (h1 : q / 2 ^ 160 = 1) : figs k (valL k (dl q)) = dl q := by
  have hk0 : 0 < k := by omega
  have lt : ∀ a ∈ dl q, a < 2 ^ k := fun a ha => Nat.lt_of_lt_of_le (dl_lt ha) (Nat.pow_le_pow_right (by decide) hk)
  have len : (dl q).length = 9 := by unfold dl; simp
  have hi := valL_lt k (dl q) lt
  rw [len] at hi
  have d8 : dg q 8 = 1 := by unfold dg; rw [show 20 * 8 = 160 from rfl, h1]
  have lo : 2 ^ (k * 8) ≤ valL k (dl q) := by
    have e : dl q = (List.range 8).map (dg q) ++ [1] := by
      unfold dl
      rw [List.range_succ, List.map_append, List.map_singleton, d8]
    rw [e, valL_app, List.length_map, List.length_range]
    show _ ≤ _ + 2 ^ (k * 8) * (1 + 2 ^ k * 0)
    rw [Nat.mul_zero, Nat.add_zero, Nat.mul_one]
    omega
  have b1 : Builtin.Int.intBits ((valL k (dl q) : Nat) : Int) ≤ k * 9 := intBits_le_iff.mpr (by rw [Int.natAbs_natCast]; exact hi)
  have b2 : k * 8 < Builtin.Int.intBits ((valL k (dl q) : Nat) : Int) := Nat.lt_of_not_le fun h => by
    have := intBits_le_iff.mp h
    rw [Int.natAbs_natCast] at this
    omega
  have en : (Builtin.Int.intBits ((valL k (dl q) : Nat) : Int) + k - 1) / k = 9 := by
    refine Nat.div_eq_of_lt_le ?_ ?_
    · rw [Nat.mul_comm]; omega
    · rw [Nat.mul_comm]; omega
  unfold figs
  rw [en]
  show _ = (List.range 9).map (dg q)
  refine List.map_congr_left fun j hj => ?_
  rw [valL_dig _ _ lt, dl_get (List.mem_range.mp hj)]

/-! counting nodes -/
theorem sum_add {f g : Nat → Nat} : ∀ l : List Nat, (l.map fun k => f k + g k).sum = (l.map f).sum + (l.map g).sum
  | [] => rfl
  | a :: l => by rw [List.map_cons, List.sum_cons, sum_add l, List.map_cons, List.sum_cons, List.map_cons, List.sum_cons]; lia
theorem sum_ind {wt : Nat → Nat} {s : Nat} : ∀ n, s < n → ((List.range n).map fun k => (if s = k then 1 else 0) * wt k).sum = wt s
  | 0, h => absurd h (by lia)
  | n+1, h => by
    rw [List.range_succ, List.map_append, sum_append, List.map_singleton, List.sum_singleton]
    by_cases e : s = n
    · subst e
      rw [if_pos rfl, Nat.one_mul]
      have : ((List.range s).map fun k => (if s = k then 1 else 0) * wt k) = (List.range s).map fun _ => 0 := List.map_congr_left fun k hk => by
        have := List.mem_range.mp hk
        rw [if_neg (by lia), Nat.zero_mul]
      rw [this]
      have z : ∀ m : Nat, ((List.range m).map fun _ => 0).sum = 0 := fun m => by
        induction m with
        | zero => rfl
        | succ m ih => rw [List.range_succ, List.map_append, sum_append, ih]; rfl
      rw [z, Nat.zero_add]
    · rw [if_neg e, Nat.zero_mul, Nat.add_zero]
      exact sum_ind n (by lia)
theorem cnt_cons {q : P2 → Bool} {p : P2} {L : List P2} {k : Nat} : cntW q (p :: L) k = cntW q L k + (if q p = true ∧ p.1 = k then 1 else 0) := by
  unfold cntW
  rw [List.filter_cons]
  cases q p with
  | false => rw [if_neg (by simp), if_neg (by simp), Nat.add_zero]
  | true =>
    rw [if_pos rfl, List.map_cons, List.count_cons]
    by_cases e : p.1 = k
    · rw [if_pos (by simpa using e), if_pos ⟨rfl, e⟩]
    · rw [if_neg (by simpa using e), if_neg (fun h => e h.2)]
theorem wsum {q : P2 → Bool} {wt : Nat → Nat} {n : Nat} : ∀ {L : List P2}, (∀ p ∈ L, p.1 < n) → (L.map fun p => bif q p then wt p.1 else 0).sum = ((List.range n).map fun k => cntW q L k * wt k).sum
  | [], _ => by
    show 0 = _
    have z : ∀ m : Nat, ((List.range m).map fun k => cntW q [] k * wt k).sum = 0 := fun m => by
      induction m with
      | zero => rfl
      | succ m ih =>
        rw [List.range_succ, List.map_append, sum_append, ih]
        show 0 + (0 * wt m + 0) = 0
        lia
    rw [z]
  | p :: L, h => by
    rw [List.map_cons, List.sum_cons, wsum fun p hp => h p (List.mem_cons_of_mem _ hp)]
    have hp := h p List.mem_cons_self
    cases hq : q p with
    | false =>
      have : ((List.range n).map fun k => cntW q (p :: L) k * wt k) = (List.range n).map fun k => cntW q L k * wt k := List.map_congr_left fun k _ => by
        rw [cnt_cons, hq, if_neg (by simp), Nat.add_zero]
      rw [this]
      show 0 + _ = _
      lia
    | true =>
      have : ((List.range n).map fun k => cntW q (p :: L) k * wt k) = (List.range n).map fun k => cntW q L k * wt k + (if p.1 = k then 1 else 0) * wt k := List.map_congr_left fun k _ => by
        rw [cnt_cons, hq, ← Nat.add_mul]
        simp
      rw [this, sum_add, sum_ind n hp]
      show wt p.1 + _ = _
      lia
theorem valL_range {k : Nat} {f : Nat → Nat} : ∀ n, valL k ((List.range n).map f) = ((List.range n).map fun j => f j * 2 ^ (k * j)).sum
  | 0 => rfl
  | n+1 => by
    rw [List.range_succ, List.map_append, valL_app, valL_range n, List.map_append, sum_append, List.length_map, List.length_range, List.map_singleton, List.map_singleton, List.sum_singleton]
    show _ + 2 ^ (k * n) * (f n + 2 ^ k * 0) = _
    rw [Nat.mul_zero, Nat.add_zero, Nat.mul_comm (f n)]
theorem rev9 (t : Nat → Nat) : ((List.range 9).map t).sum = ((List.range 9).map fun j => t (8 - j)).sum := by
  show t 0 + (t 1 + (t 2 + (t 3 + (t 4 + (t 5 + (t 6 + (t 7 + (t 8 + 0)))))))) = t 8 + (t 7 + (t 6 + (t 5 + (t 4 + (t 3 + (t 2 + (t 1 + (t 0 + 0))))))))
  lia
theorem pack_val {c : Nat → Nat} : ((List.range 9).map fun k => c k * 2 ^ (20 * (8 - k))).sum = valL 20 ((List.range 9).map fun j => c (8 - j)) := by
  rw [valL_range, rev9]
  refine congrArg List.sum (List.map_congr_left fun j hj => ?_)
  have := List.mem_range.mp hj
  rw [show 8 - (8 - j) = j from by lia]
theorem pack_dig {c : Nat → Nat} (h : ∀ k, c k < 2 ^ 20) {k : Nat} (hk : k ≤ 8) : c k = ((List.range 9).map fun k => c k * 2 ^ (20 * (8 - k))).sum / 2 ^ (20 * (8 - k)) % 2 ^ 20 := by
  rw [pack_val, valL_dig _ _ (fun a ha => by obtain ⟨j, _, rfl⟩ := List.mem_map.mp ha; exact h _)]
  rw [List.getD_eq_getElem?_getD, List.getElem?_map, List.getElem?_range (by lia)]
  show c k = c (8 - (8 - k))
  rw [show 8 - (8 - k) = k from by lia]

/-! the check -/
def every (q : Nat) : List Nat := (dl q).reverse
def kOf (q : Nat) : Nat := ((List.range 9).filter fun k => Nat.ble (((every q).take (k + 1)).sum) 26).length - 1
def bars (p : Bool → Bool → Bool → Bool) : Bool := p false false false && (p false false true && (p false true false && (p false true true && (p true false false && (p true false true && (p true true false && p true true true))))))
theorem bars_ok {p : Bool → Bool → Bool → Bool} (h : bars p = true) (u v w : Bool) : p u v w = true := by
  unfold bars at h
  simp only [Bool.and_eq_true] at h
  obtain ⟨h0, h1, h2, h3, h4, h5, h6, h7⟩ := h
  cases u <;> cases v <;> cases w <;> assumption
def chk (x y z : Bool) (a b c : Nat) : Bool :=
  litN (2 ^ (20 * a)) fun pa => litN (2 ^ (20 * b)) fun pb => litN (2 ^ (20 * c)) fun pc =>
    litN (qOf x y z false false false pa pb pc) fun q0 => litN (kOf q0) fun K => Nat.ble (((every q0).take (K + 1)).sum) 26 && bars fun u v w =>
      litN (qOf x y z u v w pa pb pc) fun q => Nat.beq (q / 2 ^ 160) 1 && (Nat.ble (dsum q) 10000 && (Nat.beq (WS x y z u v w a b c K 8 0 true true true false false false) (q / 2 ^ (20 * (8 - K)) * 2 ^ (20 * (8 - K)))))
structure ChkOk (x y z : Bool) (a b c : Nat) : Prop where
  k26 : ((every (qOf x y z false false false (2 ^ (20 * a)) (2 ^ (20 * b)) (2 ^ (20 * c)))).take (kOf (qOf x y z false false false (2 ^ (20 * a)) (2 ^ (20 * b)) (2 ^ (20 * c))) + 1)).sum ≤ 26
  q1 : ∀ u v w, qOf x y z u v w (2 ^ (20 * a)) (2 ^ (20 * b)) (2 ^ (20 * c)) / 2 ^ 160 = 1
  qd : ∀ u v w, dsum (qOf x y z u v w (2 ^ (20 * a)) (2 ^ (20 * b)) (2 ^ (20 * c))) ≤ 10000
  ws : ∀ u v w, WS x y z u v w a b c (kOf (qOf x y z false false false (2 ^ (20 * a)) (2 ^ (20 * b)) (2 ^ (20 * c)))) 8 0 true true true false false false =
    qOf x y z u v w (2 ^ (20 * a)) (2 ^ (20 * b)) (2 ^ (20 * c)) / 2 ^ (20 * (8 - kOf (qOf x y z false false false (2 ^ (20 * a)) (2 ^ (20 * b)) (2 ^ (20 * c))))) * 2 ^ (20 * (8 - kOf (qOf x y z false false false (2 ^ (20 * a)) (2 ^ (20 * b)) (2 ^ (20 * c)))))
theorem chk_ok {x y z : Bool} {a b c : Nat} (h : chk x y z a b c = true) : ChkOk x y z a b c := by
  unfold chk at h
  simp only [litN_eq, Bool.and_eq_true] at h
  obtain ⟨h0, h1⟩ := h
  have hb := fun u v w => bars_ok h1 u v w
  simp only [Bool.and_eq_true] at hb
  exact ⟨Nat.le_of_ble_eq_true h0, fun u v w => Nat.eq_of_beq_eq_true (hb u v w).1, fun u v w => Nat.le_of_ble_eq_true (hb u v w).2.1, fun u v w => Nat.eq_of_beq_eq_true (hb u v w).2.2⟩
def chk4 (x y z : Bool) (a : Nat) : Bool := [1, 2, 3, 4].all fun b => [1, 2, 3, 4].all fun c => chk x y z a b c
theorem chk_fff1 : chk4 false false false 1 = true := by decide +kernel
theorem chk_fff2 : chk4 false false false 2 = true := by decide +kernel
theorem chk_fff3 : chk4 false false false 3 = true := by decide +kernel
theorem chk_fff4 : chk4 false false false 4 = true := by decide +kernel
theorem chk_fft1 : chk4 false false true 1 = true := by decide +kernel
theorem chk_fft2 : chk4 false false true 2 = true := by decide +kernel
theorem chk_fft3 : chk4 false false true 3 = true := by decide +kernel
theorem chk_fft4 : chk4 false false true 4 = true := by decide +kernel
theorem chk_ftf1 : chk4 false true false 1 = true := by decide +kernel
theorem chk_ftf2 : chk4 false true false 2 = true := by decide +kernel
theorem chk_ftf3 : chk4 false true false 3 = true := by decide +kernel
theorem chk_ftf4 : chk4 false true false 4 = true := by decide +kernel
theorem chk_ftt1 : chk4 false true true 1 = true := by decide +kernel
theorem chk_ftt2 : chk4 false true true 2 = true := by decide +kernel
theorem chk_ftt3 : chk4 false true true 3 = true := by decide +kernel
theorem chk_ftt4 : chk4 false true true 4 = true := by decide +kernel
theorem chk_tff1 : chk4 true false false 1 = true := by decide +kernel
theorem chk_tff2 : chk4 true false false 2 = true := by decide +kernel
theorem chk_tff3 : chk4 true false false 3 = true := by decide +kernel
theorem chk_tff4 : chk4 true false false 4 = true := by decide +kernel
theorem chk_tft1 : chk4 true false true 1 = true := by decide +kernel
theorem chk_tft2 : chk4 true false true 2 = true := by decide +kernel
theorem chk_tft3 : chk4 true false true 3 = true := by decide +kernel
theorem chk_tft4 : chk4 true false true 4 = true := by decide +kernel
theorem chk_ttf1 : chk4 true true false 1 = true := by decide +kernel
theorem chk_ttf2 : chk4 true true false 2 = true := by decide +kernel
theorem chk_ttf3 : chk4 true true false 3 = true := by decide +kernel
theorem chk_ttf4 : chk4 true true false 4 = true := by decide +kernel
theorem chk_ttt1 : chk4 true true true 1 = true := by decide +kernel
theorem chk_ttt2 : chk4 true true true 2 = true := by decide +kernel
theorem chk_ttt3 : chk4 true true true 3 = true := by decide +kernel
theorem chk_ttt4 : chk4 true true true 4 = true := by decide +kernel
theorem chk_all {x y z : Bool} {a b c : Nat} (a1 : 1 ≤ a) (a4 : a ≤ 4) (b1 : 1 ≤ b) (b4 : b ≤ 4) (c1 : 1 ≤ c) (c4 : c ≤ 4) : ChkOk x y z a b c := by
  have k : chk4 x y z a = true → ChkOk x y z a b c := fun e => by
    have hb : b ∈ [1, 2, 3, 4] := by simp; lia
    have hc : c ∈ [1, 2, 3, 4] := by simp; lia
    exact chk_ok (List.all_eq_true.mp (List.all_eq_true.mp e b hb) c hc)
  have ha : a = 1 ∨ a = 2 ∨ a = 3 ∨ a = 4 := by lia
  cases x <;> cases y <;> cases z <;> rcases ha with rfl | rfl | rfl | rfl
  · exact k chk_fff1
  · exact k chk_fff2
  · exact k chk_fff3
  · exact k chk_fff4
  · exact k chk_fft1
  · exact k chk_fft2
  · exact k chk_fft3
  · exact k chk_fft4
  · exact k chk_ftf1
  · exact k chk_ftf2
  · exact k chk_ftf3
  · exact k chk_ftf4
  · exact k chk_ftt1
  · exact k chk_ftt2
  · exact k chk_ftt3
  · exact k chk_ftt4
  · exact k chk_tff1
  · exact k chk_tff2
  · exact k chk_tff3
  · exact k chk_tff4
  · exact k chk_tft1
  · exact k chk_tft2
  · exact k chk_tft3
  · exact k chk_tft4
  · exact k chk_ttf1
  · exact k chk_ttf2
  · exact k chk_ttf3
  · exact k chk_ttf4
  · exact k chk_ttt1
  · exact k chk_ttt2
  · exact k chk_ttt3
  · exact k chk_ttt4
/-- the number of words of each length, and of those kept -/
theorem cnt_ok {x y z : Bool} {a b c : Nat} (hs : Sz3 [a, b, c]) (C : ChkOk x y z a b c) (u v w : Bool) {k lim f : Nat} (hk : k ≤ kOf (qOf x y z false false false (2 ^ (20 * a)) (2 ^ (20 * b)) (2 ^ (20 * c)))) (hl : k ≤ lim) (hf : lim ≤ f) (h8 : lim ≤ 8) :
    cntW (keepW (mat x y z) (barOf u v w)) (TT (mat x y z) [a, b, c] lim f p0) k = dg (qOf x y z u v w (2 ^ (20 * a)) (2 ^ (20 * b)) (2 ^ (20 * c))) (8 - k) := by
  have hw := C.ws u v w
  generalize qOf x y z u v w (2 ^ (20 * a)) (2 ^ (20 * b)) (2 ^ (20 * c)) = q at hw ⊢
  generalize hK : kOf (qOf x y z false false false (2 ^ (20 * a)) (2 ^ (20 * b)) (2 ^ (20 * c))) = K at hk hw
  have hK8 : K ≤ 8 := by
    rw [← hK]
    unfold kOf
    have := List.length_filter_le (fun k => Nat.ble (((every (qOf x y z false false false (2 ^ (20 * a)) (2 ^ (20 * b)) (2 ^ (20 * c)))).take (k + 1)).sum) 26) (List.range 9)
    rw [List.length_range] at this
    lia
  rw [TT_stable hs f 8 p0 (by show lim ≤ 0 + f; lia) (by show lim ≤ 0 + 8; lia), cntW_lim hl hk]
  have e := WS_ok (x := x) (y := y) (z := z) (u := u) (v := v) (w := w) (a := a) (b := b) (c := c) (lim := K) 8 p0
  have e' : WS x y z u v w a b c K 8 0 true true true false false false = ((TT (mat x y z) [a, b, c] K 8 p0).map (wgt (keepW (mat x y z) (barOf u v w)))).sum := e
  rw [hw] at e'
  have hlt : ∀ p ∈ TT (mat x y z) [a, b, c] K 8 p0, p.1 < 9 := fun p hp => by
    have := (TT_mem hs 8 p0 (fun c h => nomatch h) (Nat.le_refl _) (Nat.zero_le _) p hp).2.2.2
    lia
  have e2 := wsum (q := keepW (mat x y z) (barOf u v w)) (wt := fun k => 2 ^ (20 * (8 - k))) hlt
  have e3 : ((TT (mat x y z) [a, b, c] K 8 p0).map (wgt (keepW (mat x y z) (barOf u v w)))).sum = ((List.range 9).map fun k => cntW (keepW (mat x y z) (barOf u v w)) (TT (mat x y z) [a, b, c] K 8 p0) k * 2 ^ (20 * (8 - k))).sum := e2
  have hd := pack_dig (c := fun k => cntW (keepW (mat x y z) (barOf u v w)) (TT (mat x y z) [a, b, c] K 8 p0) k) (fun k => Nat.lt_of_le_of_lt (Nat.le_trans cntW_le (TT_len 8 p0)) (by decide)) (k := k) (by lia)
  rw [hd, ← e3, ← e']
  unfold dg
  congr 1
  rw [show 20 * (8 - k) = 20 * (8 - K) + 20 * (K - k) from by lia, Nat.pow_add, ← Nat.div_div_eq_div_mul, ← Nat.div_div_eq_div_mul, Nat.mul_div_cancel _ (Nat.pow_pos (by decide))]

theorem near_self (a : Int) : near a a = 0 := by
  unfold near; rw [Int.sub_self]; decide
theorem near_comm (a b : Int) : near a b = near b a := Int.min_comm _ _
theorem mat_of {h0 h1 h2 r : Int} (hr : 0 ≤ r) : looseM [h0, h1, h2] r = mat (decide (r < near h0 h1)) (decide (r < near h0 h2)) (decide (r < near h1 h2)) := by
  show [[decide (r < near h0 h0), decide (r < near h0 h1), decide (r < near h0 h2)], [decide (r < near h1 h0), decide (r < near h1 h1), decide (r < near h1 h2)], [decide (r < near h2 h0), decide (r < near h2 h1), decide (r < near h2 h2)]] = _
  rw [near_self, near_self, near_self, near_comm h1 h0, near_comm h2 h0, near_comm h2 h1, show decide (r < 0) = false from decide_eq_false (by lia)]
  rfl
theorem near_mod (a b : Int) : near (a.fmod 16) (b.fmod 16) = near (hueI a) (hueI b) := by
  unfold near hueI
  simp only [Int.fmod_eq_emod_of_nonneg _ (show (0 : Int) ≤ 16 by decide), Int.fmod_eq_emod_of_nonneg _ (show (0 : Int) ≤ 32 by decide)]
  have e : ∀ a b : Int, (a % 16 - b % 16) % 16 = (a % 32 - b % 32) % 16 := fun a b => by lia
  rw [e a b, e b a]
theorem barN_of (T : Int) : ∃ u v w : Bool, barN T = barOf u v w := by
  refine ⟨((T.fdiv 8).fdiv (2 ^ 0)).fmod 2 == 1, ((T.fdiv 8).fdiv (2 ^ 1)).fmod 2 == 1, ((T.fdiv 8).fdiv (2 ^ 2)).fmod 2 == 1, ?_⟩
  unfold barN
  show List.filter _ [0, 1, 2] = _
  rw [List.filter_cons, List.filter_cons, List.filter_cons]
  unfold barOf
  cases ((T.fdiv 8).fdiv (2 ^ 0)).fmod 2 == 1 <;> cases ((T.fdiv 8).fdiv (2 ^ 1)).fmod 2 == 1 <;> cases ((T.fdiv 8).fdiv (2 ^ 2)).fmod 2 == 1 <;> rfl
theorem valN_range (c : Int) : 1 ≤ valN c ∧ valN c ≤ 4 := by
  have h1 : 0 ≤ (c.fdiv 128).fmod 4 := Int.fmod_nonneg_of_pos _ (by decide)
  have h2 : (c.fdiv 128).fmod 4 < 4 := Int.fmod_lt_of_pos _ (by decide)
  unfold valN valI
  lia
theorem m3_mat (x y z : Bool) : M3 (mat x y z) := ⟨rfl, fun r hr => by
  rcases List.mem_cons.mp hr with rfl | hr
  · rfl
  · rcases List.mem_cons.mp hr with rfl | hr
    · rfl
    · rw [List.mem_singleton.mp hr]; rfl⟩
theorem countOk {x y z : Bool} {a b c wd : Nat} (a1 : 1 ≤ a) (a4 : a ≤ 4) (b1 : 1 ≤ b) (b4 : b ≤ 4) (c1 : 1 ≤ c) (c4 : c ≤ 4) (C : ChkOk x y z a b c) (h20 : 20 ≤ wd) (h28 : wd ≤ 28) (u v w : Bool) :
    CountOk (barOf u v w) (mat x y z) [a, b, c] wd (sD x y z u v w ((2 ^ wd) ^ a) ((2 ^ wd) ^ b) ((2 ^ wd) ^ c)) (sD x y z true true true ((2 ^ wd) ^ a) ((2 ^ wd) ^ b) ((2 ^ wd) ^ c)) := by
  have hk : 3 ≤ wd := by lia
  have sb := s_bounds (x := x) (y := y) (z := z) (u := u) (v := v) (w := w) (pow8 hk a1) (pow8 hk b1) (pow8 hk c1)
  have sa := s_bounds (x := x) (y := y) (z := z) (u := true) (v := true) (w := true) (pow8 hk a1) (pow8 hk b1) (pow8 hk c1)
  have dv := div_wd (x := x) (y := y) (z := z) (u := u) (v := v) (w := w) a1 b1 c1 rfl (C.q1 u v w) (C.qd u v w) h20
  have eb := sets_eq (x := x) (y := y) (z := z) (u := u) (v := v) (w := w) (a := a) (b := b) (c := c) (B := 2 ^ wd)
  have ea := sets_eq (x := x) (y := y) (z := z) (u := true) (v := true) (w := true) (a := a) (b := b) (c := c) (B := 2 ^ wd)
  have hP1 : (2 ^ wd) ^ a * (2 ^ wd) ^ b * (2 ^ wd) ^ c ≤ 2 ^ 336 := by
    rw [← Nat.pow_mul, ← Nat.pow_mul, ← Nat.pow_mul, ← Nat.pow_add, ← Nat.pow_add]
    refine Nat.pow_le_pow_right (by decide) ?_
    have := Nat.mul_le_mul h28 a4
    have := Nat.mul_le_mul h28 b4
    have := Nat.mul_le_mul h28 c4
    lia
  have hP0 : 2 ^ 60 ≤ (2 ^ wd) ^ a * (2 ^ wd) ^ b * (2 ^ wd) ^ c := by
    rw [← Nat.pow_mul, ← Nat.pow_mul, ← Nat.pow_mul, ← Nat.pow_add, ← Nat.pow_add]
    refine Nat.pow_le_pow_right (by decide) ?_
    have := Nat.mul_le_mul h20 a1
    have := Nat.mul_le_mul h20 b1
    have := Nat.mul_le_mul h20 c1
    lia
  have lt : ∀ d ∈ dl (qOf x y z u v w (2 ^ (20 * a)) (2 ^ (20 * b)) (2 ^ (20 * c))), d < 2 ^ wd := fun d hd => Nat.lt_of_lt_of_le (dl_lt hd) (Nat.pow_le_pow_right (by decide) h20)
  have vl := valL_lt wd _ lt
  rw [show (dl (qOf x y z u v w (2 ^ (20 * a)) (2 ^ (20 * b)) (2 ^ (20 * c)))).length = 9 from by unfold dl; simp] at vl
  have e338 : sD x y z u v w ((2 ^ wd) ^ a) ((2 ^ wd) ^ b) ((2 ^ wd) ^ c) ≤ 2 ^ 337 := by
    unfold sD
    have : (2 : Nat) ^ 337 = 2 * 2 ^ 336 := by rw [Nat.pow_succ, Nat.mul_comm]
    rw [this]
    generalize (2 : Nat) ^ 336 = Q at hP1 ⊢
    lia
  have e338a : sD x y z true true true ((2 ^ wd) ^ a) ((2 ^ wd) ^ b) ((2 ^ wd) ^ c) ≤ 2 ^ 337 := by
    unfold sD
    have : (2 : Nat) ^ 337 = 2 * 2 ^ 336 := by rw [Nat.pow_succ, Nat.mul_comm]
    rw [this]
    generalize (2 : Nat) ^ 336 = Q at hP1 ⊢
    lia
  have ea59 : 2 ^ 59 ≤ sD x y z true true true ((2 ^ wd) ^ a) ((2 ^ wd) ^ b) ((2 ^ wd) ^ c) := by
    unfold sD
    have : (2 : Nat) ^ 60 = 2 * 2 ^ 59 := by rw [Nat.pow_succ, Nat.mul_comm]
    rw [this] at hP0
    generalize (2 : Nat) ^ 59 = Q at hP0 ⊢
    lia
  have big : (2 : Nat) ^ 337 < 2 ^ 4000 := Nat.pow_lt_pow_right (by decide) (by decide)
  have ib : 59 < Builtin.Int.intBits ((sD x y z true true true ((2 ^ wd) ^ a) ((2 ^ wd) ^ b) ((2 ^ wd) ^ c) : Nat) : Int) := Nat.lt_of_not_le fun h => by
    have := intBits_le_iff.mp h
    rw [Int.natAbs_natCast] at this
    exact absurd (Nat.lt_of_le_of_lt ea59 this) (Nat.lt_irrefl _)
  refine ⟨?_, m3_mat x y z, rfl, fun s hs => ?_, by lia, by lia, ?_, ?_, Nat.lt_of_lt_of_le (Nat.pow_pos (by decide)) ea59, Nat.lt_of_le_of_lt e338a big, Nat.lt_of_le_of_lt e338 big, ?_, ?_⟩
  · unfold barOf
    cases u <;> cases v <;> cases w <;> decide
  · rcases List.mem_cons.mp hs with rfl | hs
    · exact a4
    · rcases List.mem_cons.mp hs with rfl | hs
      · exact b4
      · rw [List.mem_singleton.mp hs]; exact c4
  · rw [eb]
    unfold sD
    lia
  · refine Eq.trans ea ?_
    unfold sD
    lia
  · have h8 : (2 ^ wd) ^ 8 ≤ 2 ^ 224 := by
      rw [← Nat.pow_mul]
      exact Nat.pow_le_pow_right (by decide) (Nat.le_trans (Nat.mul_le_mul_right 8 h28) (by decide))
    refine Nat.lt_of_le_of_lt (Nat.mul_le_mul h8 e338) ?_
    rw [← Nat.pow_add]
    refine Nat.pow_lt_pow_right (by decide) ?_
    have := Nat.mul_le_mul_right 60 ib
    lia
  · rw [dv]
    refine Nat.lt_of_lt_of_le vl (Nat.pow_le_pow_right (by decide) ?_)
    exact Nat.mul_le_mul_left _ (by decide)
theorem every_take {q m : Nat} (h : m ≤ 9) : (every q).take m = (List.range m).map fun k => dg q (8 - k) := by
  have e : every q = (List.range 9).map fun k => dg q (8 - k) := rfl
  rw [e, ← List.map_take, List.take_range, Nat.min_eq_left h]
theorem sum_take_le (l : List Nat) {m n : Nat} (h : m ≤ n) : (l.take m).sum ≤ (l.take n).sum := by
  have e : l.take n = l.take m ++ (l.drop m).take (n - m) := by
    rw [← List.take_add, show m + (n - m) = n from by lia]
  rw [e, sum_append]
  lia
theorem filter_le {p q : Nat → Bool} (h : ∀ k, p k = true → q k = true) : ∀ l : List Nat, (l.filter p).length ≤ (l.filter q).length
  | [] => Nat.le_refl _
  | a :: l => by
    have ih := filter_le h l
    rw [List.filter_cons, List.filter_cons]
    cases e : p a with
    | true => rw [h a e, if_pos rfl, if_pos rfl, List.length_cons, List.length_cons]; lia
    | false =>
      rw [if_neg (by simp)]
      split
      · rw [List.length_cons]; lia
      · exact ih
theorem keep_nil (M : Mx) (p : P2) : keepW M (barOf false false false) p = true := rfl
theorem plain (c0 c1 c2 : Int) : ∃ (T : Int) (M : Mx) (sz : List Nat) (wd s0 sb sa : Nat) (ev sp : List Nat) (lg Fu : Nat) (r : List P2), LawOk c0 c1 c2 T M sz wd s0 sb sa ev sp lg Fu r := by
  obtain ⟨T, hT⟩ : ∃ T, T = 3 + (c0 + (c1 + (c2 + 0))) := ⟨_, rfl⟩
  have hr0 : 0 ≤ T.fmod 8 := Int.fmod_nonneg_of_pos _ (by decide)
  have hm := mat_of (h0 := hueI c0) (h1 := hueI c1) (h2 := hueI c2) hr0
  have hm' := mat_of (h0 := c0.fmod 16) (h1 := c1.fmod 16) (h2 := c2.fmod 16) hr0
  rw [near_mod, near_mod, near_mod] at hm'
  generalize decide (T.fmod 8 < near (hueI c0) (hueI c1)) = x at hm hm'
  generalize decide (T.fmod 8 < near (hueI c0) (hueI c2)) = y at hm hm'
  generalize decide (T.fmod 8 < near (hueI c1) (hueI c2)) = z at hm hm'
  obtain ⟨a1, a4⟩ := valN_range c0
  obtain ⟨b1, b4⟩ := valN_range c1
  obtain ⟨d1, d4⟩ := valN_range c2
  obtain ⟨u, v, w, hbar⟩ := barN_of T
  have hw0 : 0 ≤ T.fmod 9 := Int.fmod_nonneg_of_pos _ (by decide)
  have hw1 : T.fmod 9 < 9 := Int.fmod_lt_of_pos _ (by decide)
  obtain ⟨wd, hwd⟩ : ∃ wd : Nat, 20 + T.fmod 9 = (wd : Nat) := ⟨(20 + T.fmod 9).toNat, by lia⟩
  have h20 : 20 ≤ wd := by lia
  have h28 : wd ≤ 28 := by lia
  have ho0 : 0 ≤ (T.fdiv 64).fmod 15 := Int.fmod_nonneg_of_pos _ (by decide)
  have ho1 : (T.fdiv 64).fmod 15 < 15 := Int.fmod_lt_of_pos _ (by decide)
  generalize ha : valN c0 = a at a1 a4
  generalize hb : valN c1 = b at b1 b4
  generalize hd : valN c2 = d at d1 d4
  have C := chk_all (x := x) (y := y) (z := z) a1 a4 b1 b4 d1 d4
  have hs : Sz3 [a, b, d] := ⟨a1, b1, d1⟩
  have k0 := countOk a1 a4 b1 b4 d1 d4 C h20 h28 false false false
  have kb := countOk a1 a4 b1 b4 d1 d4 C h20 h28 u v w
  have q0 := C.q1 false false false
  have qb := C.q1 u v w
  have v0 := div_wd a1 b1 d1 rfl q0 (C.qd false false false) h20
  have vb := div_wd a1 b1 d1 rfl qb (C.qd u v w) h20
  have k26 := C.k26
  have cnt := fun (u v w : Bool) (k lim f : Nat) hk hl hf h8 => cnt_ok hs C u v w (k := k) (lim := lim) (f := f) hk hl hf h8
  obtain ⟨Q0, hQ0⟩ : ∃ Q0, qOf x y z false false false (2 ^ (20 * a)) (2 ^ (20 * b)) (2 ^ (20 * d)) = Q0 := ⟨_, rfl⟩
  obtain ⟨Qb, hQb⟩ : ∃ Qb, qOf x y z u v w (2 ^ (20 * a)) (2 ^ (20 * b)) (2 ^ (20 * d)) = Qb := ⟨_, rfl⟩
  rw [hQ0] at q0 v0 k26
  rw [hQb] at qb vb
  have e0 : (every Q0).take 1 = [dg Q0 8] := every_take (by decide)
  have d8 : dg Q0 8 = 1 := by unfold dg; rw [show 20 * 8 = 160 from rfl, q0]
  -- the greatest length
  obtain ⟨N, hN⟩ : ∃ N, ((List.range 9).filter fun k => decide (((((every Q0).take (k + 1)).sum : Nat) : Int) ≤ 26 - (T.fdiv 64).fmod 15)).length = N := ⟨_, rfl⟩
  have hNpos : 0 < N := by
    rw [← hN]
    refine List.length_pos_of_mem (a := 0) (List.mem_filter.mpr ⟨by simp, decide_eq_true ?_⟩)
    rw [e0, d8]
    show ((1 : Nat) : Int) ≤ _
    lia
  have hNK : N ≤ kOf Q0 + 1 := by
    have : N ≤ ((List.range 9).filter fun k => Nat.ble (((every Q0).take (k + 1)).sum) 26).length := by
      rw [← hN]
      refine filter_le (fun k hk => ?_) _
      have := of_decide_eq_true hk
      exact Nat.ble_eq_true_of_le (by lia)
    unfold kOf
    lia
  have hN9 : N ≤ 9 := by
    rw [← hN]
    exact Nat.le_trans (List.length_filter_le _ _) (by rw [List.length_range]; exact Nat.le_refl _)
  obtain ⟨lg, rfl⟩ : ∃ lg, N = lg + 1 := ⟨N - 1, by lia⟩
  have cg : ∀ (u v w : Bool) (k : Nat), k ≤ lg → cntW (keepW (mat x y z) (barOf u v w)) (TT (mat x y z) [a, b, d] lg lg p0) k = dg (qOf x y z u v w (2 ^ (20 * a)) (2 ^ (20 * b)) (2 ^ (20 * d))) (8 - k) := fun u v w k hk => by
    refine cnt u v w k lg lg ?_ hk (Nat.le_refl _) (by lia)
    rw [hQ0]; lia
  have hlen : (TT (mat x y z) [a, b, d] lg lg p0).length ≤ 26 := by
    have h1 := wsum (q := keepW (mat x y z) (barOf false false false)) (wt := fun _ => 1) (n := lg + 1) (L := TT (mat x y z) [a, b, d] lg lg p0) (fun p hp => by
      have := (TT_mem hs lg p0 (fun c h => nomatch h) (Nat.le_refl _) (Nat.zero_le _) p hp).2.2.2
      lia)
    have h2 : ∀ L : List P2, (L.map fun p => bif keepW (mat x y z) (barOf false false false) p then 1 else 0).sum = L.length := fun L => by
      induction L with
      | nil => rfl
      | cons p L ih => rw [List.map_cons, List.sum_cons, ih, keep_nil, List.length_cons]; show 1 + _ = _; lia
    have h3 : ((List.range (lg + 1)).map fun k => cntW (keepW (mat x y z) (barOf false false false)) (TT (mat x y z) [a, b, d] lg lg p0) k * 1) = (every Q0).take (lg + 1) := by
      rw [every_take hN9]
      refine List.map_congr_left fun k hk => ?_
      have := List.mem_range.mp hk
      rw [Nat.mul_one, cg false false false k (by lia), hQ0]
    rw [← h2, h1, h3]
    exact Nat.le_trans (sum_take_le _ hNK) k26
  have efl : [p0].flatMap (TT (mat x y z) [a, b, d] lg lg) = TT (mat x y z) [a, b, d] lg lg p0 := List.flatMap_singleton ..
  obtain ⟨r, hrun, hperm, hasc, _⟩ := run_ok (M := mat x y z) (lim := lg) hs (by lia) 26 [p0] (by decide) (fun i h1 h2 => by simp at h2; lia) (fun p hp => by
    rw [List.mem_singleton.mp hp]; exact ⟨Nat.zero_le _, Nat.le_refl _⟩) (by rw [efl]; exact hlen)
  rw [efl] at hperm
  have hrl := hperm.length_eq
  have cr : ∀ (u v w : Bool) (k : Nat), k ≤ lg → cntW (keepW (mat x y z) (barOf u v w)) r k = dg (qOf x y z u v w (2 ^ (20 * a)) (2 ^ (20 * b)) (2 ^ (20 * d))) (8 - k) := fun u v w k hk => by
    rw [← cg u v w k hk]
    unfold cntW
    exact ((hperm.filter _).map _).count_eq k
  refine ⟨T, mat x y z, [a, b, d], wd, sD x y z false false false ((2 ^ wd) ^ a) ((2 ^ wd) ^ b) ((2 ^ wd) ^ d), sD x y z u v w ((2 ^ wd) ^ a) ((2 ^ wd) ^ b) ((2 ^ wd) ^ d), sD x y z true true true ((2 ^ wd) ^ a) ((2 ^ wd) ^ b) ((2 ^ wd) ^ d),
    every Q0, every Qb, lg, 26, r, ?_⟩
  exact {
    col := fun c _ => colOk c
    t := hT
    m := hm.symm
    m' := hm'.symm
    esz := by rw [ha, hb, hd]
    ewd := hwd
    k0 := k0
    kb := by rw [hbar]; exact kb
    ev := by rw [v0, figs_wd h20 q0]; rfl
    sp := by rw [vb, figs_wd h20 qb]; rfl
    elg := hN
    fu := by decide
    run := hrun
    r64 := by lia
    asc := fun i p q h1 h2 => by
      rw [List.getElem?_map] at h1 h2
      obtain ⟨p', e1, rfl⟩ := Option.map_eq_some_iff.mp h1
      obtain ⟨q', e2, rfl⟩ := Option.map_eq_some_iff.mp h2
      obtain ⟨l1, rfl⟩ := List.getElem?_eq_some_iff.mp e1
      obtain ⟨l2, rfl⟩ := List.getElem?_eq_some_iff.mp e2
      rw [wlt_cv]
      exact List.pairwise_iff_getElem.mp hasc i (i + 1) l1 l2 (by lia)
    lets := fun p hp => by
      have := TT_mem hs lg p0 (fun c h => nomatch h) (Nat.le_refl _) (Nat.zero_le _) p (hperm.mem_iff.mp hp)
      exact ⟨this.1, by lia⟩
    c1 := by
      rw [every_take hN9]
      refine List.map_congr_left fun k hk => ?_
      have hk' := List.mem_range.mp hk
      have := cr false false false k (by lia)
      rw [hQ0] at this
      rw [← this]
      unfold cntW
      rw [show r.filter (keepW (mat x y z) (barOf false false false)) = r from List.filter_eq_self.mpr fun p _ => keep_nil _ p]
    c2 := by
      rw [every_take hN9, hbar]
      refine List.map_congr_left fun k hk => ?_
      have hk' := List.mem_range.mp hk
      have := cr u v w k (by lia)
      rw [hQb] at this
      rw [← this]
      rfl }

set_option maxHeartbeats 0
abbrev pw : Program := PySem.Challenge.pw_qu0040_01
def view : Program := { pw with main := { pw.main with body := [1, 2, 3, 4, 5, 6, 7, 9, 10, 12, 13, 14, 15, 17, 18, 19, 20, 21, 22, 23].filterMap fun i => pw.main.body[i]? } }
def nsRef (o : Obj) (x : Str) : Option Addr := match nsIn [(mainGlobals, o)] mainGlobals x with
  | some (some (.ref a)) => some a
  | _ => none
def docNo (o : Obj) : Bool := match o.data with
  | .func fd => (match fd.doc with | .none => true | _ => false)
  | _ => false
def fnCode (o : Obj) : Option Addr := match o.data with
  | .func fd => (match fd.code with | .ref c => some c | _ => none)
  | _ => none
def codeTab (o : Obj) : Option Addr := match o.data with
  | .fields vs => (match (vs[11]? : Option Value) with | some (.ref P) => some P | _ => none)
  | _ => none
def fns : List (Nat × Addr) := [(2, 21), (4, 35), (5, 42), (6, 49), (7, 56), (9, 63), (10, 70), (12, 77), (13, 84), (14, 91), (15, 98), (17, 103), (18, 108), (19, 115), (20, 122), (21, 129), (22, 136), (23, 141)]
structure HdSays (h : Heap) : Prop where
  g : ∃ o, h.get? mainGlobals = some o ∧ fns.map (fun p => nsRef o (nameAt p.1)) = fns.map fun p => some p.2
  d : ∀ p ∈ fns, ∃ o, h.get? p.2 = some o ∧ docNo o = true
  f4 : ∃ o, h.get? 35 = some o ∧ fnCode o = some 34
  f5 : ∃ o, h.get? 42 = some o ∧ fnCode o = some 41
  c4 : ∃ o, h.get? 34 = some o ∧ codeTab o = some 30
  c5 : ∃ o, h.get? 41 = some o ∧ codeTab o = some 37
def hook : Hook where
  α := Option (List (Option Addr)) × List (Option Bool) × Option (Option Addr) × Option (Option Addr) × Option (Option Addr) × Option (Option Addr)
  obs := fun s => ((s.heap.get? mainGlobals).map (fun o => fns.map (fun p => nsRef o (nameAt p.1))), fns.map (fun p => (s.heap.get? p.2).map docNo), (s.heap.get? 35).map fnCode, (s.heap.get? 42).map fnCode, (s.heap.get? 34).map codeTab, (s.heap.get? 41).map codeTab)
  val := fun _ => (some (fns.map fun p => some p.2), fns.map (fun _ => some true), some (some 34), some (some 41), some (some 30), some (some 37))
  says := fun _ h => HdSays h
  of := fun w s e => by
    injection e with e1 e
    injection e with e2 e
    injection e with e3 e
    injection e with e4 e
    injection e with e5 e6
    exact ⟨Option.map_eq_some_iff.mp e1, fun p hp => Option.map_eq_some_iff.mp (List.map_inj_left.mp e2 p hp), Option.map_eq_some_iff.mp e3, Option.map_eq_some_iff.mp e4, Option.map_eq_some_iff.mp e5, Option.map_eq_some_iff.mp e6⟩
  keeps := fun w h h' x k => ⟨let ⟨o, a, b⟩ := x.g; ⟨o, k _ _ a, b⟩, fun p hp => let ⟨o, a, b⟩ := x.d p hp; ⟨o, k _ _ a, b⟩, let ⟨o, a, b⟩ := x.f4; ⟨o, k _ _ a, b⟩, let ⟨o, a, b⟩ := x.f5; ⟨o, k _ _ a, b⟩, let ⟨o, a, b⟩ := x.c4; ⟨o, k _ _ a, b⟩, let ⟨o, a, b⟩ := x.c5; ⟨o, k _ _ a, b⟩⟩
def posAt (i : Nat) : Pos := match pw.main.body[i]? with
  | some (.FunctionDef _ _ _ _ _ _ _ _ _ pos) => pos
  | _ => ⟨0, 0, 0, 0⟩
def recAt (i : Nat) : DefRec := ⟨nameAt i, paramsAt i, bodyAt i, scopeAt i, posAt i⟩
theorem recs_eq : recsOf view = [2, 3, 4, 5, 6, 7, 9, 10, 12, 13, 14, 15, 17, 18, 19, 20, 21, 22, 23].map recAt := by kernel_rfl
def Ua : TabSpec := ⟨34, 30, ⟨32, 4, 41, 28⟩, q4⟩
def Ub : TabSpec := ⟨41, 37, ⟨47, 4, 52, 55⟩, q5⟩
abbrev Hid (h ht : Heap) : Prop := ∀ b o, h.get? b = some o → b ≠ 30 → b ≠ 37 → ht.get? b = some o
theorem ns_hid {h ht : Heap} (hid : Hid h ht) {a : Addr} {m : Str → Option Value} (n : h.Ns a m) (n1 : a ≠ 30 := by decide) (n2 : a ≠ 37 := by decide) : ht.Ns a m :=
  let ⟨o, es, ep, e, r⟩ := n; ⟨o, es, ep, hid _ _ e n1 n2, r⟩
theorem codeHd_hid {h ht : Heap} (hid : Hid h ht) {c P : Addr} (x : CodeHd h c P) (n1 : c ≠ 30 := by decide) (n2 : c ≠ 37 := by decide) : CodeHd ht c P :=
  let ⟨o, vs, file, tf, flags, tg, inF, text, tt, e, r⟩ := x; ⟨o, vs, file, tf, flags, tg, inF, text, tt, hid _ _ e n1 n2, r⟩
section
variable {h ht : Heap} {loose : List Str} {mean : ExcName → Option Value} {mg mb : Str → Option Value}
theorem mg_fn (T : Top view loose mean mg mb h) (Y : HdSays h) {i : Nat} {a : Addr} (hm : (i, a) ∈ fns) : mg (nameAt i) = some (.ref a) := by
  obtain ⟨o, ho, e⟩ := Y.g
  have e1 : nsRef o (nameAt i) = some a := List.map_inj_left.mp e (i, a) hm
  unfold nsRef at e1
  split at e1
  · rename_i a' q
    cases e1
    refine mg_of (K := [(mainGlobals, o)]) (fun b o' hb => ?_) T.g q
    rw [List.lookup_cons] at hb
    split at hb
    · rename_i hq
      cases hb
      rw [beq_iff_eq.mp hq]; exact ho
    · cases hb
  · cases e1
theorem fn_T (T : Top view loose mean mg mb h) (Y : HdSays h) (t1 : h.get? 30 = some (tabObj #[])) (t2 : h.get? 37 = some (tabObj #[])) (hid : Hid h ht) {i : Nat} {a : Addr} (hm : (i, a) ∈ fns) (hr : recAt i ∈ recsOf view) (n1 : a ≠ 30) (n2 : a ≠ 37) :
    ∃ o pm cd, h.get? a = some o ∧ o.data = .func (fdAt i pm cd) ∧ FnAt ht mg i cd := by
  obtain ⟨a', o, pm, code, doc, g1, g2, g3, g4⟩ := T.fn (recAt i) hr
  have e := mg_fn T Y hm
  rw [show mg (nameAt i) = some (.ref a') from g1] at e
  cases e
  obtain ⟨o', k1, k2⟩ := Y.d (i, a) hm
  rw [show h.get? a = some o' from k1] at g2
  cases g2
  have hdoc : doc = .none := by
    unfold docNo at k2
    rw [g3] at k2
    cases doc <;> first | rfl | cases k2
  subst hdoc
  refine ⟨o, pm, code, k1, g3, a, o, pm, mg_fn T Y hm, hid _ _ k1 n1 n2, g3, ?_⟩
  obtain ⟨c, oc, vs, t, rfl, q1, q2, q3⟩ := g4
  have nt : ∀ P, h.get? P = some (tabObj #[]) → c ≠ P := fun P hP q => by
    subst q
    rw [hP] at q1; cases q1; cases q2; cases q3
  exact ⟨c, oc, vs, t, rfl, hid _ _ q1 (nt _ t1) (nt _ t2), q2, q3⟩
theorem tab_T (T : Top view loose mean mg mb h) (Y : HdSays h) {i : Nat} {a c P : Addr} (hm : (i, a) ∈ fns) (hr : recAt i ∈ recsOf view) (hf : ∃ o, h.get? a = some o ∧ fnCode o = some c) (hc : ∃ o, h.get? c = some o ∧ codeTab o = some P) :
    CodeHd h c P ∧ h.get? P = some (tabObj #[]) := by
  obtain ⟨a', o, fd, c', P', g1, g2, g3, g4, g5, g6⟩ := T.tab (recAt i) hr
  have e := mg_fn T Y hm
  rw [show mg (nameAt i) = some (.ref a') from g1] at e
  cases e
  obtain ⟨o1, k1, k2⟩ := hf
  rw [k1] at g2; cases g2
  unfold fnCode at k2
  rw [g3] at k2
  dsimp only at k2
  rw [g4] at k2
  cases k2
  obtain ⟨o2, m1, m2⟩ := hc
  obtain ⟨⟨oc, vs, r1, r2, r3, r4⟩, r5⟩ := id g6
  rw [m1] at r1; cases r1
  unfold codeTab at m2
  rw [r3] at m2
  dsimp only at m2
  rw [r4] at m2
  cases m2
  exact ⟨.of g5 g6, r5⟩
theorem ctx_of (T : Top view loose mean mg mb h) (hloose : loose = looseW view []) (Y : HdSays h) (t1 : h.get? 30 = some (tabObj #[])) (t2 : h.get? 37 = some (tabObj #[])) (hid : Hid h ht) : Ctx ht mg mb Ua Ub := by
  have bat : ∀ Pl : Addr, h.get? Pl = some (tabObj #[]) → ht.BuiltinsAt mg Pl := by
    intro Pl hP
    obtain ⟨bm, ob, h1, h2, h3, h4, h5, h6⟩ := T.bmain
    have nt : ∀ P, h.get? P = some (tabObj #[]) → bm ≠ P := fun P hP q => by rw [q, hP] at h3; cases h3; cases h6
    refine ⟨bm, ob, h1, h2, fun q => ?_, nt _ hP, hid _ _ h3 (nt _ t1) (nt _ t2), h4, h5, h6⟩
    obtain ⟨o, es, ep, e, hd, _⟩ := T.g
    rw [q, e] at h3; cases h3; rw [h6] at hd; cases hd
  have rm : ∀ i ∈ [2, 3, 4, 5, 6, 7, 9, 10, 12, 13, 14, 15, 17, 18, 19, 20, 21, 22, 23], recAt i ∈ recsOf view := fun i hi => by rw [recs_eq]; exact List.mem_map.mpr ⟨i, hi, rfl⟩
  have f : ∀ p ∈ fns, ∃ o pm cd, h.get? p.2 = some o ∧ o.data = .func (fdAt p.1 pm cd) ∧ FnAt ht mg p.1 cd := fun p hp => by
    have k : ∀ p ∈ fns, p.1 ∈ [2, 3, 4, 5, 6, 7, 9, 10, 12, 13, 14, 15, 17, 18, 19, 20, 21, 22, 23] ∧ p.2 ≠ 30 ∧ p.2 ≠ 37 := by decide
    exact fn_T T Y t1 t2 hid hp (rm _ (k p hp).1) (k p hp).2.1 (k p hp).2.2
  have cdOf : ∀ {i : Nat} {a c : Addr}, (i, a) ∈ fns → (∃ o, h.get? a = some o ∧ fnCode o = some c) → FnAt ht mg i (.ref c) := fun hm ⟨o1, k1, k2⟩ => by
    obtain ⟨o, pm, cd, g1, g2, g3⟩ := f _ hm
    rw [show h.get? _ = some o1 from k1] at g1; cases g1
    unfold fnCode at k2
    rw [g2] at k2
    cases cd <;> first | (cases k2; exact g3) | cases k2
  obtain ⟨v, hv, hrd⟩ := T.const "_DIV_LIMIT" (.int 4000) (by kernel_rfl)
  have b : ∀ x : Str, x ≠ "__name__" → ∀ v, bootBuiltins x = some v → mb x = some v := fun x hx v e => (T.builtins x hx).trans e
  refine {
    base := ⟨ns_hid hid T.g, ns_hid hid T.b, let ⟨mc, a, b⟩ := T.nolimit; ⟨mc, ns_hid hid a, b⟩⟩
    fn := fun i hi => by
      have k : ∀ i ∈ [2, 6, 7, 9, 10, 12, 13, 14, 15, 17, 18, 19, 20, 21, 22], ∃ p ∈ fns, p.1 = i := by decide
      obtain ⟨p, hp, rfl⟩ := k i hi
      obtain ⟨_, _, cd, _, _, g⟩ := f p hp
      exact ⟨cd, g⟩
    fn4 := cdOf (by decide) Y.f4
    fn5 := cdOf (by decide) Y.f5
    b1 := bat _ t1
    b2 := bat _ t2
    ne := by decide
    lim := by cases hrd h with | int i t => exact ⟨t, hv⟩
    nog := fun x hx => by
      have k : ∀ x ∈ (["int", "len", "sum", "min", "max", "range", "ord", "divmod", "reversed", "sorted"] : List Str), x ∉ startupNames ∧ x ∉ looseW view [] ∧ x ∉ (recsOf view).map (·.name) ∧ x ∉ (litsOf view).map (·.1) ∧ x ∉ (clssOf view (looseW view [])).map (·.name) := by decide +kernel
      obtain ⟨k1, k2, k3, k4, k5⟩ := k x hx
      subst hloose
      exact T.free x k1 k2 k3 k4 k5
    bi := b _ (by decide) _ (by kernel_rfl)
    bl := b _ (by decide) _ (by kernel_rfl)
    bs := b _ (by decide) _ (by kernel_rfl)
    bmin := b _ (by decide) _ (by kernel_rfl)
    bmax := b _ (by decide) _ (by kernel_rfl)
    br := b _ (by decide) _ (by kernel_rfl)
    bo := b _ (by decide) _ (by kernel_rfl)
    bd := b _ (by decide) _ (by kernel_rfl)
    brev := b _ (by decide) _ (by kernel_rfl)
    bsort := b _ (by decide) _ (by kernel_rfl) }
end
def PlainLaw : Prop := ∀ ns : List Int, ns.length ≤ 63 → ∃ (T : Int) (M : Mx) (sz : List Nat) (wd s0 sb sa : Nat) (every spared : List Nat) (lg Fu : Nat) (r : List P2), LawOk (208 + ciS ns 0) (263 + ciS ns 1) (122 + ciS ns 2) T M sz wd s0 sb sa every spared lg Fu r
theorem relL_ints {φ : Frz} : ∀ {vs : List Value} {ns : List Int}, IntsAre vs ns → RelL φ (ns.map V.int) vs
  | _, _, .nil => .nil
  | _, _, .cons n t h => .cons (.int n t) (relL_ints h)
theorem run_law {w : World} {s₁ : Shared} {loose : List Str} {mean : ExcName → Option Value} {mg mb : Str → Option Value} (Y : HdSays s₁.heap) (T : Top view loose mean mg mb s₁.heap) (hloose : loose = looseW view []) {fa l : Addr} {vs : List Value} {ns : List Int} (hl : s₁.heap.get? l = some (lstObj vs 0)) (hI : IntsAre vs ns) (hn : ns.length ≤ 63)  (hfa : mg (nameAt 23) = some (.ref fa)) (PL : PlainLaw) {prog : Program} :
    wpAny (model prog w) callerA (call (.ref fa) [.ref l]) (fun c s' => ∃ h' tk', s' = { s₁ with heap := h', toks := tk' } ∧ c = .bool true ∧ OldK s₁.heap h') (fun _ _ => False) s₁ := by
  have hid : Hid s₁.heap (hideAll s₁.heap [30, 37]) := fun b o e n1 n2 => hideAll_get _ e (by simp [n1, n2])
  have rm : ∀ i ∈ [4, 5, 23], recAt i ∈ recsOf view := fun i hi => by
    rw [recs_eq]
    have k : ∀ i ∈ [4, 5, 23], i ∈ [2, 3, 4, 5, 6, 7, 9, 10, 12, 13, 14, 15, 17, 18, 19, 20, 21, 22, 23] := by decide
    exact List.mem_map.mpr ⟨i, k i hi, rfl⟩
  obtain ⟨c1, t1⟩ := tab_T (i := 4) T Y (by decide) (rm _ (by decide)) Y.f4 Y.c4
  obtain ⟨c2, t2⟩ := tab_T (i := 5) T Y (by decide) (rm _ (by decide)) Y.f5 Y.c5
  have C := ctx_of T hloose Y t1 t2 hid
  obtain ⟨_, _, cd, _, _, a, o, pm, f1, f2, f3, f4⟩ := fn_T (i := 23) (a := 141) T Y t1 t2 hid (by decide) (rm _ (by decide)) (by decide) (by decide)
  rw [hfa] at f1; cases f1
  have l1 : l ≠ 30 := fun q => by rw [q, t1] at hl; cases hl
  have l2 : l ≠ 37 := fun q => by rw [q, t2] at hl; cases hl
  have I : InvG (tbOf [Ua, Ub]) (hideAll s₁.heap [30, 37]) [] (hideAll s₁.heap [30, 37]).get? [] s₁.heap := {
    sub := fun a o e => of_hideAll _ e
    top := fun a o e => e
    off := fun a h => nomatch h
    nd := List.nodup_nil
    len := rfl
    lists := fun k a vs e => by simp at e
    tabs := fun T hT => by
      rcases List.mem_cons.mp hT with rfl | hT
      · exact ⟨fun h' hs => (codeHd_hid hid c1).keeps hs, .inl t1⟩
      · rw [List.mem_singleton.mp hT]
        exact ⟨fun h' hs => (codeHd_hid hid c2).keeps hs, .inl t2⟩
    talive := fun b hb => by
      have hb' : b ∈ [30, 37] := hb
      refine ⟨hideAll_none _ hb', ?_⟩
      rcases List.mem_cons.mp hb' with rfl | hb'
      · exact ⟨_, t1⟩
      · rw [List.mem_singleton.mp hb']; exact ⟨_, t2⟩ }
  obtain ⟨T', M, sz, wd, s0, sb, sa, every, spared, lg, Fu, r, K⟩ := PL ns hn
  have main : TC prog w (tbOf [Ua, Ub]) (hideAll s₁.heap [30, 37]) 12 (.ref fa) [.p (.lst (ns.map V.int))] [] fun v μ => v = .p (.bool true) :=
    k_law (n := 0) C rfl rfl rfl rfl f2 f3 f4 (by omega) K rfl
  refine wpAny_mono (main callerA s₁ _ [] [.ref l] ⟨rfl, by decide +kernel, by decide +kernel⟩ I (.cons (.p (.lst (hid _ _ hl l1 l2) (relL_ints hI))) .nil)) (fun c s' q => ?_) (fun _ _ e => e)
  obtain ⟨v, μ', φ', loc', h', tk', rfl, rr, I', E'⟩ := q
  refine ⟨h', tk', rfl, ?_, ⟨fun b o e => ?_, fun b o e => E'.alive b o e⟩⟩
  · cases rr with
    | p rr => cases rr; rfl
  · have tab : ∀ (T : TabSpec), T ∈ [Ua, Ub] → CodeHd s₁.heap T.c T.P → s₁.heap.get? T.P = some (tabObj #[]) → b = T.P → asItWas s₁.heap h' b o := by
      rintro T hT hc ht rfl
      rw [ht] at e; cases e
      obtain ⟨oc, vs, file, tf, flags, tg, inF, text, tt, g1, g2, g3, g4, _⟩ := hc
      rcases (I'.tabs T hT).2 with h1 | ⟨c', h1, _⟩
      · exact .inl h1
      · exact .inr (.inl ⟨⟨T.c, oc, vs, g1, g2, g3, g4⟩, rfl, #[], _, rfl, by rw [Array.empty_append]; exact h1⟩)
    by_cases q1 : b = 30
    · exact tab Ua (by simp) c1 t1 q1
    · by_cases q2 : b = 37
      · exact tab Ub (by simp) c2 t2 q2
      · refine .inl (E'.keep b o (fun h => nomatch h) (fun h => ?_) (fun h => nomatch h) e)
        have h' : b ∈ [30, 37] := h
        simp [q1, q2] at h'
abbrev lawRec : DefRec := ⟨nameAt 23, paramsAt 23, bodyAt 23, scopeAt 23, ⟨195, 0, 218, 78⟩⟩
theorem walk_ok (PL : PlainLaw) : WalkO view [] (XL view []) hook.says PySem.Challenge.rw_qu0040_01.row.toRowW lawRec [] fun f vs => call f vs := by
  w_strict (
  intro w s₀ s₁ mg mb G Y fa o pm cd doc dV kV ho hd hcd hD hmg hg args vals as hpre hlay hrd hwl hlo
  clear ho hd hcd hD
  refine Ground.open G ?_
  intro T B D TE TW
  clear B D TE TW G
  wrow_args hpre hlay hrd hwl hlo
  all_goals (
    refine wpAny_mono (Q := fun c s' => ∃ h' tk', s' = { s₁ with heap := h', toks := tk' } ∧ c = .bool true ∧ OldK s₁.heap h') (E := fun _ _ => False) ?_ (fun c s' h => ?_) (fun _ _ h => h.elim)
    · rename_i ns hs1 h1 h2 h3 h4 as1 as2 l vs as3 hL ra w1 r0 hI hr hc1 hc2
      have hc := w1
      cases hc with
      | list g1 g2 =>
        rename_i vs'
        obtain ⟨oo, e1, e2, m, e3⟩ := hL
        rw [g1] at e1; cases e1
        have ev : vs' = vs := by
          have := e3
          injection this with e4 e5
          exact Array.toList_inj.mpr e4 |> fun h => by simpa using h
        subst ev
        exact run_law Y T rfl g1 hI (Nat.le_of_not_lt fun h => hc1 (Int.ofNat_lt.mpr h)) hmg PL
    obtain ⟨h', tk', rfl, rfl, old⟩ := h
    exact ⟨.inl ⟨_, .bool true, [], rfl, fun _ => rfl, .bool _, by first | kernel_rfl | decide +kernel | rfl, fun _ => ⟨List.nodup_nil, fun _ h => nomatch h⟩⟩, old, rfl, .of_eq hg⟩))
theorem left_ok : LeftO PySem.Challenge.rw_qu0040_01.row.toRowW.prog view [] (fun s => xlAt view [] s && recOk (RowW.records PySem.Challenge.rw_qu0040_01.row.toRowW) s) hook.obs hook.val 1476 := fun w => by kernel_rfl
theorem holds_of (PL : PlainLaw) : PySem.Challenge.rw_qu0040_01.Holds := by
  w_on; refine holds_law (by decide +kernel) fun _ => ?_
  refine holds_open (q := view) (loose := []) (d := lawRec) (kwd := []) (Yf := Hook.obs hook) (Ya := Hook.val hook) (YP := Hook.says hook) (N := 1476) left_ok (Hook.of hook) (Hook.keeps hook) (fun s e => xl_of s (Bool.and_eq_true_iff.mp e).1) XL.keeps (by kernel_rfl) (by kernel_rfl) (by kernel_rfl) (fun s e => recFacts_of (Bool.and_eq_true_iff.mp e).2) (by rfl) (by first | assumption | decide +kernel) (by decide +kernel) ⟨rfl, rfl, rfl, rfl, rfl, by decide +kernel⟩ ?hw (walk_ok PL)
  case hw => w_witness2

theorem plainLaw : PlainLaw := fun ns _ => plain _ _ _
end Mine
theorem PySem.Challenge.cw_qu0040_01_holds : PySem.Challenge.rw_qu0040_01.Holds :=
  Mine.holds_of Mine.plainLaw
