import PyProof.Rows.All
import Wide.All
import OpenK.AllK
import Wide.FinOn
import PySem.Challenge.RW_wj0038_01
set_option Elab.async false
set_option maxRecDepth 100000
set_option linter.unusedVariables false
/-! ### Core1 -/
section
open PySem PySem.Calls PyProof.Rows
namespace Mine

/-! ## the ghost heap: data that nothing changes -/
abbrev G := Addr → Option Obj

structure MP where
  p : G → Value → Prop
  up : ∀ {g g' : G} {v : Value}, (∀ b o, g b = some o → g' b = some o) → p g v → p g' v

abbrev WP {α : Type} (prog : Program) (w : World) (A : Around) (t : Sem α) (Q : α → Shared → Prop) (s : Shared) : Prop :=
  wpAny (model prog w) A t Q (fun _ _ => False) s

structure Ext (g : G) (s : Shared) (g' : G) (s' : Shared) : Prop where
  keeps : Keeps s s'
  le : ∀ b o, g b = some o → g' b = some o
  sub : ∀ b o, g' b = some o → s'.heap.get? b = some o
  new : ∀ b o, g' b = some o → g b = some o ∨ s.heap.get? b = none

theorem Keeps.refl (s : Shared) : Keeps s s := ⟨s.heap, s.toks, rfl, fun _ _ e => e⟩
theorem Keeps.tr {s s' s'' : Shared} (x : Keeps s s') (y : Keeps s' s'') : Keeps s s'' := by
  obtain ⟨h, t, rfl, k⟩ := x
  obtain ⟨h', t', rfl, k'⟩ := y
  exact ⟨h', t', rfl, fun b o e => k' b o (k b o e)⟩
theorem kget {s s' : Shared} (x : Keeps s s') : ∀ b o, s.heap.get? b = some o → s'.heap.get? b = some o := by
  obtain ⟨h, t, rfl, k⟩ := x
  exact k
theorem Keeps.none {s s' : Shared} (x : Keeps s s') {b : Addr} (e : s'.heap.get? b = none) : s.heap.get? b = none := by
  cases h : s.heap.get? b with
  | none => rfl
  | some o => rw [kget x b o h] at e; cases e
theorem Keeps.toks {s s' : Shared} (x : Keeps s s') (n : Nat) : Keeps s { s' with toks := n } := by
  obtain ⟨h, t, rfl, k⟩ := x
  exact ⟨h, n, rfl, k⟩
theorem Keeps.of {s : Shared} {h : Heap} {n : Nat} (k : ∀ b o, s.heap.get? b = some o → h.get? b = some o) : Keeps s { s with heap := h, toks := n } := ⟨h, n, rfl, k⟩

theorem Ext.refl {g : G} {s : Shared} (h : ∀ b o, g b = some o → s.heap.get? b = some o) : Ext g s g s :=
  ⟨Keeps.refl s, fun _ _ e => e, h, fun _ _ e => .inl e⟩
theorem Ext.tr {g g' g'' : G} {s s' s'' : Shared} (x : Ext g s g' s') (y : Ext g' s' g'' s'') : Ext g s g'' s'' :=
  ⟨Keeps.tr x.keeps y.keeps, fun b o e => y.le b o (x.le b o e), y.sub, fun b o e => by
    rcases y.new b o e with h | h
    · exact x.new b o h
    · exact .inr (Keeps.none x.keeps h)⟩
/-- the same ghost, an own step -/
theorem Ext.keep {g : G} {s s' : Shared} (h : ∀ b o, g b = some o → s.heap.get? b = some o) (k : Keeps s s') : Ext g s g s' :=
  ⟨k, fun _ _ e => e, fun b o e => kget k b o (h b o e), fun _ _ e => .inl e⟩
theorem Ext.toks {g : G} {s : Shared} (h : ∀ b o, g b = some o → s.heap.get? b = some o) (n : Nat) : Ext g s g { s with toks := n } :=
  Ext.keep h ⟨s.heap, n, rfl, fun _ _ e => e⟩
/-- one more object -/
def G.put (g : G) (a : Addr) (o : Obj) : G := fun b => if b = a then some o else g b
theorem G.put_self (g : G) (a : Addr) (o : Obj) : g.put a o a = some o := by simp [G.put]
theorem G.put_le {g : G} {a : Addr} {o : Obj} (h : g a = none) : ∀ b o', g b = some o' → g.put a o b = some o' := fun b o' e => by
  unfold G.put
  split
  · next hb => subst hb; rw [h] at e; cases e
  · exact e
theorem Ext.put {g g' : G} {s s' : Shared} {a : Addr} {o : Obj} (x : Ext g s g' s') (h : s.heap.get? a = none) (hg : g' a = none) (e : s'.heap.get? a = some o) : Ext g s (g'.put a o) s' :=
  ⟨x.keeps, fun b o' e' => G.put_le hg b o' (x.le b o' e'), fun b o' e' => by
    unfold G.put at e'
    split at e'
    · next hb => subst hb; cases e'; exact e
    · exact x.sub b o' e', fun b o' e' => by
    unfold G.put at e'
    split at e'
    · next hb => subst hb; exact .inr h
    · exact x.new b o' e'⟩
theorem fresh_none {h : Heap} {a : Addr} (hs : h.objs.size ≤ a) : h.get? a = none := by
  cases e : h.get? a with
  | none => rfl
  | some o => exact absurd (Heap.lt_size e) (Nat.not_lt.mpr hs)
theorem Ext.gnone {g g' : G} {s s' : Shared} (x : Ext g s g' s') {a : Addr} (h : g a = none) (hs : ∃ o, s.heap.get? a = some o) : g' a = none := by
  cases e : g' a with
  | none => rfl
  | some o =>
    obtain ⟨o', ho'⟩ := hs
    rcases x.new a o e with q | q
    · rw [h] at q; cases q
    · rw [ho'] at q; cases q
theorem sub_none {g : G} {h : Heap} (x : ∀ b o, g b = some o → h.get? b = some o) {a : Addr} (e : h.get? a = none) : g a = none := by
  cases q : g a with
  | none => rfl
  | some o => rw [x a o q] at e; cases e

/-! ## predicates -/
def I (i : Int) : MP := ⟨fun _ v => ∃ t, v = .int i t, fun _ h => h⟩
def Bo (b : Bool) : MP := ⟨fun _ v => v = .bool b, fun _ h => h⟩
def T (x : Str) : MP := ⟨fun _ v => ∃ t, v = .str x t, fun _ h => h⟩
def By (x : Array UInt8) : MP := ⟨fun _ v => ∃ t, v = .bytes x t, fun _ h => h⟩
def No : MP := ⟨fun _ v => v = .none, fun _ h => h⟩
def Is (v : Value) : MP := ⟨fun _ u => u = v, fun _ h => h⟩
theorem Paired.mono {α β : Type} {F F' : α → β → Prop} (h : ∀ a b, F a b → F' a b) : ∀ {l : List α} {l' : List β}, Paired F l l' → Paired F' l l'
  | _, _, .nil => .nil
  | _, _, .cons x r => .cons (h _ _ x) (Paired.mono h r)
theorem Paired.mapL {α β γ : Type} {F : γ → β → Prop} (f : α → γ) : ∀ {l : List α} {l' : List β}, Paired (fun a b => F (f a) b) l l' ↔ Paired F (l.map f) l'
  | [], [] => ⟨fun _ => .nil, fun _ => .nil⟩
  | [], _ :: _ => ⟨fun h => (nomatch h), fun h => (nomatch h)⟩
  | _ :: _, [] => ⟨fun h => (nomatch h), fun h => (nomatch h)⟩
  | _ :: _, _ :: _ => ⟨fun h => by cases h with | cons a r => exact .cons a ((Paired.mapL f).mp r), fun h => by cases h with | cons a r => exact .cons a ((Paired.mapL f).mpr r)⟩
theorem Paired.get {α β : Type} {F : α → β → Prop} : ∀ {l : List α} {l' : List β}, Paired F l l' → ∀ {i : Nat} {a : α}, l[i]? = some a → ∃ b, l'[i]? = some b ∧ F a b
  | _, _, .cons h _, 0, _, e => by cases e; exact ⟨_, rfl, h⟩
  | _, _, .cons _ r, i + 1, _, e => Paired.get r (i := i) (by simpa using e)
theorem Paired.get' {α β : Type} {F : α → β → Prop} : ∀ {l : List α} {l' : List β}, Paired F l l' → ∀ {i : Nat} {b : β}, l'[i]? = some b → ∃ a, l[i]? = some a ∧ F a b
  | _, _, .cons h _, 0, _, e => by cases e; exact ⟨_, rfl, h⟩
  | _, _, .cons _ r, i + 1, _, e => Paired.get' r (i := i) (by simpa using e)
def lstObj (vs : List Value) (n : Nat) : Obj := { cls := .type "list", data := .seq vs.toArray n }
def tupObj (vs : List Value) (n : Nat) : Obj := { cls := .type "tuple", data := .seq vs.toArray n }
def Ls {α : Type} (R : α → MP) (l : List α) : MP := ⟨fun g v => ∃ a vs n, v = .ref a ∧ g a = some (lstObj vs n) ∧ Paired (fun x v => (R x).p g v) l vs,
  fun up ⟨a, vs, n, e, hg, hp⟩ => ⟨a, vs, n, e, up _ _ hg, Paired.mono (fun x _ => (R x).up up) hp⟩⟩
def Tu {α : Type} (R : α → MP) (l : List α) : MP := ⟨fun g v => ∃ a vs n, v = .ref a ∧ g a = some (tupObj vs n) ∧ Paired (fun x v => (R x).p g v) l vs,
  fun up ⟨a, vs, n, e, hg, hp⟩ => ⟨a, vs, n, e, up _ _ hg, Paired.mono (fun x _ => (R x).up up) hp⟩⟩
theorem Ls.map {α β : Type} {R : β → MP} {f : α → β} {l : List α} {g : G} {v : Value} : (Ls (fun a => R (f a)) l).p g v ↔ (Ls R (l.map f)).p g v :=
  ⟨fun ⟨a, vs, n, e, hg, hp⟩ => ⟨a, vs, n, e, hg, (Paired.mapL (F := fun x v => (R x).p g v) f).mp hp⟩, fun ⟨a, vs, n, e, hg, hp⟩ => ⟨a, vs, n, e, hg, (Paired.mapL (F := fun x v => (R x).p g v) f).mpr hp⟩⟩

/-! ## the judgements -/
section
variable (prog : Program) (w : World) (A : Around)
def Ev (env : Env) (g : G) (s : Shared) (e : Expr) (P : MP) : Prop :=
  ∀ g₁ s₁, Ext g s g₁ s₁ → WP prog w A (eval e env) (fun v s₂ => ∃ g₂, Ext g₁ s₁ g₂ s₂ ∧ P.p g₂ v) s₁
def EvT (env : Env) (g : G) (s : Shared) (e : Expr) (b : Bool) : Prop :=
  ∀ g₁ s₁, Ext g s g₁ s₁ → WP prog w A (isTrue e env (eval e env)) (fun r s₂ => r = b ∧ ∃ g₂, Ext g₁ s₁ g₂ s₂) s₁
/-- an operation on values -/
def Op (t : Sem Value) (g : G) (s : Shared) (P : MP) : Prop := WP prog w A t (fun v s₂ => ∃ g₂, Ext g s g₂ s₂ ∧ P.p g₂ v) s
end

section
variable {prog : Program} {w : World} {A : Around} {env : Env} {g : G} {s : Shared}
theorem Ev.up {e : Expr} {P : MP} (h : Ev prog w A env g s e P) {g' : G} {s' : Shared} (x : Ext g s g' s') : Ev prog w A env g' s' e P :=
  fun _ _ y => h _ _ (x.tr y)
theorem EvT.up {e : Expr} {b : Bool} (h : EvT prog w A env g s e b) {g' : G} {s' : Shared} (x : Ext g s g' s') : EvT prog w A env g' s' e b :=
  fun _ _ y => h _ _ (x.tr y)
theorem Ev.weak {e : Expr} {P P' : MP} (h : Ev prog w A env g s e P) (hp : ∀ g v, P.p g v → P'.p g v) : Ev prog w A env g s e P' :=
  fun _ _ y => wpAny_mono (h _ _ y) (fun _ _ ⟨g₂, x, q⟩ => ⟨g₂, x, hp _ _ q⟩) fun _ _ f => f

theorem Ev.cInt {i : Int} {k : Nat} {pos : Pos} : Ev prog w A env g s (.Constant (.int i) k pos) (I i) :=
  fun _ _ x => wpAny_Constant_int ⟨_, Ext.toks x.sub _, _, rfl⟩
theorem Ev.cStr {i : Str} {k : Nat} {pos : Pos} : Ev prog w A env g s (.Constant (.str i) k pos) (T i) :=
  fun _ _ x => wpAny_Constant_str ⟨_, Ext.toks x.sub _, _, rfl⟩
theorem Ev.cBytes {i : List UInt8} {k : Nat} {pos : Pos} : Ev prog w A env g s (.Constant (.bytes i) k pos) (By i.toArray) :=
  fun _ _ x _ _ _ => ⟨_, Ext.toks x.sub _, _, rfl⟩
theorem Ev.cNone {k : Nat} {pos : Pos} : Ev prog w A env g s (.Constant .none k pos) No :=
  fun _ _ x => wpAny_Constant_none ⟨_, Ext.refl x.sub, rfl⟩
theorem Ev.cBool {b : Bool} {k : Nat} {pos : Pos} : Ev prog w A env g s (.Constant (.bool b) k pos) (Bo b) :=
  fun _ _ x => wpAny_Constant_bool ⟨_, Ext.refl x.sub, rfl⟩

theorem Ev.nLocal {x : Str} {pos : Pos} {m : Str → Option Value} {v : Value} {P : MP} (hn : s.heap.Ns env.locals m) (hv : m x = some v) (hp : P.p g v)
    (hk : env.scope.kind = .function := by rfl) (hl : env.kindOf x = some .local := by rfl) (hd : (x == ("__debug__" : Str)) = false := by decide) : Ev prog w A env g s (.Name x pos) P :=
  fun _ _ y => wpAny_Name (wpAny_loadName_local hk hl (hn.keeps (kget y.keeps)) hv ⟨_, Ext.refl y.sub, P.up y.le hp⟩) hd
theorem Ev.nCell {x : Str} {pos : Pos} {c : Addr} {v : Value} {P : MP} (hc : env.cells.lookup x = some c) (hv : s.heap.IsCell c (some v)) (hp : P.p g v)
    (hk : env.scope.kind = .function := by rfl) (hl : env.kindOf x = some .cell := by rfl) (hd : (x == ("__debug__" : Str)) = false := by decide) : Ev prog w A env g s (.Name x pos) P :=
  fun _ _ y => wpAny_Name (wpAny_loadName_cell hk hl hc (hv.keeps (kget y.keeps)) ⟨_, Ext.refl y.sub, P.up y.le hp⟩) hd
theorem Ev.nFree {x : Str} {pos : Pos} {c : Addr} {v : Value} {P : MP} (hc : env.cells.lookup x = some c) (hv : s.heap.IsCell c (some v)) (hp : P.p g v)
    (hk : env.scope.kind = .function := by rfl) (hl : env.kindOf x = some .free := by rfl) (hd : (x == ("__debug__" : Str)) = false := by decide) (hn : (x == ("__classdict__" : Str)) = false := by decide) : Ev prog w A env g s (.Name x pos) P :=
  fun _ _ y => wpAny_Name (wpAny_loadName_free hk hl hc (hv.keeps (kget y.keeps)) ⟨_, Ext.refl y.sub, P.up y.le hp⟩ hn) hd
theorem Ev.nGlobal {x : Str} {pos : Pos} {mg : Str → Option Value} {v : Value} {P : MP} (hn : s.heap.Ns env.globals mg) (hv : mg x = some v) (hp : P.p g v)
    (hk : env.scope.kind = .function := by rfl) (hl : env.kindOf x = some .globalImplicit := by rfl) (hd : (x == ("__debug__" : Str)) = false := by decide) : Ev prog w A env g s (.Name x pos) P :=
  fun _ _ y => Calls.Name_function_global hk hl (Calls.loadGlobal_global (hn.keeps (kget y.keeps)) hv ⟨_, Ext.refl y.sub, P.up y.le hp⟩) hd
theorem Ev.nBuiltin {x : Str} {pos : Pos} {mg mb : Str → Option Value} {v : Value} (hn : s.heap.Ns env.globals mg) (hv : mg x = none) (hb : s.heap.Ns env.builtins mb) (hbv : mb x = some v)
    (hk : env.scope.kind = .function := by rfl) (hl : env.kindOf x = some .globalImplicit := by rfl) (hd : (x == ("__debug__" : Str)) = false := by decide) : Ev prog w A env g s (.Name x pos) (Is v) :=
  fun _ _ y => Calls.Name_function_global hk hl (Calls.loadGlobal_builtin (hn.keeps (kget y.keeps)) hv (hb.keeps (kget y.keeps)) hbv ⟨_, Ext.refl y.sub, rfl⟩) hd

theorem Ev.bin {l r : Expr} {op : Operator} {pos : Pos} {P₁ P₂ P : MP} (h₁ : Ev prog w A env g s l P₁) (h₂ : Ev prog w A env g s r P₂)
    (h : ∀ g s a b, (∀ b o, g b = some o → s.heap.get? b = some o) → P₁.p g a → P₂.p g b → Op prog w A (binaryOp op a b) g s P) : Ev prog w A env g s (.BinOp l op r pos) P :=
  fun _ _ x => wpAny_BinOp (wpAny_mono (h₁ _ _ x) (fun a s₁ ⟨g₁, x₁, p₁⟩ => wpAny_mono (h₂ _ _ (x.tr x₁)) (fun b s₂ ⟨g₂, x₂, p₂⟩ =>
    wpAny_mono (h g₂ s₂ a b x₂.sub (P₁.up x₂.le p₁) p₂) (fun v s₃ ⟨g₃, x₃, p₃⟩ => ⟨g₃, x₁.tr (x₂.tr x₃), p₃⟩) fun _ _ f => f) fun _ _ f => f) fun _ _ f => f)
theorem Ev.cmp {l r : Expr} {op : CmpOp} {pos : Pos} {P₁ P₂ P : MP} (h₁ : Ev prog w A env g s l P₁) (h₂ : Ev prog w A env g s r P₂)
    (h : ∀ g s a b, (∀ b o, g b = some o → s.heap.get? b = some o) → P₁.p g a → P₂.p g b → Op prog w A (compareOp op a b) g s P)
    (hm : behindInMarks op r = false := by with_unfolding_all rfl) : Ev prog w A env g s (.Compare l [op] [r] pos) P :=
  fun _ _ x => wpAny_Compare1 (wpAny_mono (h₁ _ _ x) (fun a s₁ ⟨g₁, x₁, p₁⟩ => wpAny_mono (h₂ _ _ (x.tr x₁)) (fun b s₂ ⟨g₂, x₂, p₂⟩ =>
    wpAny_mono (h g₂ s₂ a b x₂.sub (P₁.up x₂.le p₁) p₂) (fun v s₃ ⟨g₃, x₃, p₃⟩ => ⟨g₃, x₁.tr (x₂.tr x₃), p₃⟩) fun _ _ f => f) fun _ _ f => f) fun _ _ f => f) hm
theorem EvT.cmp {l r : Expr} {op : CmpOp} {pos : Pos} {P₁ P₂ : MP} {t : Bool} (h₁ : Ev prog w A env g s l P₁) (h₂ : Ev prog w A env g s r P₂)
    (h : ∀ g s a b, (∀ b o, g b = some o → s.heap.get? b = some o) → P₁.p g a → P₂.p g b → Op prog w A (compareOp op a b) g s (Bo t))
    (hm : behindInMarks op r = false := by with_unfolding_all rfl) : EvT prog w A env g s (.Compare l [op] [r] pos) t :=
  fun _ _ x => wpAny_isTrue_Compare1 (wpAny_mono (h₁ _ _ x) (fun a s₁ ⟨g₁, x₁, p₁⟩ => wpAny_mono (h₂ _ _ (x.tr x₁)) (fun b s₂ ⟨g₂, x₂, p₂⟩ =>
    wpAny_mono (h g₂ s₂ a b x₂.sub (P₁.up x₂.le p₁) p₂) (fun v s₃ ⟨g₃, x₃, p₃⟩ => by
      have e : v = .bool t := p₃
      subst e
      exact wpAny_truthy_bool ⟨rfl, g₃, x₁.tr (x₂.tr x₃)⟩) fun _ _ f => f) fun _ _ f => f) fun _ _ f => f) hm
end
end Mine
end
/-! ### Core2 -/
section
open PySem PySem.Calls PyProof.Rows
namespace Mine
section
variable {prog : Program} {w : World} {A : Around} {env : Env} {g : G} {s : Shared}

theorem falseE {α : Type} {t : Sem α} {Q : α → Shared → Prop} {E : Value → Shared → Prop} (h : WP prog w A t Q s) : wpAny (model prog w) A t Q E s :=
  wpAny_mono h (fun _ _ q => q) fun _ _ f => f.elim

/-- a turn of a comprehension's loop, any target -/
theorem compLoop_turns {elt target iter : Expr} {ifs : List Expr} {scope : Scope} {pos : Pos} {it acc : Value} {R : Result → Shared → Prop} (I : Nat → Shared → Prop)
    (turn : ∀ n s, I n s → WP prog w A (pyNext it) (fun r s₁ => match r with
      | none => R (.ok .next) s₁
      | some v => WP prog w A (letOwnedTupleGo target it v) (fun _ s₁' => WP prog w A (assign target env v) (fun _ s₂ =>
          WP prog w A (forIn ifs true fun c r => if r = true then do let ok ← isTrue c env (eval c env); pure (ForInStep.yield ok) else pure (ForInStep.yield r)) (fun ok s₃ =>
            if ok = true then WP prog w A (eval elt env) (fun x s₄ =>
              WP prog w A (call (.builtin "list.append") [acc, x]) (fun _ s₅ => ∃ m, m < n ∧ I m s₅) s₄) s₃
            else ∃ m, m < n ∧ I m s₃) s₂) s₁') s₁) s)
    (n : Nat) (h : I n s) : codeAny (model prog w) A (.compLoop (.ListComp elt [⟨target, iter, ifs, 0⟩] scope pos) 0 it acc env) R s := by
  refine codeAny_loop rfl I (fun n s hI => ?_) n h
  show wpAny _ A ((compTurn (.ListComp elt [⟨target, iter, ifs, 0⟩] scope pos) 0 it acc env).onRaise (fun x => do noteFrame x env; theTreesLotGoes x)) _ _ s
  refine wpAny_noted (falseE ?_)
  rw [compTurn_list]
  refine wpAny_bind (wpAny_standAt (wpAny_bind (wpAny_mono (turn n s hI) (fun r s₁ h₁ => ?_) fun _ _ h' => h')))
  cases r with
  | none => exact wpAny_pure h₁
  | some v =>
    refine wpAny_bind (wpAny_mono h₁ (fun _ s₁' h₁' => ?_) fun _ _ h' => h')
    refine wpAny_bind (wpAny_mono h₁' (fun _ s₂ h₂ => wpAny_bind (wpAny_mono h₂ (fun ok s₃ h₃ => ?_) fun _ _ h' => h')) fun _ _ h' => h')
    cases ok with
    | false => exact wpAny_pure ⟨rfl, h₃⟩
    | true =>
      exact wpAny_bind (wpAny_bind (wpAny_mono h₃ (fun x s₄ h₄ => wpAny_bind (wpAny_mono h₄ (fun _ s₅ h₅ => wpAny_pure (wpAny_pure ⟨rfl, h₅⟩)) fun _ _ h' => h')) fun _ _ h' => h'))

theorem filter_take_succ {α : Type} {p : α → Bool} {xs : List α} {i : Nat} {a : α} (h : xs[i]? = some a) : (xs.take (i + 1)).filter p = (xs.take i).filter p ++ (if p a then [a] else []) :=
  take_succ_filter p xs i a h

abbrev Stays (pv : List Addr) (h h' : Heap) : Prop := ∀ b o, b ∉ pv → h.get? b = some o → h'.get? b = some o

theorem compLoop_core {α : Type} {elt target iter : Expr} {ifs : List Expr} {scope : Scope} {pos : Pos} {it : Value} {D : Addr} {xs : List α} {St : Nat → Heap → Prop} {B : α → Heap → Prop} {Bp : Heap → Prop}
    {pv fp : List Addr} {p : α → Bool} {R : α → MP} {g₁ : G} {s₁ : Shared}
    (hD : s₁.heap.get? D = none) (hpv : ∀ b ∈ pv, s₁.heap.get? b = none) (hDp : D ∉ pv) (hDf : D ∉ fp)
    (frSt : ∀ i h h', St i h → (∀ b ∈ fp, ∀ o, h.get? b = some o → h'.get? b = some o) → St i h')
    (frB : ∀ a h h', B a h → (∀ b ∈ fp, ∀ o, h.get? b = some o → h'.get? b = some o) → B a h')
    (BBp : ∀ a h, B a h → Bp h) (alive : ∀ i h, St i h → Bp h → ∀ b ∈ pv, ∃ o, h.get? b = some o)
    (hop : ∀ i a g s, xs[i]? = some a → Ext g₁ s₁ g s → St i s.heap → Bp s.heap → WP prog w A (pyNext it) (fun r s₂ => match r with
      | none => False
      | some v => WP prog w A (letOwnedTupleGo target it v) (fun _ s₃ => WP prog w A (assign target env v) (fun _ s₄ =>
          ∃ h' tk, s₄ = { s with heap := h', toks := tk } ∧ St (i + 1) h' ∧ B a h' ∧ Stays pv s.heap h') s₃) s₂) s)
    (hend : ∀ g s, Ext g₁ s₁ g s → St xs.length s.heap → Bp s.heap → WP prog w A (pyNext it) (fun r s₂ => r = none ∧ ∃ h' tk, s₂ = { s with heap := h', toks := tk } ∧ Bp h' ∧ Stays pv s.heap h') s)
    (htest : ∀ a g s, a ∈ xs → Ext g₁ s₁ g s → B a s.heap →
      WP prog w A (forIn ifs true fun c r => if r = true then do let ok ← isTrue c env (eval c env); pure (ForInStep.yield ok) else pure (ForInStep.yield r)) (fun ok s' => ok = p a ∧ ∃ g', Ext g s g' s') s)
    (helt : ∀ a g s, a ∈ xs → p a = true → Ext g₁ s₁ g s → B a s.heap → WP prog w A (eval elt env) (fun y s' => ∃ g', Ext g s g' s' ∧ (R a).p g' y) s)
    (hsz : xs.length ≤ sizeLine)
    (x : Ext g₁ s₁ g s) (hgD : g D = none) (hgp : ∀ b ∈ pv, g b = none) (hst : St 0 s.heap) (hBp : Bp s.heap) (hl : s.heap.get? D = some (lstObj [] 0)) :
    codeAny (model prog w) A (.compLoop (.ListComp elt [⟨target, iter, ifs, 0⟩] scope pos) 0 it (.ref D) env)
      (fun r s' => r = .ok .next ∧ ∃ g' ys n, Ext g₁ s₁ g' s' ∧ g' D = none ∧ (∀ b ∈ pv, g' b = none) ∧ s'.heap.get? D = some (lstObj ys n) ∧ Paired (fun a y => (R a).p g' y) (xs.filter p) ys ∧ Bp s'.heap) s := by
  refine compLoop_turns
    (fun n s' => ∃ g' i ys k, n = xs.length + 1 - i ∧ i ≤ xs.length ∧ Ext g₁ s₁ g' s' ∧ g' D = none ∧ (∀ b ∈ pv, g' b = none) ∧ St i s'.heap ∧ Bp s'.heap ∧ s'.heap.get? D = some (lstObj ys k) ∧
      Paired (fun a y => (R a).p g' y) ((xs.take i).filter p) ys) ?_ (xs.length + 1)
    ⟨g, 0, [], 0, rfl, Nat.zero_le _, x, hgD, hgp, hst, hBp, hl, by simpa using Paired.nil⟩
  rintro n s' ⟨g', i, ys, k, rfl, hi, x', hgD', hgp', hst', hBp', hl', hP⟩
  have base : ∀ b o, s₁.heap.get? b = some o → b ∉ pv ∧ b ≠ D := fun b o e => ⟨(fun hb => by rw [hpv b hb] at e; cases e), (fun hb => by subst hb; rw [hD] at e; cases e)⟩
  by_cases hlt : i < xs.length
  · have ha : xs[i]? = some xs[i] := List.getElem?_eq_getElem hlt
    have hmem : xs[i] ∈ xs := List.getElem_mem hlt
    generalize xs[i] = a at ha hmem
    refine wpAny_mono (hop i a g' s' ha x' hst' hBp') (fun r s₂ h₂ => ?_) fun _ _ f => f
    cases r with
    | none => exact h₂.elim
    | some v =>
      refine wpAny_mono h₂ (fun _ s₃ h₃ => wpAny_mono h₃ (fun _ s₄ h₄ => ?_) fun _ _ f => f) fun _ _ f => f
      obtain ⟨h', tk, rfl, hst₄, hB₄, hs₄⟩ := h₄
      obtain ⟨hs0, tk0, e0, k0⟩ := x'.keeps
      have x₄ : Ext g₁ s₁ g' { s' with heap := h', toks := tk } := ⟨by
          rw [e0]; rw [e0] at hs₄
          exact ⟨h', tk, rfl, fun b o e => hs₄ b o (base b o e).1 (k0 b o e)⟩, x'.le, fun b o e => hs₄ b o (fun hb => by rw [hgp' b hb] at e; cases e) (x'.sub b o e), x'.new⟩
      have hl₄ : h'.get? D = some (lstObj ys k) := hs₄ D _ hDp hl'
      refine wpAny_mono (htest a g' _ hmem x₄ hB₄) (fun ok s₅ h₅ => ?_) fun _ _ f => f
      obtain ⟨rfl, g₅, x₅⟩ := h₅
      have hB₅ : B a s₅.heap := frB _ _ _ hB₄ fun b _ o e => kget x₅.keeps b o e
      have hst₅ : St (i + 1) s₅.heap := frSt _ _ _ hst₄ fun b _ o e => kget x₅.keeps b o e
      have hl₅ : s₅.heap.get? D = some (lstObj ys k) := kget x₅.keeps _ _ hl₄
      have hgD₅ : g₅ D = none := x₅.gnone hgD' ⟨_, hl₄⟩
      have hgp₅ : ∀ b ∈ pv, g₅ b = none := fun b hb => x₅.gnone (hgp' b hb) (alive _ _ hst₄ (BBp _ _ hB₄) b hb)
      have hP₅ := Paired.mono (fun a y h => (R a).up x₅.le h) hP
      cases hpa : p a with
      | false =>
        simp only [Bool.false_eq_true, if_false]
        refine ⟨xs.length + 1 - (i + 1), by omega, g₅, i + 1, ys, k, rfl, hlt, x₄.tr x₅, hgD₅, hgp₅, hst₅, BBp _ _ hB₅, hl₅, ?_⟩
        rw [filter_take_succ ha, hpa]; simpa using hP₅
      | true =>
        simp only [if_true]
        refine wpAny_mono (helt a g₅ s₅ hmem hpa (x₄.tr x₅) hB₅) (fun y s₆ h₆ => ?_) fun _ _ f => f
        obtain ⟨g₆, x₆, hy⟩ := h₆
        have hl₆ : s₆.heap.get? D = some (lstObj ys k) := kget x₆.keeps _ _ hl₅
        have hgD₆ : g₆ D = none := x₆.gnone hgD₅ ⟨_, hl₅⟩
        have hgp₆ : ∀ b ∈ pv, g₆ b = none := fun b hb => x₆.gnone (hgp₅ b hb) (alive _ _ hst₅ (BBp _ _ hB₅) b hb)
        have hP₆ := Paired.mono (fun a y h => (R a).up x₆.le h) hP₅
        have hlen : ys.length ≤ sizeLine := by
          have e1 := Paired.length hP₆
          have e2 : ((xs.take i).filter p).length ≤ (xs.take i).length := List.length_filter_le _ _
          have e3 : (xs.take i).length ≤ xs.length := by rw [List.length_take]; omega
          omega
        refine wpAny_list_append_plain (items := ys.toArray) ⟨k, hl₆⟩ (fun h₇ hl₇ hs₇ => ?_) (by simpa using hlen)
        obtain ⟨k₇, hl₇⟩ := hl₇
        have x₆' := (x₄.tr x₅).tr x₆
        obtain ⟨hs6, tk6, e6, k6⟩ := x₆'.keeps
        have x₇ : Ext g₁ s₁ g₆ { s₆ with heap := h₇ } := ⟨by
          rw [e6]; rw [e6] at hs₇
          exact ⟨h₇, _, rfl, fun b o e => hs₇.extBut b o (base b o e).2 (k6 b o e)⟩, x₆'.le, fun b o e => hs₇.extBut b o (fun hb => by subst hb; rw [hgD₆] at e; cases e) (x₆'.sub b o e), x₆'.new⟩
        have fr : ∀ b ∈ fp, ∀ o, s₅.heap.get? b = some o → h₇.get? b = some o := fun b hb o e => hs₇.extBut b o (fun h => hDf (h ▸ hb)) (kget x₆.keeps b o e)
        refine ⟨xs.length + 1 - (i + 1), by omega, g₆, i + 1, ys ++ [y], k₇, rfl, hlt, x₇, hgD₆, hgp₆, frSt _ _ _ hst₅ fr, BBp _ _ (frB _ _ _ hB₅ fr), ?_, ?_⟩
        · rw [hl₇]; simp [lstObj]
        · rw [filter_take_succ ha, hpa]; simpa using Paired.snoc hP₆ hy
  · have hin : i = xs.length := by omega
    subst hin
    refine wpAny_mono (hend g' s' x' hst' hBp') (fun r s₂ h₂ => ?_) fun _ _ f => f
    obtain ⟨rfl, h', tk, rfl, hB₂, hs₂⟩ := h₂
    obtain ⟨hs0, tk0, e0, k0⟩ := x'.keeps
    rw [List.take_length] at hP
    refine ⟨rfl, g', ys, k, ⟨by
        rw [e0]; rw [e0] at hs₂
        exact ⟨h', tk, rfl, fun b o e => hs₂ b o (base b o e).1 (k0 b o e)⟩, x'.le, fun b o e => hs₂ b o (fun hb => by rw [hgp' b hb] at e; cases e) (x'.sub b o e), x'.new⟩, hgD', hgp', hs₂ D _ hDp hl', hP, hB₂⟩
end
end Mine
end
/-! ### Core3 -/
section
open PySem PySem.Calls PyProof.Rows
namespace Mine
section
variable {prog : Program} {w : World} {A : Around} {env : Env} {g : G} {s : Shared}

abbrev dictObj : Obj := { cls := .type "dict", data := .dict #[] }
theorem newEnv_comp {scope : Scope} {globals : Addr} {cl : List (Str × Addr)} {qual : Str} {outer : Env} {Q : Env → Shared → Prop}
    (hQ : Q (newEnv scope s.heap.objs.size globals (cellsFrom (s.heap.objs.size + 1) scope.names cl) qual none .none (some outer) builtinsNs) { s with heap := pushCells (s.heap.push dictObj) scope.names }) :
    WP prog w A (newFunctionEnv scope globals cl [] qual none .none (some outer)) Q s := by
  simp only [newFunctionEnv, Option.isSome_some, if_true]
  refine wpAny_bind (wpAny_alloc ?_)
  refine wpAny_bind (wpAny_layCells _ (fun name kind cells => by cases hkc : kind == NameKind.cell <;> simp [hkc]) _ _ _ _ ?_)
  simp only [List.forIn_nil]
  rw [show ({ s with heap := s.heap.push { cls := .type "dict", data := .dict #[] } } : Shared).heap.objs.size = s.heap.objs.size + 1 from Heap.size_push ..]
  exact wpAny_bind (wpAny_pure (wpAny_pure hQ))

theorem size_pushCells : ∀ (names : List (Str × NameKind)) (h : Heap), h.objs.size ≤ (pushCells h names).objs.size
  | [], _ => Nat.le_refl _
  | (_, kind) :: r, h => by
    unfold pushCells
    split
    · have := size_pushCells r (h.push { cls := .type "cell", data := .cell none })
      rw [Heap.size_push] at this
      omega
    · exact size_pushCells r h

/-- what opens a turn: the next item, bound -/
structure Opens (prog : Program) (w : World) (A : Around) (env : Env) (target : Expr) (scope : Scope) {α : Type} (cells : Addr → List (Str × Addr)) (B : Addr → α → Heap → Prop) (Bp : Addr → Heap → Prop) (own : Addr → List Addr)
    (xs : List α) (g₁ : G) (s₁ s₂ : Shared) (Id : Addr) (fpI wr : List Addr) (St : Nat → Heap → Prop) : Prop where
  keeps : Keeps s₁ s₂
  fresh : ∀ b ∈ wr, s₁.heap.get? b = none
  low : ∀ b ∈ fpI, b < s₂.heap.objs.size
  loww : ∀ b ∈ wr, b < s₂.heap.objs.size
  start : St 0 s₂.heap
  frame : ∀ i h h', St i h → (∀ b ∈ fpI, ∀ o, h.get? b = some o → h'.get? b = some o) → St i h'
  alive : ∀ i h, St i h → ∀ b ∈ wr, ∃ o, h.get? b = some o
  self : ∀ s Q, St 0 s.heap → Q (.ref Id) s → WP prog w A (pyIter (.ref Id)) Q s
  turn : ∀ C i a g s, s₂.heap.objs.size ≤ C → xs[i]? = some a → Ext g₁ s₁ g s → St i s.heap → Bp C s.heap → WP prog w A (pyNext (.ref Id)) (fun r s₂ => match r with
      | none => False
      | some v => WP prog w A (letOwnedTupleGo target (.ref Id) v) (fun _ s₃ => WP prog w A (assign target (compEnvC scope (cells C) C env) v) (fun _ s₄ =>
          ∃ h' tk, s₄ = { s with heap := h', toks := tk } ∧ St (i + 1) h' ∧ B C a h' ∧ Stays (own C ++ wr) s.heap h') s₃) s₂) s
  last : ∀ C g s, s₂.heap.objs.size ≤ C → Ext g₁ s₁ g s → St xs.length s.heap → Bp C s.heap → WP prog w A (pyNext (.ref Id)) (fun r s₂ => r = none ∧ ∃ h' tk, s₂ = { s with heap := h', toks := tk } ∧ Bp C h' ∧ Stays (own C ++ wr) s.heap h') s

/-- what is bound -/
structure Binds {α : Type} (scope : Scope) (cl : List (Str × Addr)) (cells : Addr → List (Str × Addr)) (B : Addr → α → Heap → Prop) (Bp : Addr → Heap → Prop) (own : Addr → List Addr) : Prop where
  cellsAre : ∀ n, cellsFrom (n + 1) scope.names cl = cells n
  isOwn : ∀ C, ∀ b ∈ own C, C ≤ b
  memC : ∀ C, C ∈ own C
  first : ∀ h : Heap, Bp h.objs.size (pushCells (h.push dictObj) scope.names)
  frB : ∀ C a h h', B C a h → (∀ b ∈ own C, ∀ o, h.get? b = some o → h'.get? b = some o) → B C a h'
  frBp : ∀ C h h', Bp C h → (∀ b ∈ own C, ∀ o, h.get? b = some o → h'.get? b = some o) → Bp C h'
  BBp : ∀ C a h, B C a h → Bp C h
  alive : ∀ C h, Bp C h → ∀ b ∈ own C, ∃ o, h.get? b = some o
  ns : ∀ C h, Bp C h → ∃ m, h.Ns C m

theorem comp_block {α : Type} {elt target iter : Expr} {ifs : List Expr} {scope : Scope} {pos : Pos} {cl : List (Str × Addr)} {cells : Addr → List (Str × Addr)} {B : Addr → α → Heap → Prop} {Bp : Addr → Heap → Prop} {own : Addr → List Addr}
    {xs : List α} {p : α → Bool} {R : α → MP} {g₁ : G} {s₁ s₂ : Shared} {Id : Addr} {fpI wr : List Addr} {St : Nat → Heap → Prop}
    (bd : Binds scope cl cells B Bp own) (op : Opens prog w A env target scope cells B Bp own xs g₁ s₁ s₂ Id fpI wr St) (hg : ∀ b o, g₁ b = some o → s₁.heap.get? b = some o)
    (htest : ∀ C a g s, a ∈ xs → Ext g₁ s₁ g s → B C a s.heap →
      WP prog w A (forIn ifs true fun c r => if r = true then do let ok ← isTrue c (compEnvC scope (cells C) C env) (eval c (compEnvC scope (cells C) C env)); pure (ForInStep.yield ok) else pure (ForInStep.yield r)) (fun ok s' => ok = p a ∧ ∃ g', Ext g s g' s') s)
    (helt : ∀ C a g s, a ∈ xs → p a = true → Ext g₁ s₁ g s → B C a s.heap → WP prog w A (eval elt (compEnvC scope (cells C) C env)) (fun y s' => ∃ g', Ext g s g' s' ∧ (R a).p g' y) s)
    (hsz : xs.length ≤ sizeLine) :
    WP prog w A (newList []) (fun acc s₃ => WP prog w A (newFunctionEnv scope env.globals cl [] env.qual none .none (some env)) (fun cenv s₄ =>
      codeAny (model prog w) A (.compStart (.ListComp elt [⟨target, iter, ifs, 0⟩] scope pos) 0 (.ref Id) acc { cenv with scope := relabel scope env })
        (fun r s' => r = .ok .next ∧ ∃ g' m, Ext g₁ s₁ g' s' ∧ (Ls R (xs.filter p)).p g' acc ∧ s'.heap.Ns cenv.locals m ∧ g' cenv.locals = none ∧ s₁.heap.get? cenv.locals = none) s₄) s₃) s₂ := by
  refine wpAny_newObj_type (newEnv_comp ?_)
  dsimp only
  generalize hH2 : s₂.heap.push { cls := .type "list", dict := none, data := .seq ([] : List Value).toArray } = H2
  have hC : H2.objs.size = s₂.heap.objs.size + 1 := by rw [← hH2, Heap.size_push]
  rw [bd.cellsAre]
  generalize hDe : s₂.heap.objs.size = D
  rw [hDe] at hC
  generalize hCe : H2.objs.size = C at hC
  have hBp := bd.first H2
  rw [hCe] at hBp
  generalize hH3 : pushCells (H2.push dictObj) scope.names = H3 at hBp
  have keep : ∀ b o, s₂.heap.get? b = some o → H3.get? b = some o := fun b o e => by
    rw [← hH3]; exact pushCells_keeps _ _ b o (Heap.get?_push_of_some _ (hH2 ▸ Heap.get?_push_of_some _ e))
  have keep₁ : ∀ b o, s₁.heap.get? b = some o → H3.get? b = some o := fun b o e => keep b o (kget op.keeps b o e)
  have hsz₁ : ∀ b, D ≤ b → s₂.heap.get? b = none := fun b hb => fresh_none (hDe ▸ hb)
  have hnew : ∀ b, D ≤ b → s₁.heap.get? b = none := fun b hb => Keeps.none op.keeps (hsz₁ b hb)
  have hl : H3.get? D = some (lstObj [] 0) := by
    rw [← hH3]
    refine pushCells_keeps _ _ D _ (Heap.get?_push_of_some _ ?_)
    rw [← hH2, ← hDe]
    exact Heap.get?_push_size _ rfl
  have hown : ∀ b ∈ own C, D < b := fun b hb => Nat.lt_of_lt_of_le (hC ▸ Nat.lt_succ_self D) (bd.isOwn C b hb)
  have hlow : ∀ b ∈ fpI, b < D := fun b hb => hDe ▸ op.low b hb
  have hloww : ∀ b ∈ wr, b < D := fun b hb => hDe ▸ op.loww b hb
  have hst : St 0 H3 := op.frame _ _ _ op.start fun b _ o e => keep b o e
  have x₀ : Ext g₁ s₁ g₁ { s₂ with heap := H3 } := Ext.keep hg (by
    obtain ⟨h, t, e, k⟩ := op.keeps
    rw [e]
    exact ⟨H3, t, rfl, keep₁⟩)
  have hDC : D ≤ C := hC ▸ Nat.le_succ D
  have hsC : s₂.heap.objs.size ≤ C := hDe ▸ hDC
  have hpvw : ∀ b ∈ own C ++ wr, b ≠ D := fun b hb => by
    rcases List.mem_append.mp hb with h | h
    · exact Nat.ne_of_gt (hown b h)
    · exact Nat.ne_of_lt (hloww b h)
  have hpvn : ∀ b ∈ own C ++ wr, s₁.heap.get? b = none := fun b hb => by
    rcases List.mem_append.mp hb with h | h
    · exact hnew b (Nat.le_of_lt (hown b h))
    · exact op.fresh b h
  have gn : ∀ b, s₁.heap.get? b = none → g₁ b = none := fun b h => sub_none hg h
  have loop : codeAny (model prog w) A (.compLoop (.ListComp elt [⟨target, iter, ifs, 0⟩] scope pos) 0 (.ref Id) (.ref D) (compEnvC scope (cells C) C env))
      (fun r s' => r = .ok .next ∧ ∃ g' m, Ext g₁ s₁ g' s' ∧ (Ls R (xs.filter p)).p g' (.ref D) ∧ s'.heap.Ns C m ∧ g' C = none ∧ s₁.heap.get? C = none) { s₂ with heap := H3 } := by
    refine codeAny_mono (compLoop_core (B := B C) (Bp := Bp C) (St := St) (pv := own C ++ wr) (fp := own C ++ fpI) (p := p) (R := R) (xs := xs) (hnew D (Nat.le_refl _)) hpvn (fun h => hpvw D h rfl) ?_ ?_ ?_ (bd.BBp C) ?_ ?_ ?_
      (htest C) (helt C) hsz x₀ (gn D (hnew D (Nat.le_refl _))) (fun b hb => gn b (hpvn b hb)) hst hBp hl) ?_
    · intro hm
      rcases List.mem_append.mp hm with h | h
      · exact Nat.lt_irrefl _ (hown D h)
      · exact Nat.lt_irrefl _ (hlow D h)
    · exact fun i h h' st k => op.frame i h h' st fun b hb o e => k b (List.mem_append.mpr (.inr hb)) o e
    · exact fun a h h' st k => bd.frB C a h h' st fun b hb o e => k b (List.mem_append.mpr (.inl hb)) o e
    · intro i h st b b' hb
      rcases List.mem_append.mp hb with q | q
      · exact bd.alive C h b b' q
      · exact op.alive i h st b' q
    · intro i a g s ha hx st bp
      exact op.turn C i a g s hsC ha hx st bp
    · intro g s hx st bp
      exact op.last C g s hsC hx st bp
    · rintro r s' ⟨rfl, g', ys, n, hx, hgD, hgp, hlD, hP, hb⟩
      obtain ⟨m, hm⟩ := bd.ns C _ hb
      refine ⟨rfl, g'.put D (lstObj ys n), m, hx.put (hnew D (Nat.le_refl _)) hgD hlD, ⟨D, ys, n, rfl, G.put_self _ _ _, Paired.mono (fun a y q => (R a).up (G.put_le hgD) q) hP⟩, hm, ?_, hnew C hDC⟩
      have hCg : g' C = none := hgp C (List.mem_append.mpr (.inl (bd.memC C)))
      unfold G.put
      rw [if_neg (fun h => hpvw C (List.mem_append.mpr (.inl (bd.memC C))) h), hCg]
  exact codeAny_compStart_list loop (falseE (op.self _ _ hst loop))
end
end Mine
end
/-! ### Core4 -/
section
open PySem PySem.Calls PyProof.Rows
namespace Mine
section
variable {prog : Program} {w : World} {A : Around} {env : Env} {g : G} {s : Shared}

theorem ext_sameBut {g g' : G} {s s' : Shared} {C : Addr} {h : Heap} (x : Ext g s g' s') (hC : s.heap.get? C = none) (hg : g' C = none) (hs : Heap.SameBut C s'.heap h) {n : Nat} : Ext g s g' { s' with heap := h, toks := n } := by
  obtain ⟨h0, t0, e0, k0⟩ := x.keeps
  exact ⟨by
    rw [e0]; rw [e0] at hs
    exact ⟨h, n, rfl, fun b o e => hs.extBut b o (by rintro rfl; rw [hC] at e; cases e) (k0 b o e)⟩, x.le, fun b o e => hs.extBut b o (by rintro rfl; rw [hg] at e; cases e) (x.sub b o e), x.new⟩

/-- a list comprehension, its list handed on or stored at once -/
def EvC (prog : Program) (w : World) (A : Around) (env : Env) (g : G) (s : Shared) (e : Expr) (P : MP) : Prop :=
  ∃ elt gens scope pos, e = .ListComp elt gens scope pos ∧ firstAsync gens = false ∧ ∀ g₁ s₁ (use : Option (Value → Sem Unit)) (Q : Value → Shared → Prop), Ext g s g₁ s₁ →
    (∀ acc g' s' C m, Ext g₁ s₁ g' s' → P.p g' acc → s'.heap.Ns C m → g' C = none → s₁.heap.get? C = none → compPost (model prog w) A (fun _ _ => False) use Q acc C (.ok .next) s') →
    WP prog w A (comprehension (.ListComp elt gens scope pos) scope env (firstIterPos gens pos) (newList []) false (firstIter gens env) use) Q s₁
theorem EvC.ev {e : Expr} {P : MP} (h : EvC prog w A env g s e P) : Ev prog w A env g s e P := by
  obtain ⟨elt, gens, scope, pos, rfl, ha, h⟩ := h
  intro g₁ s₁ x
  show wpAny _ A (comprehension (.ListComp elt gens scope pos) scope env (firstIterPos gens pos) (newList []) (firstAsync gens) (firstIter gens env)) _ _ s₁
  rw [ha]
  refine h g₁ s₁ none _ x fun acc g' s' C m y hp hm hg hC => ⟨m, hm, fun h' hs' => ⟨g', ext_sameBut y hC hg hs', hp⟩⟩
theorem EvC.weak {e : Expr} {P P' : MP} (h : EvC prog w A env g s e P) (hp : ∀ g v, P.p g v → P'.p g v) : EvC prog w A env g s e P' := by
  obtain ⟨elt, gens, scope, pos, rfl, ha, h⟩ := h
  exact ⟨elt, gens, scope, pos, rfl, ha, fun g₁ s₁ use Q x k => h g₁ s₁ use Q x fun acc g' s' C m y q => k acc g' s' C m y (hp _ _ q)⟩

theorem EvC.gen {α : Type} {elt target iter : Expr} {ifs : List Expr} {scope : Scope} {pos : Pos} {cl : List (Str × Addr)} {cells : Addr → List (Str × Addr)} {B : G → Addr → α → Heap → Prop} {Bp : Addr → Heap → Prop} {own : Addr → List Addr}
    {xs : List α} {p : α → Bool} {R : α → MP}
    (hclos : closureFor scope env = pure cl) (hkind : scope.kind = .function) (hnames : ∀ y ∈ scope.names, y.2 = .local → scope.names.lookup y.1 = some .local)
    (bd : ∀ g, Binds scope cl cells (B g) Bp own)
    (hiter : ∀ g₁ s₁, Ext g s g₁ s₁ → WP prog w A (eval iter env) (fun xv s₂ => ∃ g₂, Ext g₁ s₁ g₂ s₂ ∧ WP prog w A (pyIter xv) (fun it s₃ => ∃ Id fpI wr St, it = .ref Id ∧
      Opens prog w A env target scope cells (B g₂) Bp own xs g₂ s₂ s₃ Id fpI wr St) s₂) s₁)
    (htest : ∀ g₂ C a g' s', a ∈ xs → (∃ s₂, Ext g s g₂ s₂ ∧ Ext g₂ s₂ g' s') → B g₂ C a s'.heap →
      WP prog w A (forIn ifs true fun c r => if r = true then do let ok ← isTrue c (compEnvC scope (cells C) C env) (eval c (compEnvC scope (cells C) C env)); pure (ForInStep.yield ok) else pure (ForInStep.yield r)) (fun ok s'' => ok = p a ∧ ∃ g'', Ext g' s' g'' s'') s')
    (helt : ∀ g₂ C a g' s', a ∈ xs → p a = true → (∃ s₂, Ext g s g₂ s₂ ∧ Ext g₂ s₂ g' s') → B g₂ C a s'.heap → WP prog w A (eval elt (compEnvC scope (cells C) C env)) (fun y s'' => ∃ g'', Ext g' s' g'' s'' ∧ (R a).p g'' y) s')
    (hsz : xs.length ≤ sizeLine) (hs : ∀ x, foldedSetIterable iter env x = pure x) :
    EvC prog w A env g s (.ListComp elt [⟨target, iter, ifs, 0⟩] scope pos) (Ls R (xs.filter p)) := by
  refine ⟨_, _, _, _, rfl, rfl, fun g₁ s₁ use Q x₁ hQ => ?_⟩
  refine wpAny_comprehension_free (use := use) rfl hs hclos hkind hnames (wpAny_mono (hiter g₁ s₁ x₁) (fun xv s₂ h₂ => ?_) fun _ _ e => e)
  obtain ⟨g₂, x₂, h₂⟩ := h₂
  refine wpAny_mono h₂ (fun it s₃ h₃ => ?_) fun _ _ e => e
  obtain ⟨Id, fpI, wr, St, rfl, op⟩ := h₃
  have y₂ := x₁.tr x₂
  refine wpAny_mono (comp_block (R := R) (p := p) (bd g₂) op x₂.sub (fun C a g' s' ha hx hb => htest g₂ C a g' s' ha ⟨s₂, y₂, hx⟩ hb) (fun C a g' s' ha hp hx hb => helt g₂ C a g' s' ha hp ⟨s₂, y₂, hx⟩ hb) hsz)
    (fun acc s₄ h₄ => wpAny_mono h₄ (fun cenv s₅ h₅ => codeAny_mono h₅ ?_) fun _ _ e => e) fun _ _ e => e
  rintro r s' ⟨rfl, g', m, hx, hl, hm, hgC, hC⟩
  exact hQ acc g' s' _ m (x₂.tr hx) hl hm hgC (Keeps.none x₂.keeps hC)

/-- a value that can be walked -/
def Itb (prog : Program) (w : World) (A : Around) {α : Type} (g : G) (s : Shared) (xv : Value) (xs : List α) (It : α → MP) : Prop :=
  WP prog w A (pyIter xv) (fun it s₃ => ∃ Id fp wr P St, it = .ref Id ∧ Keeps s s₃ ∧ Walks prog w A Id fp wr xs.length P St ∧ (∀ i v a, P i v → xs[i]? = some a → (It a).p g v) ∧
    (∀ b ∈ wr, s.heap.get? b = none) ∧ (∀ b ∈ fp, b < s₃.heap.objs.size) ∧ St 0 s₃.heap ∧ (∀ i h, St i h → ∀ b ∈ wr, ∃ o, h.get? b = some o) ∧ (∀ b ∈ fp, b ∈ wr ∨ ∃ o, g b = some o)) s
def EvI (prog : Program) (w : World) (A : Around) {α : Type} (env : Env) (g : G) (s : Shared) (e : Expr) (xs : List α) (It : α → MP) : Prop :=
  ∀ g₁ s₁, Ext g s g₁ s₁ → WP prog w A (eval e env) (fun xv s₂ => ∃ g₂, Ext g₁ s₁ g₂ s₂ ∧ Itb prog w A g₂ s₂ xv xs It) s₁

theorem toks_heap {s : Shared} {h : Heap} {n : Nat} : ({ s with heap := h, toks := n } : Shared) = { s with heap := h, toks := n } := rfl

def BpL (C : Addr) (h : Heap) : Prop := ∃ m, h.Ns C m
def BL {α : Type} (x : Str) (It : α → MP) (g : G) (C : Addr) (a : α) (h : Heap) : Prop := ∃ m v, h.Ns C m ∧ m x = some v ∧ (It a).p g v
theorem binds_local {α : Type} {scope : Scope} {cl : List (Str × Addr)} {x : Str} {It : α → MP} (hc1 : ∀ n, cellsFrom n scope.names cl = cl) (hc2 : ∀ h, pushCells h scope.names = h) (g : G) :
    Binds scope cl (fun _ => cl) (BL x It g) BpL (fun C => [C]) where
  cellsAre := fun n => hc1 _
  isOwn := fun C b hb => by rcases List.mem_singleton.mp hb with rfl; exact Nat.le_refl _
  memC := fun C => List.mem_singleton.mpr rfl
  first := fun h => ⟨_, by rw [hc2]; exact Heap.Ns.new h (.type "dict")⟩
  frB := fun C a h h' ⟨m, v, hn, r⟩ k => ⟨m, v, hn.at fun o e => k C (List.mem_singleton.mpr rfl) o e, r⟩
  frBp := fun C h h' ⟨m, hn⟩ k => ⟨m, hn.at fun o e => k C (List.mem_singleton.mpr rfl) o e⟩
  BBp := fun C a h ⟨m, v, hn, r⟩ => ⟨m, hn⟩
  alive := fun C h ⟨m, hn⟩ b hb => by
    rcases List.mem_singleton.mp hb with rfl
    obtain ⟨o, es, ep, ho, r⟩ := hn
    exact ⟨o, ho⟩
  ns := fun C h b => b

theorem opens_local {α : Type} {x : Str} {px : Pos} {scope : Scope} {cl : List (Str × Addr)} {xs : List α} {It : α → MP} {g₂ : G} {s₂ s₃ : Shared} {Id : Addr} {fp wr : List Addr} {P : Nat → Value → Prop} {St : Nat → Heap → Prop}
    (hkind : scope.kind = .function) (hx : scope.names.lookup x = some .local) (k : Keeps s₂ s₃) (W : Walks prog w A Id fp wr xs.length P St) (hP : ∀ i v a, P i v → xs[i]? = some a → (It a).p g₂ v)
    (hw : ∀ b ∈ wr, s₂.heap.get? b = none) (hfp : ∀ b ∈ fp, b < s₃.heap.objs.size) (hst : St 0 s₃.heap) (hal : ∀ i h, St i h → ∀ b ∈ wr, ∃ o, h.get? b = some o) :
    Opens prog w A env (.Name x px) scope (fun _ => cl) (BL x It g₂) BpL (fun C => [C]) xs g₂ s₂ s₃ Id fp wr St where
  keeps := k
  fresh := hw
  low := hfp
  loww := fun b hb => hfp b (W.sub b hb)
  start := hst
  frame := W.frame
  alive := hal
  self := fun s Q st h => W.self 0 s Q _ st h
  turn := fun C i a g s hC ha hxt st hB => by
    refine W.item i s _ _ (List.getElem?_eq_some_iff.mp ha).1 st fun v h' tk hv st' hk => ?_
    refine wpAny_of_eq rfl ?_
    obtain ⟨m, hn⟩ := hB
    have hCw : C ∉ wr := fun h => Nat.lt_irrefl _ (Nat.lt_of_lt_of_le (hfp C (W.sub C h)) hC)
    have hCf : C ∉ fp := fun h => Nat.lt_irrefl _ (Nat.lt_of_lt_of_le (hfp C h) hC)
    refine wpAny_assign_Name (wpAny_storeName_local (env := compEnvC scope cl C env) (lookup_relabel_local hx) (hn.at fun o e => hk C o hCw e) (fun h₂ hn₂ hs₂ => ?_) (by simp [compEnvC, relabel, hkind]))
    refine ⟨h₂, _, rfl, W.frame _ _ _ st' fun b hb o e => hs₂.extBut b o (fun h => hCf (by subst h; exact hb)) e, ⟨_, v, hn₂, by simp, hP i v a hv ha⟩, fun b o hb e => ?_⟩
    rw [List.mem_append, not_or] at hb
    exact hs₂.extBut b o (fun h => hb.1 (List.mem_singleton.mpr h)) (hk b o hb.2 e)
  last := fun C g s hC hxt st hB => by
    refine W.done s _ _ st fun h' tk hk => ⟨rfl, h', tk, rfl, ?_, fun b o hb e => ?_⟩
    · obtain ⟨m, hn⟩ := hB
      exact ⟨m, hn.at fun o e => hk C o (fun h => Nat.lt_irrefl _ (Nat.lt_of_lt_of_le (hfp C (W.sub C h)) hC)) e⟩
    · rw [List.mem_append, not_or] at hb
      exact hk b o hb.2 e

/-- a comprehension whose target is a plain local of its own -/
theorem EvC.comp {α : Type} {elt iter : Expr} {x : Str} {px : Pos} {ifs : List Expr} {scope : Scope} {pos : Pos} {cl : List (Str × Addr)} {xs : List α} {It : α → MP} {p : α → Bool} {R : α → MP}
    (hiter : EvI prog w A env g s iter xs It)
    (htest : ∀ C m v a g' s', a ∈ xs → Ext g s g' s' → s'.heap.Ns C m → m x = some v → (It a).p g' v →
      WP prog w A (forIn ifs true fun c r => if r = true then do let ok ← isTrue c (compEnvC scope cl C env) (eval c (compEnvC scope cl C env)); pure (ForInStep.yield ok) else pure (ForInStep.yield r)) (fun ok s'' => ok = p a ∧ ∃ g'', Ext g' s' g'' s'') s')
    (helt : ∀ C m v a g' s', a ∈ xs → p a = true → Ext g s g' s' → s'.heap.Ns C m → m x = some v → (It a).p g' v → Ev prog w A (compEnvC scope cl C env) g' s' elt (R a))
    (hsz : xs.length ≤ sizeLine)
    (hclos : closureFor scope env = pure cl := by rfl) (hkind : scope.kind = .function := by rfl) (hnames : ∀ y ∈ scope.names, y.2 = .local → scope.names.lookup y.1 = some .local := by decide)
    (hx : scope.names.lookup x = some .local := by rfl) (hc1 : ∀ n, cellsFrom n scope.names cl = cl := by intro _; rfl) (hc2 : ∀ h, pushCells h scope.names = h := by intro _; rfl)
    (hs : ∀ x, foldedSetIterable iter env x = pure x := by intro _; rfl) :
    EvC prog w A env g s (.ListComp elt [⟨.Name x px, iter, ifs, 0⟩] scope pos) (Ls R (xs.filter p)) := by
  refine EvC.gen (B := BL x It) (Bp := BpL) (own := fun C => [C]) (cells := fun _ => cl) hclos hkind hnames (binds_local hc1 hc2) (fun g₁ s₁ x₁ => wpAny_mono (hiter g₁ s₁ x₁) (fun xv s₂ h₂ => ?_) fun _ _ e => e) ?_ ?_ hsz hs
  · obtain ⟨g₂, x₂, hi⟩ := h₂
    refine ⟨g₂, x₂, wpAny_mono hi (fun it s₃ h₃ => ?_) fun _ _ e => e⟩
    obtain ⟨Id, fp, wr, P, St, rfl, k, W, hP, hw, hfp, hst, hal, hin⟩ := h₃
    exact ⟨Id, fp, wr, St, rfl, opens_local hkind hx k W hP hw hfp hst hal⟩
  · rintro g₂ C a g' s' ha ⟨s₂, y, y'⟩ ⟨m, v, hn, hm, hv⟩
    exact htest C m v a g' s' ha (y.tr y') hn hm ((It a).up y'.le hv)
  · rintro g₂ C a g' s' ha hp ⟨s₂, y, y'⟩ ⟨m, v, hn, hm, hv⟩
    exact helt C m v a g' s' ha hp (y.tr y') hn hm ((It a).up y'.le hv) _ _ (Ext.refl y'.sub)
end
end Mine
end
/-! ### Core5 -/
section
open PySem PySem.Calls PyProof.Rows
namespace Mine
section
variable {prog : Program} {w : World} {A : Around} {env : Env} {g : G} {s : Shared}

theorem lst_isList {g : G} {s : Shared} (hg : ∀ b o, g b = some o → s.heap.get? b = some o) {a : Addr} {vs : List Value} {n : Nat} (h : g a = some (lstObj vs n)) : s.heap.IsList a vs.toArray := ⟨_, hg _ _ h, rfl, n, rfl⟩
theorem tup_isTuple {g : G} {s : Shared} (hg : ∀ b o, g b = some o → s.heap.get? b = some o) {a : Addr} {vs : List Value} {n : Nat} (h : g a = some (tupObj vs n)) : s.heap.IsTuple a vs.toArray := ⟨_, hg _ _ h, rfl, n, rfl⟩
theorem push_keeps (s : Shared) (o : Obj) : Keeps s { s with heap := s.heap.push o } := ⟨_, s.toks, rfl, fun _ _ e => Heap.get?_push_of_some _ e⟩

theorem Itb.list {α : Type} {R : α → MP} {xs : List α} {v : Value} (hh : A.handled = none) (hg : ∀ b o, g b = some o → s.heap.get? b = some o) (h : (Ls R xs).p g v) : Itb prog w A g s v xs R := by
  obtain ⟨a, vs, n, rfl, ha, hp⟩ := h
  have hl := lst_isList hg ha
  have hlt : a < s.heap.objs.size := Heap.lt_size (hg _ _ ha)
  unfold Itb
  refine wpAny_pyIter_list hl ?_
  refine ⟨s.heap.objs.size, [s.heap.objs.size, a], [s.heap.objs.size], fun i v => vs.toArray[i]? = some v, fun i h => h.IsListIter s.heap.objs.size a i ∧ h.IsList a vs.toArray, rfl, push_keeps _ _, ?_, ?_, ?_, ?_, ⟨⟨_, Heap.get?_push_size _ rfl, rfl, rfl⟩, hl.push _⟩, ?_, ?_⟩
  · rw [show xs.length = vs.toArray.size from by rw [List.size_toArray, Paired.length hp]]
    exact Walks.list hh _ _ (Nat.ne_of_lt hlt) vs.toArray
  · intro i v x hv hx
    obtain ⟨b, hb, hr⟩ := Paired.get hp hx
    rw [List.getElem?_toArray, hb] at hv
    cases hv
    exact hr
  · intro b hb
    rcases List.mem_singleton.mp hb with rfl
    exact fresh_none (Nat.le_refl _)
  · intro b hb
    show b < (s.heap.push _).objs.size
    rw [Heap.size_push]
    rcases List.mem_cons.mp hb with rfl | hb
    · exact Nat.lt_succ_self _
    · rcases List.mem_singleton.mp hb with rfl
      exact Nat.lt_succ_of_lt hlt
  · intro i h st b hb
    rcases List.mem_singleton.mp hb with rfl
    obtain ⟨⟨o, ho, _⟩, _⟩ := st
    exact ⟨o, ho⟩
  · intro b hb
    rcases List.mem_cons.mp hb with rfl | hb
    · exact .inl (List.mem_singleton.mpr rfl)
    · rcases List.mem_singleton.mp hb with rfl
      exact .inr ⟨_, ha⟩
theorem Itb.tuple {α : Type} {R : α → MP} {xs : List α} {v : Value} (hh : A.handled = none) (hg : ∀ b o, g b = some o → s.heap.get? b = some o) (h : (Tu R xs).p g v) : Itb prog w A g s v xs R := by
  obtain ⟨a, vs, n, rfl, ha, hp⟩ := h
  have hl := tup_isTuple hg ha
  have hlt : a < s.heap.objs.size := Heap.lt_size (hg _ _ ha)
  unfold Itb
  refine wpAny_pyIter_tuple hl ?_
  refine ⟨s.heap.objs.size, [s.heap.objs.size, a], [s.heap.objs.size], fun i v => vs.toArray[i]? = some v, fun i h => h.IsTupleIter s.heap.objs.size a i ∧ h.IsTuple a vs.toArray, rfl, push_keeps _ _, ?_, ?_, ?_, ?_, ⟨⟨_, Heap.get?_push_size _ rfl, rfl, rfl⟩, hl.push _⟩, ?_, ?_⟩
  · rw [show xs.length = vs.toArray.size from by rw [List.size_toArray, Paired.length hp]]
    exact Walks.tuple hh _ _ (Nat.ne_of_lt hlt) vs.toArray
  · intro i v x hv hx
    obtain ⟨b, hb, hr⟩ := Paired.get hp hx
    rw [List.getElem?_toArray, hb] at hv
    cases hv
    exact hr
  · intro b hb
    rcases List.mem_singleton.mp hb with rfl
    exact fresh_none (Nat.le_refl _)
  · intro b hb
    show b < (s.heap.push _).objs.size
    rw [Heap.size_push]
    rcases List.mem_cons.mp hb with rfl | hb
    · exact Nat.lt_succ_self _
    · rcases List.mem_singleton.mp hb with rfl
      exact Nat.lt_succ_of_lt hlt
  · intro i h st b hb
    rcases List.mem_singleton.mp hb with rfl
    obtain ⟨⟨o, ho, _⟩, _⟩ := st
    exact ⟨o, ho⟩
  · intro b hb
    rcases List.mem_cons.mp hb with rfl | hb
    · exact .inl (List.mem_singleton.mpr rfl)
    · rcases List.mem_singleton.mp hb with rfl
      exact .inr ⟨_, ha⟩
theorem one_low (s : Shared) (o : Obj) : ∀ b ∈ [s.heap.objs.size], b < ({ s with heap := s.heap.push o } : Shared).heap.objs.size := by
  intro b hb
  show b < (s.heap.push _).objs.size
  rw [Heap.size_push]
  rcases List.mem_singleton.mp hb with rfl
  exact Nat.lt_succ_self _
theorem one_new (s : Shared) : ∀ b ∈ [s.heap.objs.size], s.heap.get? b = none := by
  intro b hb
  rcases List.mem_singleton.mp hb with rfl
  exact fresh_none (Nat.le_refl _)
/-- a text's signs, as texts -/
def signs (x : Str) : List Str := x.cps.toList.map fun c => ⟨#[c]⟩
theorem signs_length (x : Str) : (signs x).length = x.cps.size := by simp [signs]
theorem Itb.text {x : Str} {v : Value} (hh : A.handled = none) (h : (T x).p g v) : Itb prog w A g s v (signs x) T := by
  obtain ⟨t, rfl⟩ := h
  have hP : ∀ i v a, SignAt x i v → (signs x)[i]? = some a → (T a).p g v := by
    rintro i v a ⟨c, u, hc, rfl⟩ ha
    have e : (signs x)[i]? = some ⟨#[c]⟩ := by simp [signs, hc]
    rw [e] at ha
    cases ha
    exact ⟨u, rfl⟩
  cases ha : x.cps.all (· < 128)
  · unfold Itb
    refine wpAny_pyIter_wide ha ?_
    refine ⟨s.heap.objs.size, [s.heap.objs.size], [s.heap.objs.size], SignAt x, fun i h => h.IsStrIter s.heap.objs.size "str_iterator" x t i, rfl, push_keeps _ _, by rw [signs_length]; exact Walks.strWide hh _ x t, hP, one_new s, one_low s _, ⟨_, Heap.get?_push_size _ rfl, rfl, rfl⟩, ?_, fun b hb => .inl hb⟩
    rintro i h ⟨o, ho, _⟩ b hb
    rcases List.mem_singleton.mp hb with rfl
    exact ⟨o, ho⟩
  · unfold Itb
    refine wpAny_pyIter_ascii ha ?_
    refine ⟨s.heap.objs.size, [s.heap.objs.size], [s.heap.objs.size], SignAt x, fun i h => h.IsStrIter s.heap.objs.size "str_ascii_iterator" x t i, rfl, push_keeps _ _, by rw [signs_length]; exact Walks.strAscii hh _ x t, hP, one_new s, one_low s _, ⟨_, Heap.get?_push_size _ rfl, rfl, rfl⟩, ?_, fun b hb => .inl hb⟩
    rintro i h ⟨o, ho, _⟩ b hb
    rcases List.mem_singleton.mp hb with rfl
    exact ⟨o, ho⟩
/-- a bytes' numbers -/
def octs (x : Array UInt8) : List Int := x.toList.map fun c => (c.toNat : Int)
theorem Itb.bytes {x : Array UInt8} {v : Value} (hh : A.handled = none) (h : (By x).p g v) : Itb prog w A g s v (octs x) I := by
  obtain ⟨t, rfl⟩ := h
  have hP : ∀ (i : Nat) (v : Value) (a : Int), (∃ (c : UInt8) (u : Tok), x[i]? = some c ∧ v = .int (c.toNat : Int) u) → (octs x)[i]? = some a → (I a).p g v := by
    rintro i v a ⟨c, u, hc, rfl⟩ ha
    have e : (octs x)[i]? = some (c.toNat : Int) := by simp [octs, hc]
    rw [e] at ha
    cases ha
    exact ⟨u, rfl⟩
  unfold Itb
  refine PySem.W.KBw.pyIter_bytes ?_
  refine ⟨s.heap.objs.size, [s.heap.objs.size], [s.heap.objs.size], fun (i : Nat) (v : Value) => ∃ (c : UInt8) (u : Tok), x[i]? = some c ∧ v = .int (c.toNat : Int) u, fun i h => PySem.W.KBw.IsBytesIter h s.heap.objs.size x t i, rfl, push_keeps _ _, by rw [show (octs x).length = x.size from by simp [octs]]; exact PySem.W.KBw.walks hh _ x t, hP, one_new s, one_low s _, ⟨_, Heap.get?_push_size _ rfl, rfl, rfl⟩, ?_, fun b hb => .inl hb⟩
  rintro i h ⟨o, ho, _⟩ b hb
  rcases List.mem_singleton.mp hb with rfl
  exact ⟨o, ho⟩
/-- a range of ones -/
def rgObj (a b : Int) (t u v : Tok) : Obj := { cls := .type "range", dict := none, data := .fields #[.int a t, .int b u, .int 1 v], slots := #[] }
def Rg (a b : Int) : MP := ⟨fun g v => ∃ r t u k, v = .ref r ∧ g r = some (rgObj a b t u k), fun up ⟨r, t, u, k, e, h⟩ => ⟨r, t, u, k, e, up _ _ h⟩⟩
def numsFrom (a : Int) (n : Nat) : List Int := (List.range n).map fun (i : Nat) => a + (i : Int)
theorem Itb.range {a : Int} {n : Nat} {v : Value} (hh : A.handled = none) (hg : ∀ b o, g b = some o → s.heap.get? b = some o) (h : (Rg a (a + n)).p g v) (h1 : -(2 ^ 62) ≤ a) (h2 : a + n < 2 ^ 62) : Itb prog w A g s v (numsFrom a n) I := by
  obtain ⟨r, t, u, k, rfl, hr⟩ := h
  have hsz : Builtin.Range.rangeSize a (a + n) 1 = (n : Int) := by rw [rangeSize_one]; split <;> omega
  unfold Itb
  refine wpAny_pyIter_range (hg _ _ hr) (small_one h1 (by omega) (by omega) h2) ?_
  refine ⟨s.heap.objs.size, [s.heap.objs.size], [s.heap.objs.size], fun i v => ∃ t, v = .int (a + i * 1) t, fun i h => IsRangeIter h s.heap.objs.size (a + (i : Nat) * 1) ((n : Int) - (i : Nat)) 1, rfl, push_keeps _ _,
    by rw [show (numsFrom a n).length = n from by simp [numsFrom]]; exact Walks.range hh _ a 1 n, ?_, one_new s, one_low s _, ?_, ?_, fun b hb => .inl hb⟩
  · rintro i v x ⟨t, rfl⟩ hx
    have : i < n := by
      have := (List.getElem?_eq_some_iff.mp hx).1
      simpa [numsFrom] using this
    have e : (numsFrom a n)[i]? = some (a + (i : Int)) := by simp [numsFrom, this]
    rw [e] at hx
    cases hx
    exact ⟨t, by rw [Int.mul_one]⟩
  · show IsRangeIter (s.heap.push _) s.heap.objs.size (a + ((0 : Nat) : Int) * 1) ((n : Int) - ((0 : Nat) : Int)) 1
    rw [hsz]
    have e1 : (a + ((0 : Nat) : Int) * 1) = a := by simp
    have e2 : ((n : Int) - ((0 : Nat) : Int)) = n := by simp
    rw [e1, e2]
    exact Heap.get?_push_size _ rfl
  · intro i h st b hb
    rcases List.mem_singleton.mp hb with rfl
    exact ⟨_, st⟩

theorem Ev.iter {α : Type} {e : Expr} {P : MP} {xs : List α} {It : α → MP} (h : Ev prog w A env g s e P) (hi : ∀ g s v, (∀ b o, g b = some o → s.heap.get? b = some o) → P.p g v → Itb prog w A g s v xs It) : EvI prog w A env g s e xs It :=
  fun g₁ s₁ x => wpAny_mono (h g₁ s₁ x) (fun v s₂ ⟨g₂, y, hp⟩ => ⟨g₂, y, hi g₂ s₂ v y.sub hp⟩) fun _ _ f => f
end
end Mine
end
/-! ### Core6 -/
section
open PySem PySem.Calls PyProof.Rows
namespace Mine
section
variable {prog : Program} {w : World} {A : Around} {env : Env} {g : G} {s : Shared}

def BpC (C : Addr) (h : Heap) : Prop := (∃ m, h.Ns C m) ∧ ∃ v, h.IsCell (C + 1) v
def BC {α : Type} (It : α → MP) (g : G) (C : Addr) (a : α) (h : Heap) : Prop := (∃ m, h.Ns C m) ∧ ∃ v, h.IsCell (C + 1) (some v) ∧ (It a).p g v
theorem mem2 {C b : Addr} (h : b ∈ [C, C + 1]) : b = C ∨ b = C + 1 := by
  rcases List.mem_cons.mp h with h | h
  · exact .inl h
  · exact .inr (List.mem_singleton.mp h)
theorem isCell_at {h h' : Heap} {c : Addr} {v : Option Value} (x : h.IsCell c v) (k : ∀ o, h.get? c = some o → h'.get? c = some o) : h'.IsCell c v :=
  let ⟨o, ho, hd⟩ := x; ⟨o, k o ho, hd⟩
theorem binds_cell {α : Type} {scope : Scope} {cl : List (Str × Addr)} {x : Str} {It : α → MP} (hc1 : ∀ n, cellsFrom n scope.names cl = (x, n) :: cl) (hc2 : ∀ h, pushCells h scope.names = h.push { cls := .type "cell", data := .cell none }) (g : G) :
    Binds scope cl (fun C => (x, C + 1) :: cl) (BC It g) BpC (fun C => [C, C + 1]) where
  cellsAre := fun n => hc1 _
  isOwn := fun C b hb => by rcases mem2 hb with rfl | rfl; exact Nat.le_refl _; exact Nat.le_succ _
  memC := fun C => List.mem_cons_self
  first := fun h => ⟨⟨_, by rw [hc2]; exact (Heap.Ns.new h (.type "dict")).push _⟩, none, by
    rw [hc2]
    refine ⟨{ cls := .type "cell", data := .cell none }, ?_, rfl⟩
    have := Heap.get?_push_size (h.push dictObj) (o := { cls := .type "cell", data := .cell none }) rfl
    rw [Heap.size_push] at this
    exact this⟩
  frB := fun C a h h' ⟨⟨m, hn⟩, v, hc, r⟩ k => ⟨⟨m, hn.at fun o e => k C List.mem_cons_self o e⟩, v, isCell_at hc fun o e => k (C + 1) (List.mem_cons_of_mem _ (List.mem_singleton.mpr rfl)) o e, r⟩
  frBp := fun C h h' ⟨⟨m, hn⟩, v, hc⟩ k => ⟨⟨m, hn.at fun o e => k C List.mem_cons_self o e⟩, v, isCell_at hc fun o e => k (C + 1) (List.mem_cons_of_mem _ (List.mem_singleton.mpr rfl)) o e⟩
  BBp := fun C a h ⟨hn, v, hc, r⟩ => ⟨hn, _, hc⟩
  alive := fun C h ⟨⟨m, hn⟩, v, hc⟩ b hb => by
    rcases mem2 hb with rfl | rfl
    · obtain ⟨o, es, ep, ho, r⟩ := hn
      exact ⟨o, ho⟩
    · obtain ⟨o, ho, _⟩ := hc
      exact ⟨o, ho⟩
  ns := fun C h b => b.1

theorem opens_cell {α : Type} {x : Str} {px : Pos} {scope : Scope} {cl : List (Str × Addr)} {xs : List α} {It : α → MP} {g₂ : G} {s₂ s₃ : Shared} {Id : Addr} {fp wr : List Addr} {P : Nat → Value → Prop} {St : Nat → Heap → Prop}
    (hkind : scope.kind = .function) (hx : ∀ C, (compEnvC scope ((x, C + 1) :: cl) C env).kindOf x = some .cell) (k : Keeps s₂ s₃) (W : Walks prog w A Id fp wr xs.length P St) (hP : ∀ i v a, P i v → xs[i]? = some a → (It a).p g₂ v)
    (hw : ∀ b ∈ wr, s₂.heap.get? b = none) (hfp : ∀ b ∈ fp, b < s₃.heap.objs.size) (hst : St 0 s₃.heap) (hal : ∀ i h, St i h → ∀ b ∈ wr, ∃ o, h.get? b = some o) :
    Opens prog w A env (.Name x px) scope (fun C => (x, C + 1) :: cl) (BC It g₂) BpC (fun C => [C, C + 1]) xs g₂ s₂ s₃ Id fp wr St where
  keeps := k
  fresh := hw
  low := hfp
  loww := fun b hb => hfp b (W.sub b hb)
  start := hst
  frame := W.frame
  alive := hal
  self := fun s Q st h => W.self 0 s Q _ st h
  turn := fun C i a g s hC ha hxt st hB => by
    refine W.item i s _ _ (List.getElem?_eq_some_iff.mp ha).1 st fun v h' tk hv st' hk => ?_
    refine wpAny_of_eq rfl ?_
    obtain ⟨⟨m, hn⟩, v₀, hc⟩ := hB
    have hCw : C ∉ wr := fun h => Nat.lt_irrefl _ (Nat.lt_of_lt_of_le (hfp C (W.sub C h)) hC)
    have hCw' : C + 1 ∉ wr := fun h => Nat.lt_irrefl _ (Nat.lt_of_lt_of_le (hfp _ (W.sub _ h)) (Nat.le_succ_of_le hC))
    have hCf' : C + 1 ∉ fp := fun h => Nat.lt_irrefl _ (Nat.lt_of_lt_of_le (hfp _ h) (Nat.le_succ_of_le hC))
    refine wpAny_assign_Name (wpAny_storeName_cell (env := compEnvC scope ((x, C + 1) :: cl) C env) (by simp [compEnvC, relabel, hkind]) (hx C) (by simp [compEnvC]) (isCell_at hc fun o e => hk _ o hCw' e) (fun h₂ hc₂ hs₂ => ?_))
    refine ⟨h₂, _, rfl, W.frame _ _ _ st' fun b hb o e => hs₂.extBut b o (fun h => hCf' (by subst h; exact hb)) e, ⟨⟨m, ?_⟩, v, hc₂, hP i v a hv ha⟩, fun b o hb e => ?_⟩
    · exact (hn.at fun o e => hk C o hCw e).sameBut hs₂ (Nat.ne_of_lt (Nat.lt_succ_self C))
    · rw [List.mem_append, not_or] at hb
      exact hs₂.extBut b o (fun h => hb.1 (by subst h; exact List.mem_cons_of_mem _ (List.mem_singleton.mpr rfl))) (hk b o hb.2 e)
  last := fun C g s hC hxt st hB => by
    refine W.done s _ _ st fun h' tk hk => ⟨rfl, h', tk, rfl, ?_, fun b o hb e => ?_⟩
    · obtain ⟨⟨m, hn⟩, v₀, hc⟩ := hB
      exact ⟨⟨m, hn.at fun o e => hk C o (fun h => Nat.lt_irrefl _ (Nat.lt_of_lt_of_le (hfp C (W.sub C h)) hC)) e⟩, v₀,
        isCell_at hc fun o e => hk _ o (fun h => Nat.lt_irrefl _ (Nat.lt_of_lt_of_le (hfp _ (W.sub _ h)) (Nat.le_succ_of_le hC))) e⟩
    · rw [List.mem_append, not_or] at hb
      exact hk b o hb.2 e

/-- a comprehension whose target is a cell of its own -/
theorem EvC.compC {α : Type} {elt iter : Expr} {x : Str} {px : Pos} {ifs : List Expr} {scope : Scope} {pos : Pos} {cl : List (Str × Addr)} {xs : List α} {It : α → MP} {p : α → Bool} {R : α → MP}
    (hiter : EvI prog w A env g s iter xs It)
    (htest : ∀ C v a g' s', a ∈ xs → Ext g s g' s' → s'.heap.IsCell (C + 1) (some v) → (It a).p g' v →
      WP prog w A (forIn ifs true fun c r => if r = true then do let ok ← isTrue c (compEnvC scope ((x, C + 1) :: cl) C env) (eval c (compEnvC scope ((x, C + 1) :: cl) C env)); pure (ForInStep.yield ok) else pure (ForInStep.yield r)) (fun ok s'' => ok = p a ∧ ∃ g'', Ext g' s' g'' s'') s')
    (helt : ∀ C v a g' s', a ∈ xs → p a = true → Ext g s g' s' → s'.heap.IsCell (C + 1) (some v) → (It a).p g' v → Ev prog w A (compEnvC scope ((x, C + 1) :: cl) C env) g' s' elt (R a))
    (hsz : xs.length ≤ sizeLine)
    (hclos : closureFor scope env = pure cl := by rfl) (hkind : scope.kind = .function := by rfl) (hnames : ∀ y ∈ scope.names, y.2 = .local → scope.names.lookup y.1 = some .local := by decide)
    (hx : ∀ C, (compEnvC scope ((x, C + 1) :: cl) C env).kindOf x = some .cell := by intro _; rfl) (hc1 : ∀ n, cellsFrom n scope.names cl = (x, n) :: cl := by intro _; rfl)
    (hc2 : ∀ h, pushCells h scope.names = h.push { cls := .type "cell", data := .cell none } := by intro _; rfl)
    (hs : ∀ x, foldedSetIterable iter env x = pure x := by intro _; rfl) :
    EvC prog w A env g s (.ListComp elt [⟨.Name x px, iter, ifs, 0⟩] scope pos) (Ls R (xs.filter p)) := by
  refine EvC.gen (B := BC It) (Bp := BpC) (own := fun C => [C, C + 1]) (cells := fun C => (x, C + 1) :: cl) hclos hkind hnames (binds_cell hc1 hc2) (fun g₁ s₁ x₁ => wpAny_mono (hiter g₁ s₁ x₁) (fun xv s₂ h₂ => ?_) fun _ _ e => e) ?_ ?_ hsz hs
  · obtain ⟨g₂, x₂, hi⟩ := h₂
    refine ⟨g₂, x₂, wpAny_mono hi (fun it s₃ h₃ => ?_) fun _ _ e => e⟩
    obtain ⟨Id, fp, wr, P, St, rfl, k, W, hP, hw, hfp, hst, hal, hin⟩ := h₃
    exact ⟨Id, fp, wr, St, rfl, opens_cell hkind hx k W hP hw hfp hst hal⟩
  · rintro g₂ C a g' s' ha ⟨s₂, y, y'⟩ ⟨hn, v, hc, hv⟩
    exact htest C v a g' s' ha (y.tr y') hc ((It a).up y'.le hv)
  · rintro g₂ C a g' s' ha hp ⟨s₂, y, y'⟩ ⟨hn, v, hc, hv⟩
    exact helt C v a g' s' ha hp (y.tr y') hc ((It a).up y'.le hv) _ _ (Ext.refl y'.sub)

/-! tests -/
theorem tests_nil {env : Env} (hg : ∀ b o, g b = some o → s.heap.get? b = some o) {t : Bool} (ht : t = true) :
    WP prog w A (forIn ([] : List Expr) true fun c r => if r = true then do let ok ← isTrue c env (eval c env); pure (ForInStep.yield ok) else pure (ForInStep.yield r)) (fun ok s'' => ok = t ∧ ∃ g'', Ext g s g'' s'') s :=
  wpAny_tests_nil ⟨ht.symm, g, Ext.refl hg⟩
theorem tests_one {env : Env} {c : Expr} {t : Bool} (h : EvT prog w A env g s c t) (hg : ∀ b o, g b = some o → s.heap.get? b = some o) :
    WP prog w A (forIn [c] true fun c r => if r = true then do let ok ← isTrue c env (eval c env); pure (ForInStep.yield ok) else pure (ForInStep.yield r)) (fun ok s'' => ok = t ∧ ∃ g'', Ext g s g'' s'') s :=
  wpAny_tests_one (h _ _ (Ext.refl hg))
/-- no test -/
theorem EvC.comp0 {α : Type} {elt iter : Expr} {x : Str} {px : Pos} {scope : Scope} {pos : Pos} {cl : List (Str × Addr)} {xs : List α} {It : α → MP} {R : α → MP}
    (hiter : EvI prog w A env g s iter xs It)
    (helt : ∀ C m v a g' s', a ∈ xs → Ext g s g' s' → s'.heap.Ns C m → m x = some v → (It a).p g' v → Ev prog w A (compEnvC scope cl C env) g' s' elt (R a))
    (hsz : xs.length ≤ sizeLine)
    (hclos : closureFor scope env = pure cl := by rfl) (hkind : scope.kind = .function := by rfl) (hnames : ∀ y ∈ scope.names, y.2 = .local → scope.names.lookup y.1 = some .local := by decide)
    (hx : scope.names.lookup x = some .local := by rfl) (hc1 : ∀ n, cellsFrom n scope.names cl = cl := by intro _; rfl) (hc2 : ∀ h, pushCells h scope.names = h := by intro _; rfl)
    (hs : ∀ x, foldedSetIterable iter env x = pure x := by intro _; rfl) :
    EvC prog w A env g s (.ListComp elt [⟨.Name x px, iter, [], 0⟩] scope pos) (Ls R xs) := by
  have h := EvC.comp (p := fun _ => true) (R := R) (elt := elt) (px := px) (pos := pos) hiter (fun C m v a g' s' ha hx' hn hm hv => tests_nil hx'.sub rfl) (fun C m v a g' s' ha _ => helt C m v a g' s' ha) hsz hclos hkind hnames hx hc1 hc2 hs
  rwa [List.filter_eq_self.mpr (fun _ _ => rfl)] at h
theorem EvC.compC0 {α : Type} {elt iter : Expr} {x : Str} {px : Pos} {scope : Scope} {pos : Pos} {cl : List (Str × Addr)} {xs : List α} {It : α → MP} {R : α → MP}
    (hiter : EvI prog w A env g s iter xs It)
    (helt : ∀ C v a g' s', a ∈ xs → Ext g s g' s' → s'.heap.IsCell (C + 1) (some v) → (It a).p g' v → Ev prog w A (compEnvC scope ((x, C + 1) :: cl) C env) g' s' elt (R a))
    (hsz : xs.length ≤ sizeLine)
    (hclos : closureFor scope env = pure cl := by rfl) (hkind : scope.kind = .function := by rfl) (hnames : ∀ y ∈ scope.names, y.2 = .local → scope.names.lookup y.1 = some .local := by decide)
    (hx : ∀ C, (compEnvC scope ((x, C + 1) :: cl) C env).kindOf x = some .cell := by intro _; rfl) (hc1 : ∀ n, cellsFrom n scope.names cl = (x, n) :: cl := by intro _; rfl)
    (hc2 : ∀ h, pushCells h scope.names = h.push { cls := .type "cell", data := .cell none } := by intro _; rfl)
    (hs : ∀ x, foldedSetIterable iter env x = pure x := by intro _; rfl) :
    EvC prog w A env g s (.ListComp elt [⟨.Name x px, iter, [], 0⟩] scope pos) (Ls R xs) := by
  have h := EvC.compC (p := fun _ => true) (R := R) (elt := elt) (px := px) (pos := pos) hiter (fun C v a g' s' ha hx' hc hv => tests_nil hx'.sub rfl) (fun C v a g' s' ha _ => helt C v a g' s' ha) hsz hclos hkind hnames hx hc1 hc2 hs
  rwa [List.filter_eq_self.mpr (fun _ _ => rfl)] at h
end
end Mine
end
/-! ### Core7 -/
section
open PySem PySem.Calls PyProof.Rows
namespace Mine
abbrev Sub (g : G) (s : Shared) : Prop := ∀ b o, g b = some o → s.heap.get? b = some o
section
variable {prog : Program} {w : World} {A : Around} {env : Env} {g : G} {s : Shared} {a b : Value} {x y : Int}

/-! operations on ints -/
theorem op_add (hg : Sub g s) (ha : (I x).p g a) (hb : (I y).p g b) : Op prog w A (binaryOp .Add a b) g s (I (x + y)) := by
  obtain ⟨t, rfl⟩ := ha; obtain ⟨u, rfl⟩ := hb; exact add_int ⟨g, Ext.toks hg _, _, rfl⟩
theorem op_sub (hg : Sub g s) (ha : (I x).p g a) (hb : (I y).p g b) : Op prog w A (binaryOp .Sub a b) g s (I (x - y)) := by
  obtain ⟨t, rfl⟩ := ha; obtain ⟨u, rfl⟩ := hb; exact sub_int' ⟨g, Ext.toks hg _, _, rfl⟩
theorem op_mul (hm : IntMulOk x y) (hg : Sub g s) (ha : (I x).p g a) (hb : (I y).p g b) : Op prog w A (binaryOp .Mult a b) g s (I (x * y)) := by
  obtain ⟨t, rfl⟩ := ha; obtain ⟨u, rfl⟩ := hb; exact mul_int ⟨g, Ext.toks hg _, _, rfl⟩ hm
theorem op_mod (hy : y ≠ 0) (hg : Sub g s) (ha : (I x).p g a) (hb : (I y).p g b) : Op prog w A (binaryOp .Mod a b) g s (I (x.fmod y)) := by
  obtain ⟨t, rfl⟩ := ha; obtain ⟨u, rfl⟩ := hb; exact mod_int hy ⟨g, Ext.toks hg _, _, rfl⟩
theorem op_div (hy : y ≠ 0) (hp : Builtin.divisionGoesByPylong x y = false) (hg : Sub g s) (ha : (I x).p g a) (hb : (I y).p g b) : Op prog w A (binaryOp .FloorDiv a b) g s (I (x.fdiv y)) := by
  obtain ⟨t, rfl⟩ := ha; obtain ⟨u, rfl⟩ := hb; exact floordiv_int hy ⟨g, Ext.toks hg _, _, rfl⟩ (.inl hp)
theorem op_shr (hy : 0 ≤ y) (hg : Sub g s) (ha : (I x).p g a) (hb : (I y).p g b) : Op prog w A (binaryOp .RShift a b) g s (I (x.fdiv (2 ^ y.toNat))) := by
  obtain ⟨t, rfl⟩ := ha; obtain ⟨u, rfl⟩ := hb; exact rshift_int hy ⟨g, Ext.toks hg _, _, rfl⟩
theorem op_pow (hy : 0 ≤ y) (hy2 : y ≤ 1000000) (hx : x.natAbs < 2 ^ 64) (hg : Sub g s) (ha : (I x).p g a) (hb : (I y).p g b) : Op prog w A (binaryOp .Pow a b) g s (I (x ^ y.toNat)) := by
  obtain ⟨t, rfl⟩ := ha; obtain ⟨u, rfl⟩ := hb; exact pow_int_small hy hy2 hx ⟨g, Ext.toks hg _, _, rfl⟩
theorem op_and (hg : Sub g s) (ha : (I x).p g a) (hb : (I y).p g b) : Op prog w A (binaryOp .BitAnd a b) g s (I (Builtin.bitAnd x y)) := by
  obtain ⟨t, rfl⟩ := ha; obtain ⟨u, rfl⟩ := hb; exact and_int ⟨g, Ext.toks hg _, _, rfl⟩
theorem op_eq (hg : Sub g s) (ha : (I x).p g a) (hb : (I y).p g b) : Op prog w A (compareOp .Eq a b) g s (Bo (x == y)) := by
  obtain ⟨t, rfl⟩ := ha; obtain ⟨u, rfl⟩ := hb; exact eq_int ⟨g, Ext.refl hg, rfl⟩
theorem op_ne (hg : Sub g s) (ha : (I x).p g a) (hb : (I y).p g b) : Op prog w A (compareOp .NotEq a b) g s (Bo (x != y)) := by
  obtain ⟨t, rfl⟩ := ha; obtain ⟨u, rfl⟩ := hb; exact ne_int ⟨g, Ext.refl hg, rfl⟩
theorem op_eqT {x y : Str} (hg : Sub g s) (ha : (T x).p g a) (hb : (T y).p g b) : Op prog w A (compareOp .Eq a b) g s (Bo (x == y)) := by
  obtain ⟨t, rfl⟩ := ha; obtain ⟨u, rfl⟩ := hb; exact eq_str ⟨g, Ext.refl hg, rfl⟩
theorem op_neT {x y : Str} (hg : Sub g s) (ha : (T x).p g a) (hb : (T y).p g b) : Op prog w A (compareOp .NotEq a b) g s (Bo (x != y)) := by
  obtain ⟨t, rfl⟩ := ha; obtain ⟨u, rfl⟩ := hb; exact ne_str ⟨g, Ext.refl hg, rfl⟩

/-! truth, choice -/
theorem EvT.ofI {e : Expr} (h : Ev prog w A env g s e (I x)) (he : isTrue e env (eval e env) = (do let v ← eval e env; standAt e.pos; holding [v] (truthy v)) := by rfl) : EvT prog w A env g s e (x != 0) :=
  fun g₁ s₁ y => isTrue_plain (wpAny_mono (h g₁ s₁ y) (fun v s₂ ⟨g₂, z, t, hv⟩ => by subst hv; exact truthy_int ⟨rfl, g₂, z⟩) fun _ _ f => f) he
theorem Ev.ite {test body orelse : Expr} {pos : Pos} {c : Bool} {P : MP} (ht : EvT prog w A env g s test c) (h1 : c = true → Ev prog w A env g s body P) (h2 : c = false → Ev prog w A env g s orelse P) :
    Ev prog w A env g s (.IfExp test body orelse pos) P :=
  fun g₁ s₁ y => IfExp_ (wpAny_mono (ht g₁ s₁ y) (fun r s₂ ⟨hr, g₂, z⟩ => by
    subst hr
    cases r with
    | true => exact wpAny_mono (h1 rfl g₂ s₂ (y.tr z)) (fun v s₃ ⟨g₃, u, p⟩ => ⟨g₃, z.tr u, p⟩) fun _ _ f => f
    | false => exact wpAny_mono (h2 rfl g₂ s₂ (y.tr z)) (fun v s₃ ⟨g₃, u, p⟩ => ⟨g₃, z.tr u, p⟩) fun _ _ f => f) fun _ _ f => f)
theorem EvT.or2 {l r : Expr} {pos : Pos} {c d : Bool} (h1 : EvT prog w A env g s l c) (h2 : c = false → EvT prog w A env g s r d) : EvT prog w A env g s (.BoolOp .Or [l, r] pos) (c || d) :=
  fun g₁ s₁ y => isTrue_or (wpAny_mono (h1 g₁ s₁ y) (fun q s₂ ⟨hq, g₂, z⟩ => by
    subst hq
    cases q with
    | true => exact ⟨rfl, g₂, z⟩
    | false => exact isTrue_or (wpAny_mono (h2 rfl g₂ s₂ (y.tr z)) (fun q s₃ ⟨hq, g₃, u⟩ => by
        subst hq
        cases q with
        | true => exact ⟨rfl, g₃, z.tr u⟩
        | false => exact isTrue_or_nil ⟨rfl, g₃, z.tr u⟩) fun _ _ f => f)) fun _ _ f => f)

/-! items -/
/-- the tail of a subscript, by the operation on values -/
theorem sub_tail {value slice : Expr} {o i : Value} {Ty id : String} {P : MP} {ops : List Value} (hT : s.TypeIs o Ty) (hl : typeLookup (.type Ty) "__getitem__" = pure (some (.builtin id))) (h : Op prog w A (getItem o i) g s P)
    (hs : subscripted slice false o i = operate ops (getItem o i)) : Op prog w A (subscriptTail value slice o i) g s P := by
  unfold Op subscriptTail
  refine wpAny_bind ?_
  rw [getitemInPython_of_ne hT.not_modules]
  refine wpAny_bind (wpAny_specialOf hT hl ?_)
  have fin : WP prog w A (subscripted slice false o i) (fun r s₃ => WP prog w A (letTemporaryGo value o r >>= fun _ => pure r) (fun v s₂ => ∃ g₂, Ext g s g₂ s₂ ∧ P.p g₂ v) s₃) s := by
    rw [hs]
    exact wpAny_operating (wpAny_mono h (fun r s₃ h₃ => wpAny_bind (wpAny_letTemporaryGo (wpAny_pure h₃))) fun _ _ x => x)
  exact wpAny_pure (wpAny_bind fin)
theorem Ev.sub {value slice : Expr} {pos : Pos} {P₁ P₂ P : MP} (h₁ : Ev prog w A env g s value P₁) (h₂ : Ev prog w A env g s slice P₂)
    (h : ∀ g s a b, Sub g s → P₁.p g a → P₂.p g b → Op prog w A (subscriptTail value slice a b) g s P) : Ev prog w A env g s (.Subscript value slice pos) P :=
  fun _ _ x => Subscript_ (wpAny_mono (h₁ _ _ x) (fun a s₁ ⟨g₁, x₁, p₁⟩ => wpAny_mono (h₂ _ _ (x.tr x₁)) (fun b s₂ ⟨g₂, x₂, p₂⟩ =>
    wpAny_mono (h g₂ s₂ a b x₂.sub (P₁.up x₂.le p₁) p₂) (fun v s₃ ⟨g₃, x₃, p₃⟩ => ⟨g₃, x₁.tr (x₂.tr x₃), p₃⟩) fun _ _ f => f) fun _ _ f => f) fun _ _ f => f)

theorem op_item {α : Type} {R : α → MP} {xs : List α} {c : α} (h0 : 0 ≤ y) (hx : xs[y.toNat]? = some c) (hs : xs.length < 2 ^ 62) (hg : Sub g s) (ha : (Ls R xs).p g a) (hb : (I y).p g b) : Op prog w A (getItem a b) g s (R c) := by
  obtain ⟨l, vs, n, rfl, hl, hp⟩ := ha
  obtain ⟨u, rfl⟩ := hb
  obtain ⟨v, hv, hr⟩ := Paired.get hp hx
  have hlt := (List.getElem?_eq_some_iff.mp hx).1
  exact wpAny_getItem_list (lst_isList hg hl) h0 (by omega) (by simpa using hv) ⟨g, Ext.refl hg, hr⟩
theorem op_itemNeg {α : Type} {R : α → MP} {xs : List α} {c : α} (h0 : y < 0) (h1 : -(xs.length : Int) ≤ y) (hx : xs[(y + xs.length).toNat]? = some c) (hs : xs.length < 2 ^ 62) (hg : Sub g s) (ha : (Ls R xs).p g a) (hb : (I y).p g b) : Op prog w A (getItem a b) g s (R c) := by
  obtain ⟨l, vs, n, rfl, hl, hp⟩ := ha
  obtain ⟨u, rfl⟩ := hb
  obtain ⟨v, hv, hr⟩ := Paired.get hp hx
  have hlen : vs.length = xs.length := (Paired.length hp).symm
  exact wpAny_getItem_list_neg (lst_isList hg hl) h0 (by simpa [hlen] using h1) (by omega) (by simpa [hlen] using hv) ⟨g, Ext.refl hg, hr⟩
theorem tup_item {α : Type} {R : α → MP} {xs : List α} {c : α} (h0 : 0 ≤ y) (hx : xs[y.toNat]? = some c) (hs : xs.length < 2 ^ 62) (hg : Sub g s) (ha : (Tu R xs).p g a) (hb : (I y).p g b) : Op prog w A (getItem a b) g s (R c) := by
  obtain ⟨l, vs, n, rfl, hl, hp⟩ := ha
  obtain ⟨u, rfl⟩ := hb
  obtain ⟨v, hv, hr⟩ := Paired.get hp hx
  have hlt := (List.getElem?_eq_some_iff.mp hx).1
  have hlen : vs.length = xs.length := (Paired.length hp).symm
  have hlv : y < vs.length := by omega
  have hi : seqIndex? y vs.toArray.size = some y.toNat := by
    have h3 : ¬ y < 0 := by omega
    simp [seqIndex?, h3, h0, hlv]
  exact getItem_tuple (tup_isTuple hg hl) (by omega) (by omega) hi (by simpa using hv) ⟨g, Ext.refl hg, hr⟩
theorem text_item {z : Str} {c : Nat} (h0 : 0 ≤ y) (hx : z.cps[y.toNat]? = some c) (hs : z.cps.size < 2 ^ 62) (hg : Sub g s) (ha : (T z).p g a) (hb : (I y).p g b) : Op prog w A (getItem a b) g s (T ⟨#[c]⟩) := by
  obtain ⟨t, rfl⟩ := ha
  obtain ⟨u, rfl⟩ := hb
  have hlt := (Array.getElem?_eq_some_iff.mp hx).1
  have hl : y < z.length := by show y < (z.cps.size : Int); omega
  refine getItem_str (by simp; omega) (c := c) ?_ ⟨g, Ext.toks hg _, _, rfl⟩
  have : seqIndex? y z.length = some y.toNat := by
    have h3 : ¬ y < 0 := by omega
    simp [seqIndex?, h3, h0, hl]
  rw [this]; simpa using hx
theorem list_tail {value slice : Expr} {α : Type} {R : α → MP} {xs : List α} {P : MP} {ops : List Value} (ha : (Ls R xs).p g a) (hg : Sub g s) (h : Op prog w A (getItem a b) g s P) (hs : subscripted slice false a b = operate ops (getItem a b)) : Op prog w A (subscriptTail value slice a b) g s P := by
  obtain ⟨l, vs, n, rfl, hl, hp⟩ := ha
  exact sub_tail (lst_isList hg hl).typeIs slot_list_getitem.lookup h hs
theorem tup_tail {value slice : Expr} {α : Type} {R : α → MP} {xs : List α} {P : MP} {ops : List Value} (ha : (Tu R xs).p g a) (hg : Sub g s) (h : Op prog w A (getItem a b) g s P) (hs : subscripted slice false a b = operate ops (getItem a b)) : Op prog w A (subscriptTail value slice a b) g s P := by
  obtain ⟨l, vs, n, rfl, hl, hp⟩ := ha
  exact sub_tail (tup_isTuple hg hl).typeIs slot_tuple_getitem.lookup h hs
theorem text_tail {value slice : Expr} {z : Str} {P : MP} {ops : List Value} (ha : (T z).p g a) (h : Op prog w A (getItem a b) g s P) (hs : subscripted slice false a b = operate ops (getItem a b)) : Op prog w A (subscriptTail value slice a b) g s P := by
  obtain ⟨t, rfl⟩ := ha
  exact sub_tail (typeIs_str s z t) slot_str_getitem.lookup h hs
theorem bytes_tail {value slice : Expr} {z : Array UInt8} {P : MP} {ops : List Value} (ha : (By z).p g a) (h : Op prog w A (getItem a b) g s P) (hs : subscripted slice false a b = operate ops (getItem a b)) : Op prog w A (subscriptTail value slice a b) g s P := by
  obtain ⟨t, rfl⟩ := ha
  exact sub_tail (PySem.W.typeIs_bytes s z t) PySem.W.FB.slot_bytes_getitem.lookup h hs
end
end Mine
end
/-! ### Core8 -/
section
open PySem PySem.Calls PyProof.Rows
namespace Mine
section
variable {prog : Program} {w : World} {A : Around} {env : Env} {g : G} {s : Shared}

inductive Callee (s : Shared) : Value → Prop
  | builtin (id : String) : Callee s (.builtin id)
  | type (Ty : String) : Callee s (.type Ty)
  | func (a : Addr) (o : Obj) (fd : FuncData) : s.heap.get? a = some o → o.data = .func fd → Callee s (.ref a)

theorem callWith_any {pos : Pos} {f : Value} {first : List Value} {args : List (Bool × Sem Value)} {Q : Value → Shared → Prop} (hc : ∀ s', Keeps s s' → Callee s' f) (hplain : args.any (·.1) = false)
    (h : WP prog w A (evalArgs f true args []) (fun a s₁ => Keeps s s₁ ∧ WP prog w A (call f (first ++ a.pos) a.kw) Q s₁) s) : WP prog w A (callWith pos f first args []) Q s := by
  cases hc s (Keeps.refl s) with
  | builtin id => exact callWith_builtin hplain (wpAny_mono h (fun _ _ h => h.2) fun _ _ e => e)
  | type Ty => exact PySem.callWith_type hplain (wpAny_mono h (fun _ _ h => h.2) fun _ _ e => e)
  | func a o fd ho hd => exact callWith_function (o := o) (fd := fd) (wpAny_mono h (fun _ _ h => ⟨⟨kget h.1 _ _ ho, hd⟩, h.2⟩) fun _ _ e => e)

/-! arguments -/
def EvL (prog : Program) (w : World) (A : Around) (env : Env) (g : G) (s : Shared) (es : List Expr) (Ps : List MP) : Prop :=
  ∀ pos g₁ s₁, Ext g s g₁ s₁ → WP prog w A (spliced (backTo pos (starEach es env))) (fun vs s₂ => ∃ g₂, Ext g₁ s₁ g₂ s₂ ∧ Paired (fun P v => MP.p P g₂ v) Ps vs) s₁
theorem EvL.nil : EvL prog w A env g s [] [] := fun _ _ _ x => spliced_nil ⟨_, Ext.refl x.sub, .nil⟩
theorem EvL.cons {e : Expr} {es : List Expr} {P : MP} {Ps : List MP} (h : Ev prog w A env g s e P) (hs : EvL prog w A env g s es Ps) (he : starEach (e :: es) env = (false, eval e env) :: starEach es env := by rfl) :
    EvL prog w A env g s (e :: es) (P :: Ps) := by
  intro pos g₁ s₁ x
  rw [he]
  show wpAny _ A (spliced ((false, eval e env) :: backTo pos (starEach es env))) _ _ s₁
  exact spliced_cons (wpAny_mono (h _ _ x) (fun v s₂ ⟨g₂, y, p⟩ => wpAny_mono (hs pos _ _ (x.tr y)) (fun vs s₃ ⟨g₃, z, ps⟩ => ⟨g₃, y.tr z, .cons (P.up z.le p) ps⟩) fun _ _ f => f) fun _ _ f => f)
theorem EvL.plain {es : List Expr} {Ps : List MP} (h : EvL prog w A env g s es Ps) {pos : Pos} {g₁ : G} {s₁ : Shared} (x : Ext g s g₁ s₁) {f : Value} (hn : ∃ e es', es = e :: es' ∧ starEach es env = (false, eval e env) :: starEach es' env) :
    WP prog w A (evalArgs f true (backTo pos (starEach es env)) []) (fun a s₂ => a.kw = [] ∧ ∃ g₂, Ext g₁ s₁ g₂ s₂ ∧ Paired (fun P v => MP.p P g₂ v) Ps a.pos) s₁ := by
  obtain ⟨e, es', rfl, he⟩ := hn
  have := h pos _ _ x
  rw [he] at this ⊢
  exact evalArgs_plain (wpAny_mono this (fun vs s₂ h => ⟨rfl, h⟩) fun _ _ f => f)

theorem Ev.call {f : Str} {np pos : Pos} {e : Expr} {es : List Expr} {fv : Value} {Ps : List MP} {R : MP} (hf : Ev prog w A env g s (.Name f np) (Is fv)) (hc : ∀ s', Keeps s s' → Callee s' fv) (ha : EvL prog w A env g s (e :: es) Ps)
    (h : ∀ g' s' vs, Ext g s g' s' → Paired (fun P v => MP.p P g' v) Ps vs → Op prog w A (call fv vs) g' s' R)
    (he : starEach (e :: es) env = (false, eval e env) :: starEach es env := by rfl) (hp : (starEach (e :: es) env).any (·.1) = false := by rfl) : Ev prog w A env g s (.Call (.Name f np) (e :: es) [] pos) R := by
  intro g₁ s₁ x
  show wpAny _ A (do callWith pos (← eval (.Name f np) env) [] (backTo pos (starEach (e :: es) env)) (backToKw pos (keywordEach [] env))) _ _ s₁
  refine wpAny_bind (wpAny_mono (hf _ _ x) (fun v s₂ ⟨g₂, y, hv⟩ => ?_) fun _ _ f => f)
  have hv' : v = fv := hv
  subst hv'
  have xy := x.tr y
  refine callWith_any (fun s' k => hc s' (Keeps.tr xy.keeps k)) ?_ ?_
  · rw [← hp]
    simp [backTo, List.any_map, Function.comp_def]
  · refine wpAny_mono (ha.plain xy ⟨e, es, rfl, he⟩) (fun a s₃ ⟨hk, g₃, z, p⟩ => ⟨z.keeps, ?_⟩) fun _ _ f => f
    rw [hk]
    exact wpAny_mono (h g₃ s₃ a.pos (xy.tr z) p) (fun r s₄ ⟨g₄, u, q⟩ => ⟨g₄, y.tr (z.tr u), q⟩) fun _ _ f => f

/-! displays -/
theorem Paired.all {α : Type} {R : α → MP} {g : G} : ∀ {xs : List α} {vs : List Value}, Paired (fun P v => MP.p P g v) (xs.map R) vs → Paired (fun x v => (R x).p g v) xs vs := fun h => (Paired.mapL (F := fun P v => MP.p P g v) R).mpr h
theorem Ev.tup {α : Type} {R : α → MP} {xs : List α} {es : List Expr} {k : Nat} {pos : Pos} (h : EvL prog w A env g s es (xs.map R)) (hz : xs.length ≤ sizeLine) : Ev prog w A env g s (.Tuple es k pos) (Tu R xs) := by
  intro g₁ s₁ x
  refine wpAny_Tuple_spliced (wpAny_mono (h pos _ _ x) (fun vs s₂ ⟨g₂, y, p⟩ => ?_) fun _ _ f => f)
  have hp := Paired.all p
  have hn : s₂.heap.get? s₂.heap.objs.size = none := fresh_none (Nat.le_refl _)
  have z := Ext.keep y.sub (push_keeps s₂ { cls := .type "tuple", data := .seq vs.toArray })
  have hg2 : g₂ s₂.heap.objs.size = none := sub_none y.sub hn
  have z' := z.put hn hg2 (Heap.get?_push_size _ rfl)
  exact ⟨by rw [← Paired.length hp]; exact hz, _, y.tr z', s₂.heap.objs.size, vs, 0, rfl, G.put_self _ _ _, Paired.mono (fun a v q => (R a).up (G.put_le hg2) q) hp⟩
theorem Ev.lst {α : Type} {R : α → MP} {xs : List α} {es : List Expr} {pos : Pos} (h : EvL prog w A env g s es (xs.map R)) (hz : xs.length ≤ sizeLine) : Ev prog w A env g s (.List es pos) (Ls R xs) := by
  intro g₁ s₁ x
  refine wpAny_List_spliced (wpAny_mono (h pos _ _ x) (fun vs s₂ ⟨g₂, y, p⟩ => ?_) fun _ _ f => f)
  have hp := Paired.all p
  have hn : s₂.heap.get? s₂.heap.objs.size = none := fresh_none (Nat.le_refl _)
  have z := Ext.keep y.sub (push_keeps s₂ { cls := .type "list", data := .seq vs.toArray })
  have hg2 : g₂ s₂.heap.objs.size = none := sub_none y.sub hn
  have z' := z.put hn hg2 (Heap.get?_push_size _ rfl)
  exact ⟨by rw [← Paired.length hp]; exact hz, _, y.tr z', s₂.heap.objs.size, vs, 0, rfl, G.put_self _ _ _, Paired.mono (fun a v q => (R a).up (G.put_le hg2) q) hp⟩

/-! built-ins -/
theorem ints_of {vs : List Value} {ns : List Int} {g : G} (h : Paired (fun n v => (I n).p g v) ns vs) : IntsAre vs ns := by
  induction h with
  | nil => exact .nil
  | cons hx _ ih => obtain ⟨t, rfl⟩ := hx; exact .cons _ t ih
theorem op_sum {ns : List Int} {v : Value} (hh : A.handled = none) (hg : Sub g s) (h : (Ls I ns).p g v) : Op prog w A (call (.builtin "sum") [v]) g s (I ns.sum) := by
  obtain ⟨a, vs, n, rfl, ha, hp⟩ := h
  have hi := ints_of hp
  obtain ⟨xs, hxs⟩ := hi.allInts.items
  have hl := lst_isList hg ha
  rw [hxs] at hl
  refine sum_intListG hh hl fun h' tk t' hk => ⟨g, Ext.keep hg ⟨h', tk, rfl, hk⟩, t', ?_⟩
  have := hi.numsOf
  rw [show vs = vs.toArray.toList from rfl, hxs, nums_intItems] at this
  rw [preSum_eq, List.take_of_length_le (by simp), this]
theorem op_len {α : Type} {R : α → MP} {xs : List α} {v : Value} (hz : xs.length < 2 ^ 62) (hg : Sub g s) (h : (Ls R xs).p g v) : Op prog w A (call (.builtin "len") [v]) g s (I xs.length) := by
  obtain ⟨a, vs, n, rfl, ha, hp⟩ := h
  have hlen : vs.length = xs.length := (Paired.length hp).symm
  refine call_len_list (lst_isList hg ha) (by simp [hlen]; omega) ⟨g, Ext.toks hg _, _, by simp [hlen]; rfl⟩
theorem op_chr {i : Int} {v : Value} (h0 : 0 ≤ i) (h1 : i < 128) (hg : Sub g s) (h : (I i).p g v) : Op prog w A (call (.builtin "chr") [v]) g s (T ⟨#[i.toNat]⟩) := by
  obtain ⟨t, rfl⟩ := h
  exact P.chr_of_int (by simp; omega) ⟨g, Ext.toks hg _, _, rfl⟩
theorem op_abs {i : Int} {v : Value} (h0 : 0 ≤ i) (hg : Sub g s) (h : (I i).p g v) : Op prog w A (call (.builtin "abs") [v]) g s (I i) := by
  obtain ⟨t, rfl⟩ := h
  refine call_abs_int fun u tk => ⟨g, Ext.toks hg _, u, ?_⟩
  rw [if_neg (by omega)]
theorem op_range2 {x y : Int} {a b : Value} (hg : Sub g s) (ha : (I x).p g a) (hb : (I y).p g b) : Op prog w A (call (.type "range") [a, b]) g s (Rg x y) := by
  obtain ⟨t, rfl⟩ := ha; obtain ⟨u, rfl⟩ := hb
  have hn : s.heap.get? s.heap.objs.size = none := fresh_none (Nat.le_refl _)
  have z := Ext.keep hg (push_keeps s { cls := .type "range", data := .fields #[.int x t, .int y u, .int 1 s.toks] })
  have z' := z.put hn (sub_none hg hn) (Heap.get?_push_size _ rfl)
  refine call_range_2 ⟨_, ⟨Keeps.toks z'.keeps _, z'.le, z'.sub, z'.new⟩, s.heap.objs.size, t, u, s.toks, rfl, G.put_self _ _ _⟩
theorem op_range1 {y : Int} {b : Value} (hg : Sub g s) (hb : (I y).p g b) : Op prog w A (call (.type "range") [b]) g s (Rg 0 y) := by
  obtain ⟨u, rfl⟩ := hb
  have hn : s.heap.get? s.heap.objs.size = none := fresh_none (Nat.le_refl _)
  have z := Ext.keep hg (push_keeps s { cls := .type "range", data := .fields #[.int 0 s.toks, .int y u, .int 1 (s.toks + 1)] })
  have z' := z.put hn (sub_none hg hn) (Heap.get?_push_size _ rfl)
  refine call_range_1 ⟨_, ⟨Keeps.toks z'.keeps _, z'.le, z'.sub, z'.new⟩, s.heap.objs.size, s.toks, u, s.toks + 1, rfl, G.put_self _ _ _⟩
end
end Mine
end
/-! ### Core9 -/
section
open PySem PySem.Calls PyProof.Rows
namespace Mine
section
variable {prog : Program} {w : World} {A : Around} {env : Env} {g₀ g : G} {s₀ s : Shared} {m cm : Str → Option Value} {pv : List (Addr × Obj)}

/-- inside a def: its frame, its cells, its data -/
structure Fs (pv : List (Addr × Obj)) (g₀ : G) (s₀ : Shared) (env : Env) (m cm : Str → Option Value) (g : G) (s : Shared) : Prop where
  x : InCallC s₀ env.locals m env.cells cm s
  le : ∀ b o, g₀ b = some o → g b = some o
  sub : Sub g s
  new : ∀ b o, g b = some o → g₀ b = some o ∨ s₀.heap.get? b = none
  fr : g env.locals = none
  frc : ∀ n c, env.cells.lookup n = some c → g c = none
  held : ∀ p ∈ pv, s.heap.get? p.1 = some p.2 ∧ g p.1 = none ∧ p.1 ≠ env.locals ∧ (∀ n c, env.cells.lookup n = some c → c ≠ p.1) ∧ s₀.heap.get? p.1 = none

theorem Fs.ns (F : Fs pv g₀ s₀ env m cm g s) : s.heap.Ns env.locals m := F.x.toInCall.ns
theorem Fs.alive (F : Fs pv g₀ s₀ env m cm g s) : ∃ o, s.heap.get? env.locals = some o := by
  obtain ⟨o, es, ep, ho, _⟩ := F.ns
  exact ⟨o, ho⟩
theorem Fs.keep (F : Fs pv g₀ s₀ env m cm g s) : ∀ b o, s₀.heap.get? b = some o → s.heap.get? b = some o := F.x.toInCall.keep
theorem Fs.ext (F : Fs pv g₀ s₀ env m cm g s) : Ext g₀ s₀ g s := ⟨F.x.done, F.le, F.sub, F.new⟩
theorem inCallC_kept {L : Addr} {cs : List (Str × Addr)} (x : InCallC s₀ L m cs cm s) {s' : Shared} (k : Keeps s s') : InCallC s₀ L m cs cm s' := by
  obtain ⟨h, t, rfl, k⟩ := k
  exact x.kept k
theorem Fs.step (F : Fs pv g₀ s₀ env m cm g s) {g' : G} {s' : Shared} (y : Ext g s g' s') : Fs pv g₀ s₀ env m cm g' s' where
  x := inCallC_kept F.x y.keeps
  le := fun b o e => y.le b o (F.le b o e)
  sub := y.sub
  new := fun b o e => by
    rcases y.new b o e with h | h
    · exact F.new b o h
    · refine .inr ?_
      cases q : s₀.heap.get? b with
      | none => rfl
      | some o' => rw [F.keep b o' q] at h; cases h
  fr := y.gnone F.fr F.alive
  frc := fun n c hc => y.gnone (F.frc n c hc) (let ⟨o, ho, _⟩ := F.x.cell n c hc; ⟨o, ho⟩)
  held := fun p hp => let ⟨h1, h2, h3⟩ := F.held p hp; ⟨kget y.keeps _ _ h1, y.gnone h2 ⟨_, h1⟩, h3⟩

abbrev upd (m : Str → Option Value) (x : Str) (v : Value) : Str → Option Value := fun y => if y = x then some v else m y

/-- a step that turns one private object alone -/
theorem Fs.private (F : Fs pv g₀ s₀ env m cm g s) {s' : Shared} {m' cm' : Str → Option Value} {a : Addr} (hx : InCallC s₀ env.locals m' env.cells cm' s') (ha : g a = none) (hpa : ∀ p ∈ pv, p.1 ≠ a) (hs : ∀ b o, b ≠ a → s.heap.get? b = some o → s'.heap.get? b = some o) : Fs pv g₀ s₀ env m' cm' g s' where
  x := hx
  le := F.le
  sub := fun b o e => hs b o (by rintro rfl; rw [ha] at e; cases e) (F.sub b o e)
  new := F.new
  fr := F.fr
  frc := F.frc
  held := fun p hp => let ⟨h1, h2⟩ := F.held p hp; ⟨hs _ _ (hpa p hp) h1, h2⟩

/-- a call's frame behind a step that leaves what was there before the call -/
theorem frame_step {s₀ s : Shared} {L : Addr} {m cm m' cm' : Str → Option Value} {cs : List (Str × Addr)} (x : InCallC s₀ L m cs cm s) {h' : Heap} {tk : Nat} (hn : h'.Ns L m') (hc : ∀ n c, cs.lookup n = some c → h'.IsCell c (cm' n))
    (hk : ∀ b o, s₀.heap.get? b = some o → s.heap.get? b = some o → h'.get? b = some o) : InCallC s₀ L m' cs cm' { s with heap := h', toks := tk } :=
  ⟨⟨let ⟨_, _, e⟩ := x.toInCall.same; ⟨h', tk, by rw [e]⟩, hn, fun b o e => hk b o e (x.toInCall.keep b o e), x.toInCall.fresh⟩, hc, x.apart, x.above⟩
theorem Fs.old (F : Fs pv g₀ s₀ env m cm g s) {b : Addr} {o : Obj} (e : s₀.heap.get? b = some o) : b < env.locals := Nat.lt_of_lt_of_le (Heap.lt_size e) F.x.toInCall.fresh
theorem Fs.stL (F : Fs pv g₀ s₀ env m cm g s) {n : Str} {v : Value} {Q : Unit → Shared → Prop} (hl : env.kindOf n = some .local) (hk : env.scope.kind = .function)
    (h : ∀ s', Fs pv g₀ s₀ env (upd m n v) cm g s' → Q () s') : WP prog w A (storeName env n v) Q s := by
  refine wpAny_storeName_local hl F.ns (fun h' hn' hs' => h _ (F.private (frame_step F.x hn' (fun k c hc => ?_) fun b o e e' => ?_) F.fr (fun p hp => (F.held p hp).2.2.1) fun b o hb e => hs'.extBut b o hb e)) (by rw [hk]; rfl)
  · have above := F.x.above k c (mem_of_lookup hc)
    exact (F.x.cell k c hc).sameBut hs' (Nat.ne_of_gt above)
  · exact hs'.extBut b o (Nat.ne_of_lt (F.old e)) e'
theorem Fs.stC (F : Fs pv g₀ s₀ env m cm g s) {n : Str} {c : Addr} {v : Value} {Q : Unit → Shared → Prop} (hl : env.kindOf n = some .cell) (hk : env.scope.kind = .function) (hc : env.cells.lookup n = some c)
    (h : ∀ s', Fs pv g₀ s₀ env m (upd cm n v) g s' → Q () s') : WP prog w A (storeName env n v) Q s := by
  have above := F.x.above n c (mem_of_lookup hc)
  refine wpAny_storeName_cell hk hl hc (F.x.cell n c hc) fun h' hc' hs' => h _ (F.private (frame_step F.x (F.ns.sameBut hs' (Nat.ne_of_lt above)) (fun k d hd => ?_) fun b o e e' => ?_) (F.frc n c hc) (fun p hp e => (F.held p hp).2.2.2.1 n c hc e.symm) fun b o hb e => hs'.extBut b o hb e)
  · by_cases e : d = c
    · have e' := name_of_addr F.x.apart (mem_of_lookup hd) (e ▸ mem_of_lookup hc)
      rw [e, e']
      show h'.IsCell c (if n = n then some v else cm n)
      rw [if_pos rfl]
      exact hc'
    · have ne : k ≠ n := fun q => by rw [q, hc] at hd; exact e (Option.some.inj hd).symm
      show h'.IsCell d (if k = n then some v else cm k)
      rw [if_neg ne]
      exact (F.x.cell k d hd).sameBut hs' e
  · exact hs'.extBut b o (Nat.ne_of_lt (Nat.lt_trans (F.old e) above)) e'

/-! statements -/
/-- what a block gives -/
abbrev XS (prog : Program) (w : World) (A : Around) (env : Env) (st : List Stmt) (Q : Flow → Shared → Prop) (s : Shared) : Prop := WP prog w A (execs st env) Q s

theorem xs_assign {x : Str} {px pos : Pos} {e : Expr} {rest : List Stmt} {P : MP} {Q : Flow → Shared → Prop} (F : Fs pv g₀ s₀ env m cm g s) (he : Ev prog w A env g s e P)
    (k : ∀ v g' s', Fs pv g₀ s₀ env (upd m x v) cm g' s' → (∀ b o, g b = some o → g' b = some o) → P.p g' v → XS prog w A env rest Q s')
    (hl : env.kindOf x = some .local := by rfl) (hk : env.scope.kind = .function := by rfl) (hs : swapsWith e (some (.Name x px)) pos.line env = pure false := by rfl) :
    XS prog w A env (.Assign [.Name x px] e pos :: rest) Q s :=
  wpAny_execs_cons (wpAny_Assign_Name (wpAny_mono (he g s (Ext.refl F.sub)) (fun v s₂ ⟨g₂, y, p⟩ => (F.step y).stL hl hk fun s' F' => k v g₂ s' F' y.le p) fun _ _ f => f) hs)
theorem xs_assignC {x : Str} {px pos : Pos} {c : Addr} {e : Expr} {rest : List Stmt} {P : MP} {Q : Flow → Shared → Prop} (F : Fs pv g₀ s₀ env m cm g s) (he : Ev prog w A env g s e P)
    (k : ∀ v g' s', Fs pv g₀ s₀ env m (upd cm x v) g' s' → (∀ b o, g b = some o → g' b = some o) → P.p g' v → XS prog w A env rest Q s')
    (hc : env.cells.lookup x = some c := by rfl)
    (hl : env.kindOf x = some .cell := by rfl) (hk : env.scope.kind = .function := by rfl) (hs : swapsWith e (some (.Name x px)) pos.line env = pure false := by rfl) :
    XS prog w A env (.Assign [.Name x px] e pos :: rest) Q s :=
  wpAny_execs_cons (wpAny_Assign_Name (wpAny_mono (he g s (Ext.refl F.sub)) (fun v s₂ ⟨g₂, y, p⟩ => (F.step y).stC hl hk hc fun s' F' => k v g₂ s' F' y.le p) fun _ _ f => f) hs)
/-- a comprehension stored at once -/
theorem xs_assignComp {x : Str} {px pos : Pos} {e : Expr} {rest : List Stmt} {P : MP} {Q : Flow → Shared → Prop} (F : Fs pv g₀ s₀ env m cm g s) (he : EvC prog w A env g s e P)
    (k : ∀ v g' s', Fs pv g₀ s₀ env (upd m x v) cm g' s' → (∀ b o, g b = some o → g' b = some o) → P.p g' v → XS prog w A env rest Q s')
    (hl : env.kindOf x = some .local := by rfl) (hk : env.scope.kind = .function := by rfl) (hs : swapsWith e (some (.Name x px)) pos.line env = pure true := by rfl) :
    XS prog w A env (.Assign [.Name x px] e pos :: rest) Q s := by
  obtain ⟨elt, gens, scope, cpos, rfl, ha, h⟩ := he
  refine wpAny_execs_cons ?_
  rw [exec_Assign_Name_used _ _ _ _ hs]
  refine wpAny_bind (wpAny_standAt (wpAny_bind ?_))
  show wpAny _ A (do let _ ← comprehension (.ListComp elt gens scope cpos) scope env (firstIterPos gens cpos) (newList []) (firstAsync gens) (firstIter gens env) (some (assign (.Name x px) env))) _ _ s
  rw [ha]
  refine wpAny_bind (h g s (some (assign (.Name x px) env)) _ (Ext.refl F.sub) fun acc g' s' C mC y hp hm hg hC => ?_)
  show wpAny _ A (assign (.Name x px) env acc) _ _ s'
  have F' := F.step y
  have hLC : env.locals ≠ C := by rintro rfl; obtain ⟨o, ho⟩ := F.alive; rw [hC] at ho; cases ho
  refine wpAny_assign_Name (wpAny_storeName_local hl F'.ns (fun h₂ hn₂ hs₂ => ?_) (by rw [hk]; rfl))
  refine ⟨mC, hm.sameBut hs₂ (Ne.symm hLC), fun h₃ hs₃ => wpAny_pure (wpAny_pure ?_)⟩
  have hCn : ∀ n c, env.cells.lookup n = some c → c ≠ C := fun n c hc e => by
    subst e
    obtain ⟨o, ho, _⟩ := F.x.cell n c hc
    rw [hC] at ho; cases ho
  refine k acc g' _ ⟨⟨⟨?_, ?_, fun b o e => ?_, F'.x.toInCall.fresh⟩, fun n c hc => ?_, F'.x.apart, F'.x.above⟩, F'.le, fun b o e => ?_, F'.new, F'.fr, F'.frc, fun p hp => ?_⟩ y.le hp
  · obtain ⟨h₁, tk, e₁⟩ := F'.x.toInCall.same
    exact ⟨h₃, s'.toks + 1, by rw [e₁]⟩
  · exact hn₂.sameBut hs₃ hLC
  · exact hs₃.extBut b o (by rintro rfl; rw [Keeps.none F.x.done hC] at e; cases e) (hs₂.extBut b o (Nat.ne_of_lt (Nat.lt_of_lt_of_le (Heap.lt_size e) F'.x.toInCall.fresh)) (F'.keep b o e))
  · exact ((F'.x.cell n c hc).sameBut hs₂ (Nat.ne_of_gt (F'.x.above n c (mem_of_lookup hc)))).sameBut hs₃ (hCn n c hc)
  · exact hs₃.extBut b o (by rintro rfl; rw [hg] at e; cases e) (hs₂.extBut b o (by rintro rfl; rw [F'.fr] at e; cases e) (y.sub b o e))
  · obtain ⟨h1, h2, h3, h4⟩ := F'.held p hp
    refine ⟨hs₃.extBut _ _ (fun e => ?_) (hs₂.extBut _ _ h3 h1), h2, h3, h4⟩
    have := (F.held p hp).1
    rw [e, hC] at this; cases this

theorem xs_ret {e : Expr} {pos : Pos} {rest : List Stmt} {P : MP} {Q : Flow → Shared → Prop} (F : Fs pv g₀ s₀ env m cm g s) (he : Ev prog w A env g s e P)
    (k : ∀ v g' s', Ext g₀ s₀ g' s' → P.p g' v → Q (.ret v) s') : XS prog w A env (.Return (some e) pos :: rest) Q s :=
  wpAny_execs_cons (wpAny_Return_some (wpAny_mono (he g s (Ext.refl F.sub)) (fun v s₂ ⟨g₂, y, p⟩ => k v g₂ s₂ (F.step y).ext p) fun _ _ f => f))
theorem xs_if {test : Expr} {body orelse rest : List Stmt} {pos : Pos} {t : Bool} {Q : Flow → Shared → Prop} (F : Fs pv g₀ s₀ env m cm g s) (ht : EvT prog w A env g s test t)
    (k1 : t = true → ∀ g' s', Fs pv g₀ s₀ env m cm g' s' → (∀ b o, g b = some o → g' b = some o) → XS prog w A env body (fun f s' => match f with | .next => XS prog w A env rest Q s' | f => Q f s') s')
    (k2 : t = false → ∀ g' s', Fs pv g₀ s₀ env m cm g' s' → (∀ b o, g b = some o → g' b = some o) → XS prog w A env orelse (fun f s' => match f with | .next => XS prog w A env rest Q s' | f => Q f s') s') :
    XS prog w A env (.If test body orelse pos :: rest) Q s :=
  wpAny_execs_cons (wpAny_If (wpAny_mono (ht g s (Ext.refl F.sub)) (fun b s₂ ⟨hb, g₂, y⟩ => by
    subst hb
    cases b with
    | true => exact k1 rfl g₂ s₂ (F.step y) y.le
    | false => exact k2 rfl g₂ s₂ (F.step y) y.le) fun _ _ f => f))
theorem xs_nil {Q : Flow → Shared → Prop} (h : Q .next s) : XS prog w A env [] Q s := wpAny_execs_nil h

/-! defs -/
structure Room (A : Around) (n : Nat) : Prop where
  handled : A.handled = none
  depth : A.depth + n < recursionLimit
  units : A.units + 4 * n < cLine
theorem Room.deeper {n : Nat} (h : Room A (n + 1)) (env : Env) : Room (A.deeper env) n :=
  ⟨h.handled, by have := h.depth; show A.depth + 1 + n < recursionLimit; omega, by have := h.units; show A.units + 3 + 4 * n < cLine; omega⟩
theorem Room.less {n k : Nat} (h : Room A n) (hk : k ≤ n) : Room A k := ⟨h.handled, by have := h.depth; omega, by have := h.units; omega⟩
theorem Room.in1 {n : Nat} (h : Room A (n + 1)) : Room A.in1 n := ⟨h.handled, by have := h.depth; show A.depth + n < _; omega, by have := h.units; show A.units + 1 + 4 * n < _; omega⟩

def Fn (prog : Program) (w : World) (Base : Heap → Prop) (n : Nat) (f : Addr) (args : List MP) (R : MP) : Prop :=
  ∀ A g s vs, Room A n → Base s.heap → Sub g s → Paired (fun P v => MP.p P g v) args vs → Op prog w A (call (.ref f) vs) g s R

theorem Fn.intro {Base : Heap → Prop} {n : Nat} {f : Addr} {args : List MP} {R : MP} {fd : FuncData} {body : List Stmt} {binds : List Value → List (Str × Value)}
    (hobj : ∀ h, Base h → ∃ o, h.get? f = some o ∧ o.data = .func fd) (hlim : ∀ h, Base h → h.NoLimit) (hcode : ∀ h, Base h → h.CodeRec fd.code fd.qualname) (hbody : fd.body = .stmts body)
    (hbind : ∀ g vs, Paired (fun P v => MP.p P g v) args vs → bindArgs fd ⟨vs, []⟩ = pure (binds vs))
    (hkind : ∀ g vs L, Paired (fun P v => MP.p P g v) args vs → ∀ x ∈ binds vs, fd.scope.names.lookup x.1 = some .local ∨ (fd.scope.names.lookup x.1 = some .cell ∧ ((cellsFrom L fd.scope.names []).lookup x.1).isSome = true))
    (h : ∀ A g s vs L s₁, Room A n → Base s.heap → Base s₁.heap → Paired (fun P v => MP.p P g v) args vs →
      Fs [] g s (callEnvC fd L f) (bindL (callEnvC fd L f).kindOf (binds vs) fun _ => none) (bindC (callEnvC fd L f).kindOf (binds vs) fun _ => none) g s₁ →
      XS prog w A (callEnvC fd L f) body (fun fl s' => ∃ v g', fl = .ret v ∧ Ext g s g' s' ∧ R.p g' v) s₁)
    (hkeep : ∀ h h', Base h → (∀ b o, h.get? b = some o → h'.get? b = some o) → Base h')
    (hclo : fd.closure = [] := by rfl) (hco : fd.scope.isCoroutine = false := by rfl) (hgen : fd.scope.isGenerator = false := by rfl) (hk : fd.scope.kind = .function := by rfl) : Fn prog w Base (n + 1) f args R := by
  intro A g s vs hA hB hg hp
  obtain ⟨o, ho, hd⟩ := hobj _ hB
  refine wpAny_call (codeAny_call_cells (by have := hA.depth; omega) ho hd (hlim _ hB) (hcode _ hB) hbody (hbind g vs hp) hclo (hkind g vs _ hp) (fun s₁ x => ?_) hco hgen hk)
  have hn : ∀ b, s.heap.get? b = none → g b = none := fun b h => sub_none hg h
  have F : Fs [] g s (callEnvC fd s.heap.objs.size f) _ _ g s₁ := ⟨x, fun _ _ e => e, fun b o e => x.toInCall.keep b o (hg b o e), fun _ _ e => .inl e, hn _ (fresh_none (Nat.le_refl _)), fun n c hc => hn _ (fresh_none (Nat.le_of_lt (x.above n c (mem_of_lookup hc)))), fun p hp => (nomatch hp)⟩
  refine wpAny_mono (h (A.deeper (callEnvC fd s.heap.objs.size f)) g s vs _ s₁ (hA.deeper _) hB (hkeep _ _ hB x.toInCall.keep) hp F) (fun fl s' h' => ?_) fun _ _ f => f.elim
  obtain ⟨v, g', rfl, y, hr⟩ := h'
  exact ⟨g', y, hr⟩
end
end Mine
end
/-! ### Core10 -/
section
open PySem PySem.Calls PyProof.Rows
namespace Mine
section
variable {prog : Program} {w : World} {A : Around} {env : Env} {g₀ g : G} {s₀ s : Shared} {m cm : Str → Option Value} {pv : List (Addr × Obj)}

abbrev GLe (g g' : G) : Prop := ∀ b o, g b = some o → g' b = some o

/-- a step that turns private objects alone -/
theorem Fs.away (F : Fs pv g₀ s₀ env m cm g s) {h' : Heap} {tk : Nat} (as : List Addr) (ha : ∀ a ∈ as, g a = none ∧ a ≠ env.locals ∧ (∀ n c, env.cells.lookup n = some c → c ≠ a) ∧ s₀.heap.get? a = none)
    (hpa : ∀ p ∈ pv, p.1 ∉ as) (hs : Stays as s.heap h') : Fs pv g₀ s₀ env m cm g { s with heap := h', toks := tk } where
  x := by
    have x := F.x
    refine ⟨⟨?_, x.toInCall.ns.at fun o e => hs _ o (fun h => (ha _ h).2.1 rfl) e, fun b o e => hs b o (fun h => by rw [(ha _ h).2.2.2] at e; cases e) (x.toInCall.keep b o e), x.toInCall.fresh⟩,
      fun n c hc => ?_, x.apart, x.above⟩
    · obtain ⟨h₁, t₁, e₁⟩ := x.toInCall.same
      exact ⟨h', tk, by rw [e₁]⟩
    · obtain ⟨o, ho, hd⟩ := x.cell n c hc
      exact ⟨o, hs c o (fun h => (ha _ h).2.2.1 n c hc rfl) ho, hd⟩
  le := F.le
  sub := fun b o e => hs b o (fun h => by rw [(ha _ h).1] at e; cases e) (F.sub b o e)
  new := F.new
  fr := F.fr
  frc := F.frc
  held := fun p hp => let ⟨h1, h2⟩ := F.held p hp; ⟨hs _ _ (hpa p hp) h1, h2⟩
theorem Fs.less {pv' : List (Addr × Obj)} (F : Fs pv g₀ s₀ env m cm g s) (h : ∀ p ∈ pv', p ∈ pv) : Fs pv' g₀ s₀ env m cm g s := ⟨F.x, F.le, F.sub, F.new, F.fr, F.frc, fun p hp => F.held p (h p hp)⟩

def snap (h : Heap) (as : List Addr) : List (Addr × Obj) := as.filterMap fun b => (h.get? b).map fun o => (b, o)
theorem mem_snap {h : Heap} {as : List Addr} {p : Addr × Obj} : p ∈ snap h as ↔ p.1 ∈ as ∧ h.get? p.1 = some p.2 := by
  unfold snap
  rw [List.mem_filterMap]
  constructor
  · rintro ⟨b, hb, e⟩
    cases q : h.get? b with
    | none => rw [q] at e; cases e
    | some o => rw [q] at e; cases e; exact ⟨hb, q⟩
  · rintro ⟨h1, h2⟩
    exact ⟨p.1, h1, by rw [h2]; rfl⟩

theorem forLoop_turns {R : Result → Shared → Prop} {target : Expr} {it : Value} {body orelse : List Stmt} (I : Nat → Shared → Prop)
    (turn : ∀ n s, I n s → WP prog w A (pyNext it) (fun r s₁ => match r with
      | none => WP prog w A (execs orelse env) (fun f s₃ => R (.ok f) s₃) s₁
      | some v => WP prog w A (letOwnedTupleGo target it v) (fun _ s₁' => WP prog w A (assign target env v) (fun _ s₂ => WP prog w A (execs body env) (fun f s₃ => match f with
          | .next | .cont => ∃ m, m < n ∧ I m s₃
          | .brk => R (.ok .next) s₃
          | .ret v => R (.ok (.ret v)) s₃) s₂) s₁') s₁) s)
    (n : Nat) (h : I n s) : codeAny (model prog w) A (.forLoop target it body orelse env) R s := by
  refine codeAny_forLoop_any I (fun n s hI => wpAny_mono (turn n s hI) (fun r s₁ h₁ => ?_) fun _ _ f => f.elim) n h
  cases r with
  | none => exact falseE h₁
  | some v => exact wpAny_mono h₁ (fun _ s₂ h₂ => wpAny_mono h₂ (fun _ s₃ h₃ => falseE h₃) fun _ _ f => f.elim) fun _ _ f => f.elim

/-- what a turn's body gives -/
def Turned (pv wpv : List (Addr × Obj)) (g₀ : G) (s₀ : Shared) (env : Env) (g : G) (J : (Str → Option Value) → (Str → Option Value) → G → List (Addr × Obj) → Prop) (Q : Flow → Shared → Prop) (f : Flow) (s' : Shared) : Prop :=
  match f with
  | .next | .cont => ∃ m' cm' g' pv', Fs (wpv ++ pv') g₀ s₀ env m' cm' g' s' ∧ GLe g g' ∧ J m' cm' g' pv' ∧ pv'.map (·.1) = pv.map (·.1)
  | .brk => False
  | .ret v => Q (.ret v) s'

theorem for_core {α : Type} {xs : List α} {It : α → MP} {target : Expr} {body rest : List Stmt} {Q : Flow → Shared → Prop}
    (J : Nat → (Str → Option Value) → (Str → Option Value) → G → List (Addr × Obj) → Prop)
    (Jup : ∀ i m cm g g' pv, GLe g g' → J i m cm g pv → J i m cm g' pv) (J0 : J 0 m cm g pv) {xv : Value}
    (F : Fs pv g₀ s₀ env m cm g s) (hb : Itb prog w A g s xv xs It)
    (turn : ∀ i a v m cm g s pv wpv, xs[i]? = some a → (It a).p g v → (∀ p ∈ wpv, ∀ q ∈ pv, p.1 ≠ q.1) → J i m cm g pv → Fs (wpv ++ pv) g₀ s₀ env m cm g s →
      WP prog w A (assign target env v) (fun _ s' => XS prog w A env body (Turned pv wpv g₀ s₀ env g (J (i + 1)) Q) s') s)
    (after : ∀ m cm g s pv, J xs.length m cm g pv → Fs pv g₀ s₀ env m cm g s → XS prog w A env rest Q s)
    (hlet : ∀ it v s (Q : Unit → Shared → Prop), (∃ o, it = .ref o) → Q () s → WP prog w A (letOwnedTupleGo target it v) Q s) :
    WP prog w A (pyIter xv) (fun it s₂ => codeAny (model prog w) A (.forLoop target it body [] env) (fun r s' => match r with
      | .ok f => (match f with | .next => XS prog w A env rest Q s' | f => Q f s')
      | .error _ => False) s₂) s := by
  refine wpAny_mono hb (fun it s₂ h₂ => ?_) fun _ _ f => f
  obtain ⟨Id, fp, wr, P, St, rfl, k, W, hP, hw, hfp, hst, hal, hin⟩ := h₂
  have F₂ := F.step (Ext.keep F.sub k)
  have priv : ∀ a ∈ wr, g a = none ∧ a ≠ env.locals ∧ (∀ n c, env.cells.lookup n = some c → c ≠ a) ∧ s₀.heap.get? a = none := fun a ha => by
    have hn := hw a ha
    refine ⟨sub_none F.sub hn, ?_, fun n c hc e => ?_, Keeps.none F.x.done hn⟩
    · rintro rfl
      obtain ⟨o, ho⟩ := F.alive
      rw [hn] at ho; cases ho
    · subst e
      obtain ⟨o, ho, _⟩ := F.x.cell n c hc
      rw [hn] at ho; cases ho
  have pvw : ∀ p ∈ pv, p.1 ∉ wr := fun p hp h => by
    have := (F.held p hp).1
    rw [hw _ h] at this; cases this
  refine forLoop_turns (fun n s' => ∃ i m cm g' pv', n = xs.length + 1 - i ∧ i ≤ xs.length ∧ Fs pv' g₀ s₀ env m cm g' s' ∧ GLe g g' ∧ J i m cm g' pv' ∧ St i s'.heap ∧ (∀ a ∈ wr, g' a = none) ∧ (∀ p ∈ pv', p.1 ∉ wr)) ?_ (xs.length + 1)
    ⟨0, m, cm, g, pv, rfl, Nat.zero_le _, F₂, fun _ _ e => e, J0, hst, fun a ha => (priv a ha).1, pvw⟩
  rintro n s' ⟨i, m', cm', g', pv', rfl, hi, F', le, hJ, hst', hgw, hpw⟩
  have priv' : ∀ a ∈ wr, g' a = none ∧ a ≠ env.locals ∧ (∀ n c, env.cells.lookup n = some c → c ≠ a) ∧ s₀.heap.get? a = none := fun a ha => ⟨hgw a ha, (priv a ha).2⟩
  by_cases hlt : i < xs.length
  · have ha : xs[i]? = some xs[i] := List.getElem?_eq_getElem hlt
    generalize xs[i] = a at ha
    refine W.item i s' _ _ hlt hst' fun v h₃ tk hv hst₃ hk₃ => ?_
    refine hlet _ _ _ _ ⟨_, rfl⟩ ?_
    have F₃ := F'.away (h' := h₃) (tk := tk) wr priv' hpw hk₃
    have al := hal _ _ hst₃
    have F₃' : Fs (snap h₃ wr ++ pv') g₀ s₀ env m' cm' g' { s' with heap := h₃, toks := tk } := ⟨F₃.x, F₃.le, F₃.sub, F₃.new, F₃.fr, F₃.frc, fun p hp => by
      rcases List.mem_append.mp hp with h | h
      · obtain ⟨h1, h2⟩ := mem_snap.mp h
        obtain ⟨q1, q2, q3, q4⟩ := priv' _ h1
        exact ⟨h2, q1, q2, q3, q4⟩
      · exact F₃.held p h⟩
    refine wpAny_mono (turn i a v m' cm' g' _ pv' (snap h₃ wr) ha ((It a).up le (hP i v a hv ha)) (fun p hp q hq e => hpw q hq (e ▸ (mem_snap.mp hp).1)) hJ F₃') (fun _ s₄ h₄ => wpAny_mono h₄ (fun f s₅ h₅ => ?_) fun _ _ f => f) fun _ _ f => f
    have fin : (∃ m'' cm'' g'' pv'', Fs (snap h₃ wr ++ pv'') g₀ s₀ env m'' cm'' g'' s₅ ∧ GLe g' g'' ∧ J (i + 1) m'' cm'' g'' pv'' ∧ pv''.map (·.1) = pv'.map (·.1)) → ∃ n', n' < xs.length + 1 - i ∧ ∃ i m cm g' pv', n' = xs.length + 1 - i ∧ i ≤ xs.length ∧ Fs pv' g₀ s₀ env m cm g' s₅ ∧ GLe g g' ∧ J i m cm g' pv' ∧ St i s₅.heap ∧ (∀ a ∈ wr, g' a = none) ∧ (∀ p ∈ pv', p.1 ∉ wr) := by
      rintro ⟨m'', cm'', g'', pv'', F₅, le₅, hJ₅, hadr⟩
      have heldw : ∀ a ∈ wr, ∀ o, h₃.get? a = some o → s₅.heap.get? a = some o ∧ g'' a = none := fun a ha o ho => by
        have := F₅.held (a, o) (List.mem_append.mpr (.inl (mem_snap.mpr ⟨ha, ho⟩)))
        exact ⟨this.1, this.2.1⟩
      refine ⟨xs.length + 1 - (i + 1), by omega, i + 1, m'', cm'', g'', pv'', rfl, hlt, F₅.less fun p hp => List.mem_append.mpr (.inr hp), fun b o e => le₅ b o (le b o e), hJ₅, W.frame _ _ _ hst₃ fun b hb o e => ?_, fun a ha => ?_, fun p hp h => ?_⟩
      · rcases hin b hb with h | ⟨o', ho'⟩
        · exact (heldw b h o e).1
        · have e1 := F₃.sub b o' (le b o' ho')
          have e2 := F₅.sub b o' (le₅ b o' (le b o' ho'))
          have : h₃.get? b = some o' := e1
          rw [e] at this; cases this
          exact e2
      · obtain ⟨o, ho⟩ := al a ha
        exact (heldw a ha o ho).2
      · have h1 : p.1 ∈ pv''.map (·.1) := List.mem_map_of_mem hp
        rw [hadr] at h1
        obtain ⟨q, hq, e⟩ := List.mem_map.mp h1
        exact hpw q hq (e ▸ h)
    cases f with
    | next => exact fin h₅
    | cont => exact fin h₅
    | brk => exact h₅.elim
    | ret v => exact h₅
  · have hin : i = xs.length := by omega
    subst hin
    refine W.done s' _ _ hst' fun h₃ tk hk₃ => ?_
    exact wpAny_execs_nil (after m' cm' g' _ pv' hJ (F'.away (h' := h₃) (tk := tk) wr priv' hpw hk₃))

theorem xs_forI {α : Type} {xs : List α} {It : α → MP} {target iter : Expr} {body rest : List Stmt} {pos : Pos} {Q : Flow → Shared → Prop}
    (J : Nat → (Str → Option Value) → (Str → Option Value) → G → List (Addr × Obj) → Prop)
    (Jup : ∀ i m cm g g' pv, GLe g g' → J i m cm g pv → J i m cm g' pv) (J0 : J 0 m cm g pv) (F : Fs pv g₀ s₀ env m cm g s) (hi : EvI prog w A env g s iter xs It)
    (turn : ∀ i a v m cm g s pv wpv, xs[i]? = some a → (It a).p g v → (∀ p ∈ wpv, ∀ q ∈ pv, p.1 ≠ q.1) → J i m cm g pv → Fs (wpv ++ pv) g₀ s₀ env m cm g s →
      WP prog w A (assign target env v) (fun _ s' => XS prog w A env body (Turned pv wpv g₀ s₀ env g (J (i + 1)) Q) s') s)
    (after : ∀ m cm g s pv, J xs.length m cm g pv → Fs pv g₀ s₀ env m cm g s → XS prog w A env rest Q s)
    (hlet : ∀ it v s (Q : Unit → Shared → Prop), (∃ o, it = .ref o) → Q () s → WP prog w A (letOwnedTupleGo target it v) Q s)
    (hs : ∀ x, foldedSetIterable iter env x = pure x := by intro _; rfl) :
    XS prog w A env (.For target iter body [] pos :: rest) Q s := by
  refine wpAny_execs_cons (wpAny_For (wpAny_mono (hi g s (Ext.refl F.sub)) (fun xv s₁ ⟨g₁, y, hb⟩ => ?_) fun _ _ f => f) hs)
  refine wpAny_mono (for_core (rest := rest) (Q := Q) J Jup (Jup _ _ _ _ _ _ y.le J0) (F.step y) hb turn after hlet) (fun it s₂ h₂ => codeAny_mono h₂ fun r s' hr => ?_) fun _ _ f => f
  cases r with
  | ok f => cases f <;> exact hr
  | error e => exact hr.elim

/-- the target a local -/
theorem xs_for {α : Type} {xs : List α} {It : α → MP} {x : Str} {px : Pos} {iter : Expr} {body rest : List Stmt} {pos : Pos} {Q : Flow → Shared → Prop}
    (J : Nat → (Str → Option Value) → (Str → Option Value) → G → List (Addr × Obj) → Prop)
    (Jup : ∀ i m cm g g' pv, GLe g g' → J i m cm g pv → J i m cm g' pv) (J0 : J 0 m cm g pv) (F : Fs pv g₀ s₀ env m cm g s) (hi : EvI prog w A env g s iter xs It)
    (turn : ∀ i a v m cm g s pv wpv, xs[i]? = some a → (It a).p g v → (∀ p ∈ wpv, ∀ q ∈ pv, p.1 ≠ q.1) → J i m cm g pv → Fs (wpv ++ pv) g₀ s₀ env (upd m x v) cm g s →
      XS prog w A env body (Turned pv wpv g₀ s₀ env g (J (i + 1)) Q) s)
    (after : ∀ m cm g s pv, J xs.length m cm g pv → Fs pv g₀ s₀ env m cm g s → XS prog w A env rest Q s)
    (hl : env.kindOf x = some .local := by rfl) (hk : env.scope.kind = .function := by rfl)
    (hs : ∀ x, foldedSetIterable iter env x = pure x := by intro _; rfl) :
    XS prog w A env (.For (.Name x px) iter body [] pos :: rest) Q s :=
  xs_forI J Jup J0 F hi (fun i a v m cm g s pv wpv ha hv hw hJ F => wpAny_assign_Name (F.stL hl hk fun s' F' => turn i a v m cm g s' pv wpv ha hv hw hJ F')) after (fun _ _ _ _ _ h => wpAny_of_eq rfl h) hs
/-- the target a cell -/
theorem xs_forC {α : Type} {xs : List α} {It : α → MP} {x : Str} {px : Pos} {c : Addr} {iter : Expr} {body rest : List Stmt} {pos : Pos} {Q : Flow → Shared → Prop}
    (J : Nat → (Str → Option Value) → (Str → Option Value) → G → List (Addr × Obj) → Prop)
    (Jup : ∀ i m cm g g' pv, GLe g g' → J i m cm g pv → J i m cm g' pv) (J0 : J 0 m cm g pv) (F : Fs pv g₀ s₀ env m cm g s) (hi : EvI prog w A env g s iter xs It)
    (turn : ∀ i a v m cm g s pv wpv, xs[i]? = some a → (It a).p g v → (∀ p ∈ wpv, ∀ q ∈ pv, p.1 ≠ q.1) → J i m cm g pv → Fs (wpv ++ pv) g₀ s₀ env m (upd cm x v) g s →
      XS prog w A env body (Turned pv wpv g₀ s₀ env g (J (i + 1)) Q) s)
    (after : ∀ m cm g s pv, J xs.length m cm g pv → Fs pv g₀ s₀ env m cm g s → XS prog w A env rest Q s)
    (hc : env.cells.lookup x = some c := by rfl) (hl : env.kindOf x = some .cell := by rfl) (hk : env.scope.kind = .function := by rfl)
    (hs : ∀ x, foldedSetIterable iter env x = pure x := by intro _; rfl) :
    XS prog w A env (.For (.Name x px) iter body [] pos :: rest) Q s :=
  xs_forI J Jup J0 F hi (fun i a v m cm g s pv wpv ha hv hw hJ F => wpAny_assign_Name (F.stC hl hk hc fun s' F' => turn i a v m cm g s' pv wpv ha hv hw hJ F')) after (fun _ _ _ _ _ h => wpAny_of_eq rfl h) hs

/-- a while -/
theorem xs_while {test : Expr} {body rest : List Stmt} {pos : Pos} {Q : Flow → Shared → Prop}
    (J : Nat → (Str → Option Value) → (Str → Option Value) → G → Prop) (n₀ : Nat) (J0 : J n₀ m cm g) (F : Fs pv g₀ s₀ env m cm g s)
    (turn : ∀ n m cm g s, J n m cm g → Fs pv g₀ s₀ env m cm g s → ∃ b, EvT prog w A env g s test b ∧
      (b = true → ∀ g' s', Fs pv g₀ s₀ env m cm g' s' → GLe g g' → XS prog w A env body (fun f s'' => f = .next ∧ ∃ n' m' cm' g'', n' < n ∧ Fs pv g₀ s₀ env m' cm' g'' s'' ∧ J n' m' cm' g'') s') ∧
      (b = false → ∀ g' s', Fs pv g₀ s₀ env m cm g' s' → GLe g g' → XS prog w A env rest Q s')) :
    XS prog w A env (.While test body [] pos :: rest) Q s := by
  refine wpAny_execs_cons (wpAny_While (codeAny_whileLoop (fun n s' => ∃ m' cm' g', Fs pv g₀ s₀ env m' cm' g' s' ∧ J n m' cm' g') (fun n s' ⟨m', cm', g', F', hJ⟩ => falseE ?_) n₀ ⟨m, cm, g, F, J0⟩))
  obtain ⟨b, hb, h1, h2⟩ := turn n m' cm' g' s' hJ F'
  refine wpAny_mono (hb g' s' (Ext.refl F'.sub)) (fun r s₂ ⟨hr, g₂, y⟩ => ?_) fun _ _ f => f
  subst hr
  cases r with
  | true =>
    simp only [if_true]
    exact wpAny_mono (h1 rfl g₂ s₂ (F'.step y) y.le) (fun f s₃ h₃ => by
      obtain ⟨rfl, n', m'', cm'', g'', hn, F₃, hJ₃⟩ := h₃
      exact ⟨n', hn, m'', cm'', g'', F₃, hJ₃⟩) fun _ _ f => f.elim
  | false =>
    simp only [Bool.false_eq_true, if_false]
    exact wpAny_execs_nil (h2 rfl g₂ s₂ (F'.step y) y.le)

theorem paired1 {P : MP} {g : G} {vs : List Value} (h : Paired (fun P v => MP.p P g v) [P] vs) : ∃ v, vs = [v] ∧ P.p g v := by
  cases h with | cons a r => cases r; exact ⟨_, rfl, a⟩
theorem paired2 {P P' : MP} {g : G} {vs : List Value} (h : Paired (fun P v => MP.p P g v) [P, P'] vs) : ∃ v v', vs = [v, v'] ∧ P.p g v ∧ P'.p g v' := by
  cases h with | cons a r => cases r with | cons b r => cases r; exact ⟨_, _, rfl, a, b⟩
theorem paired3 {P P' P'' : MP} {g : G} {vs : List Value} (h : Paired (fun P v => MP.p P g v) [P, P', P''] vs) : ∃ v v' v'', vs = [v, v', v''] ∧ P.p g v ∧ P'.p g v' ∧ P''.p g v'' := by
  cases h with | cons a r => cases r with | cons b r => cases r with | cons c r => cases r; exact ⟨_, _, _, rfl, a, b, c⟩

/-- two names out of a pair -/
theorem xs_assign2 {x y : Str} {px py tp pos : Pos} {k : Nat} {e : Expr} {rest : List Stmt} {P₁ P₂ : MP} {Q : Flow → Shared → Prop} (hh : A.handled = none) (F : Fs pv g₀ s₀ env m cm g s) (he : Ev prog w A env g s e (Tu id [P₁, P₂]))
    (kk : ∀ v v' g' s', Fs pv g₀ s₀ env (upd (upd m x v) y v') cm g' s' → GLe g g' → P₁.p g' v → P₂.p g' v' → XS prog w A env rest Q s')
    (hlx : env.kindOf x = some .local := by rfl) (hly : env.kindOf y = some .local := by rfl) (hk : env.scope.kind = .function := by rfl)
    (hs : swapsWithSole [.Tuple [.Name x px, .Name y py] k tp] e pos.line env = pure false := by rfl) (hw : swappedStores [.Tuple [.Name x px, .Name y py] k tp] e env = pure none := by rfl) :
    XS prog w A env (.Assign [.Tuple [.Name x px, .Name y py] k tp] e pos :: rest) Q s := by
  refine wpAny_execs_cons (Assign_Tuple (wpAny_mono (he g s (Ext.refl F.sub)) (fun v s₂ ⟨g₂, z, hp⟩ => ?_) fun _ _ f => f) hs hw)
  obtain ⟨a, vs, n, rfl, ha, hv⟩ := hp
  obtain ⟨v, v', rfl, h1, h2⟩ := paired2 (P := P₁) (P' := P₂) hv
  have F₂ := F.step z
  refine wpAny_assign_Tuple hh (tup_isTuple z.sub ha) rfl rfl fun h' he' => ?_
  have hk' : Keeps s₂ { s₂ with heap := h' } := ⟨h', s₂.toks, rfl, fun b o e => he' b o (Nat.ne_of_lt (Heap.lt_size e)) e⟩
  have F₃ := F₂.step (Ext.keep z.sub hk')
  show wpAny _ A (assignInOrder [assign (.Name x px) env, assign (.Name y py) env] [_, _]) _ _ _
  simp only [assignInOrder]
  refine wpAny_bind (wpAny_holding (wpAny_assign_Name (F₃.stL hlx hk fun s₄ F₄ => ?_)))
  refine wpAny_bind (wpAny_holding (wpAny_assign_Name (F₄.stL hly hk fun s₅ F₅ => ?_)))
  exact wpAny_pure (kk _ _ g₂ s₅ F₅ z.le h1 h2)

/-- an item appended to a list of the def's own -/
theorem xs_append {x : Str} {xp apos pos spos : Pos} {e : Expr} {rest : List Stmt} {P : MP} {D : Addr} {ys : List Value} {n : Nat} {pre post : List (Addr × Obj)} {Q : Flow → Shared → Prop}
    (F : Fs (pre ++ (D, lstObj ys n) :: post) g₀ s₀ env m cm g s) (hx : m x = some (.ref D)) (he : Ev prog w A env g s e P) (hz : ys.length ≤ sizeLine) (hpre : ∀ p ∈ pre ++ post, p.1 ≠ D)
    (kk : ∀ v n' g' s', Fs (pre ++ (D, lstObj (ys ++ [v]) n') :: post) g₀ s₀ env m cm g' s' → GLe g g' → P.p g' v → XS prog w A env rest Q s')
    (hlx : env.kindOf x = some .local := by rfl) (hk : env.scope.kind = .function := by rfl) (hd : (x == ("__debug__" : Str)) = false := by decide)
    (hbase : attributeBase (.Name x xp) "append" env (eval (.Name x xp) env) = eval (.Name x xp) env := by rfl)
    (hline : (apos.endLine == pos.line) = true := by rfl)
    (htrees : backTo pos (starEach [e] env) = [(false, eval e env)] := by rfl)
    (hi : interactive env = false := by rfl) (hsw : swapsWith (.Call (.Attribute (.Name x xp) "append" apos) [e] [] pos) .none spos.line env = pure false := by rfl) :
    XS prog w A env (.Expr (.Call (.Attribute (.Name x xp) "append" apos) [e] [] pos) spos :: rest) Q s := by
  refine wpAny_execs_cons (wpAny_Expr ?_ hi hsw)
  refine wpAny_Call_append hbase (by rw [htrees]; rfl) hline htrees ?_
  have hD := F.held (D, lstObj ys n) (List.mem_append.mpr (.inr List.mem_cons_self))
  refine wpAny_Name (wpAny_loadName_local hk hlx F.ns hx ⟨D, ys.toArray, rfl, ⟨_, n, hD.1, rfl, rfl, rfl⟩, ?_⟩) hd
  refine wpAny_mono (he g s (Ext.refl F.sub)) (fun v s₂ ⟨g₂, z, hp⟩ => ?_) fun _ _ f => f
  have F₂ := F.step z
  have hD₂ := F₂.held (D, lstObj ys n) (List.mem_append.mpr (.inr List.mem_cons_self))
  refine wpAny_list_append_plain (items := ys.toArray) ⟨n, hD₂.1⟩ (fun h' hl' hs' => ?_) (by simpa using hz)
  obtain ⟨n', hl'⟩ := hl'
  have F₃ : Fs (pre ++ post) g₀ s₀ env m cm g₂ { s₂ with heap := h', toks := s₂.toks } := (F₂.less (pv' := pre ++ post) fun p hp => by
      rcases List.mem_append.mp hp with h | h
      · exact List.mem_append.mpr (.inl h)
      · exact List.mem_append.mpr (.inr (List.mem_cons_of_mem _ h))).away [D]
    (fun a ha => by rcases List.mem_singleton.mp ha with rfl; exact hD₂.2) (fun p hp h => hpre p hp (List.mem_singleton.mp h)) (fun b o hb e => hs'.extBut b o (fun h => hb (List.mem_singleton.mpr h)) e)
  refine kk v n' g₂ _ ⟨F₃.x, F₃.le, F₃.sub, F₃.new, F₃.fr, F₃.frc, fun p hp => ?_⟩ z.le hp
  rcases List.mem_append.mp hp with h | h
  · exact F₃.held p (List.mem_append.mpr (.inl h))
  · rcases List.mem_cons.mp h with rfl | h
    · refine ⟨?_, hD₂.2⟩
      show h'.get? D = some (lstObj (ys ++ [v]) n')
      rw [hl']; simp [lstObj]
    · exact F₃.held p (List.mem_append.mpr (.inr h))
end
end Mine
end
/-! ### Core11 -/
section
open PySem PySem.Calls PyProof.Rows
namespace Mine
section
variable {prog : Program} {w : World} {A : Around} {env : Env} {g : G} {s : Shared}

def EvP (prog : Program) (w : World) (A : Around) (env : Env) (g : G) (s : Shared) (o : Option Expr) (k : Option Int) : Prop :=
  ∀ g₁ s₁, Ext g s g₁ s₁ → WP prog w A (evalPart o env) (fun v s₂ => IsPart v k ∧ ∃ g₂, Ext g₁ s₁ g₂ s₂) s₁
theorem EvP.no : EvP prog w A env g s none none := fun g₁ s₁ x => wpAny_pure ⟨.none, g₁, Ext.refl x.sub⟩
theorem EvP.yes {e : Expr} {i : Int} (h : Ev prog w A env g s e (I i)) : EvP prog w A env g s (some e) (some i) :=
  fun g₁ s₁ x => wpAny_mono (h g₁ s₁ x) (fun v s₂ ⟨g₂, y, t, hv⟩ => by subst hv; exact ⟨.int i t, g₂, y⟩) fun _ _ f => f

theorem Ev.slice {value : Expr} {lower upper step : Option Expr} {p pos : Pos} {P R : MP} {lo hi st : Option Int} (hv : Ev prog w A env g s value P) (hl : EvP prog w A env g s lower lo) (hu : EvP prog w A env g s upper hi) (ht : EvP prog w A env g s step st)
    (h : ∀ g s o a vl vu vs, Sub g s → P.p g o → s.heap.IsSliceOf a vl vu vs → IsPart vl lo → IsPart vu hi → IsPart vs st → Op prog w A (subscriptTail value (.Slice lower upper step p) o (.ref a)) g s R) :
    Ev prog w A env g s (.Subscript value (.Slice lower upper step p) pos) R := by
  intro g₁ s₁ x
  refine Subscript_ (wpAny_mono (hv _ _ x) (fun o s₂ ⟨g₂, y, q⟩ => ?_) fun _ _ f => f)
  refine wpAny_Slice (wpAny_mono (hl _ _ (x.tr y)) (fun vl s₃ ⟨pl, g₃, y₃⟩ => wpAny_mono (hu _ _ ((x.tr y).tr y₃)) (fun vu s₄ ⟨pu, g₄, y₄⟩ => wpAny_mono (ht _ _ (((x.tr y).tr y₃).tr y₄)) (fun vs s₅ ⟨ps, g₅, y₅⟩ => ?_) fun _ _ f => f) fun _ _ f => f) fun _ _ f => f)
  have z := Ext.keep y₅.sub (push_keeps s₅ { cls := .type "slice", data := .fields #[vl, vu, vs] })
  have q₅ := P.up ((y₃.tr y₄).tr y₅).le q
  exact wpAny_mono (h g₅ _ o _ vl vu vs z.sub q₅ (Heap.IsSliceOf.new _ _ _ _) pl pu ps) (fun r s₆ ⟨g₆, u, hr⟩ => ⟨g₆, y.tr (((y₃.tr y₄).tr y₅).tr (z.tr u)), hr⟩) fun _ _ f => f

def pickL {α : Type} (xs : List α) (lo hi st : Option Int) : List α :=
  (sliceRange (sliceBounds lo hi st xs.length).1 (sliceBounds lo hi st xs.length).2.1 (sliceBounds lo hi st xs.length).2.2).filterMap (xs[·]?)
theorem paired_pick {α β : Type} {F : α → β → Prop} {xs : List α} {vs : List β} (h : Paired F xs vs) : ∀ is : List Nat, Paired F (is.filterMap (xs[·]?)) (is.filterMap (vs[·]?))
  | [] => .nil
  | i :: is => by
    have ih := paired_pick h is
    have hl := Paired.length h
    cases q : xs[i]? with
    | none =>
      have : vs[i]? = none := by
        rw [List.getElem?_eq_none_iff] at q ⊢
        omega
      simpa [List.filterMap_cons, q, this] using ih
    | some a =>
      obtain ⟨b, hb, hr⟩ := Paired.get h q
      simpa [List.filterMap_cons, q, hb] using Paired.cons hr ih
theorem slicePick_pickL (vs : List Value) (lo hi st : Option Int) : slicePick vs.toArray lo hi st = (pickL vs lo hi st).toArray := by
  unfold slicePick pickL
  simp

theorem Ev.listSlice {α : Type} {R : α → MP} {xs : List α} {value : Expr} {lower upper step : Option Expr} {p pos : Pos} {lo hi st : Option Int} (hv : Ev prog w A env g s value (Ls R xs)) (hl : EvP prog w A env g s lower lo) (hu : EvP prog w A env g s upper hi) (ht : EvP prog w A env g s step st)
    (h0 : st ≠ some 0) (hz : xs.length ≤ sizeLine) (hs : ∀ o i, ∃ ops, subscripted (.Slice lower upper step p) false o i = operate ops (getItem o i) := by intro o i; exact ⟨_, rfl⟩) :
    Ev prog w A env g s (.Subscript value (.Slice lower upper step p) pos) (Ls R (pickL xs lo hi st)) := by
  refine Ev.slice hv hl hu ht fun g s o a vl vu vs hg hp ha pl pu ps => ?_
  obtain ⟨ops, ho⟩ := hs o (.ref a)
  refine list_tail hp hg ?_ ho
  obtain ⟨l, us, n, rfl, hll, hpp⟩ := hp
  have hlen : us.length = xs.length := (Paired.length hpp).symm
  have hn : s.heap.get? s.heap.objs.size = none := fresh_none (Nat.le_refl _)
  have z := Ext.keep hg (push_keeps s { cls := .type "list", data := .seq (slicePick us.toArray lo hi st) })
  have hg2 : g s.heap.objs.size = none := sub_none hg hn
  refine wpAny_getItem_list_slice (lst_isList hg hll) ha pl pu ps h0 ⟨_, z.put hn hg2 (o := lstObj (pickL us lo hi st) 0) ?_, s.heap.objs.size, pickL us lo hi st, 0, rfl, G.put_self _ _ _, ?_⟩ (by simpa [hlen] using hz)
  · rw [slicePick_pickL]
    exact Heap.get?_push_size _ rfl
  · have := paired_pick hpp (sliceRange (sliceBounds lo hi st xs.length).1 (sliceBounds lo hi st xs.length).2.1 (sliceBounds lo hi st xs.length).2.2)
    refine Paired.mono (fun a v q => (R a).up (G.put_le hg2) q) ?_
    unfold pickL
    rw [hlen]
    exact this

theorem Ev.bytesSlice {z : Array UInt8} {value : Expr} {lower upper : Option Expr} {p pos : Pos} {lo hi : Option Int} (hv : Ev prog w A env g s value (By z)) (hl : EvP prog w A env g s lower lo) (hu : EvP prog w A env g s upper hi) (hz : z.size ≤ sizeLine) :
    Ev prog w A env g s (.Subscript value (.Slice lower upper none p) pos) (By (PySem.W.KBy.picked z lo hi)) := by
  refine Ev.slice hv hl hu (EvP.no (env := env)) fun g s o a vl vu vs hg hp ha pl pu ps => ?_
  refine bytes_tail (ops := [.ref a, o]) hp ?_ rfl
  obtain ⟨t, rfl⟩ := hp
  cases ps
  exact getItem_meets (PySem.W.typeIs_bytes _ _ _) (by decide) PySem.W.FB.slot_bytes_getitem PySem.W.FB.entry_bytes_getitem (PySem.W.FB.args_bytes_getitem_2 _ _) (PySem.W.KBc.meets_slice2 z t a pl pu)
    ⟨ha, Nat.le_trans (PySem.W.KBc.size_picked_le z lo hi) hz, fun t' k => ⟨g, Ext.toks hg _, t', rfl⟩⟩

theorem op_addB {x y : Array UInt8} {a b : Value} (hz : x.size + y.size ≤ 16777216) (hg : Sub g s) (ha : (By x).p g a) (hb : (By y).p g b) : Op prog w A (binaryOp .Add a b) g s (By (x ++ y)) := by
  obtain ⟨t, rfl⟩ := ha; obtain ⟨u, rfl⟩ := hb
  exact PySem.W.KBy.add_bytes hz fun t' k => ⟨g, Ext.toks hg _, t', rfl⟩
theorem op_eqB {x y : Array UInt8} {a b : Value} (hg : Sub g s) (ha : (By x).p g a) (hb : (By y).p g b) : Op prog w A (compareOp .Eq a b) g s (Bo (x.toList == y.toList)) := by
  obtain ⟨t, rfl⟩ := ha; obtain ⟨u, rfl⟩ := hb
  exact PySem.W.eq_bytes ⟨g, Ext.refl hg, rfl⟩
/-- a bytes' number at a place -/
theorem bytes_item {z : Array UInt8} {y : Int} {c : UInt8} {a b : Value} (hy : -(2 ^ 62) ≤ y) (hy2 : y < 2 ^ 62) (hx : (seqIndex? y z.size).bind (z[·]?) = some c) (hg : Sub g s) (ha : (By z).p g a) (hb : (I y).p g b) : Op prog w A (getItem a b) g s (I (c.toNat : Int)) := by
  obtain ⟨t, rfl⟩ := ha; obtain ⟨u, rfl⟩ := hb
  refine getItem_gives (PySem.W.typeIs_bytes s _ t) (by decide) PySem.W.FB.slot_bytes_getitem PySem.W.FB.entry_bytes_getitem (PySem.W.FB.args_bytes_getitem_2 _ _) (PySem.W.gives_bytes_getitem _ y t u c ?_ hx) ⟨g, Ext.toks hg _, _, rfl⟩
  simp only [Builtin.Bytes.fitsIndex, Bool.and_eq_true, decide_eq_true_eq]; omega
theorem op_divmod {x y : Int} {a b : Value} (hy : y ≠ 0) (hp : Builtin.divisionGoesByPylong x y = false) (hg : Sub g s) (ha : (I x).p g a) (hb : (I y).p g b) : Op prog w A (call (.builtin "divmod") [a, b]) g s (Tu id [I (x.fdiv y), I (x.fmod y)]) := by
  obtain ⟨t, rfl⟩ := ha; obtain ⟨u, rfl⟩ := hb
  have hn : s.heap.get? s.heap.objs.size = none := fresh_none (Nat.le_refl _)
  have z := Ext.keep hg (push_keeps s { cls := .type "tuple", data := .seq #[.int (x.fdiv y) s.toks, .int (x.fmod y) (s.toks + 1)] })
  have z' := z.put hn (sub_none hg hn) (Heap.get?_push_size _ rfl)
  exact divmod_int hy ⟨_, ⟨Keeps.toks z'.keeps _, z'.le, z'.sub, z'.new⟩, s.heap.objs.size, _, 0, rfl, G.put_self _ _ _, .cons ⟨_, rfl⟩ (.cons ⟨_, rfl⟩ .nil)⟩ (.inl hp)
theorem op_int {x : Int} {a : Value} (hg : Sub g s) (ha : (I x).p g a) : Op prog w A (call (.type "int") [a]) g s (I x) := by
  obtain ⟨t, rfl⟩ := ha
  exact call_int_int ⟨g, Ext.refl hg, t, rfl⟩

/-! methods of texts -/
theorem Ev.lower {o : Expr} {apos pos : Pos} {z : Str} (h : Ev prog w A env g s o (T z)) (hz : z.length ≤ 1000000) (hbase : attributeBase o "lower" env (eval o env) = eval o env := by rfl) (hline : (apos.endLine == pos.line) = true := by rfl) :
    Ev prog w A env g s (.Call (.Attribute o "lower" apos) [] [] pos) (T (Txt.lower z)) :=
  fun g₁ s₁ x => Call_method0 hbase hline (wpAny_mono (h g₁ s₁ x) (fun v s₂ ⟨g₂, y, t, hv⟩ => by
    subst hv
    exact SBL.lower (by omega) fun _ => ⟨g₂, y.tr (Ext.toks y.sub _), _, rfl⟩) fun _ _ f => f)
theorem strs_of {vs : List Value} {xs : List Str} {g : G} (h : Paired (fun n v => (T n).p g v) xs vs) : ∃ l, vs = strValues l ∧ l.map (·.1) = xs := by
  induction h with
  | nil => exact ⟨[], rfl, rfl⟩
  | cons hx _ ih =>
    obtain ⟨t, rfl⟩ := hx
    obtain ⟨l, rfl, rfl⟩ := ih
    exact ⟨(_, t) :: l, rfl, rfl⟩
theorem Ev.join {o e : Expr} {apos pos : Pos} {z : Str} {xs : List Str} (h : Ev prog w A env g s o (T z)) (he : Ev prog w A env g s e (Ls T xs)) (hok : JoinOk z xs = true)
    (hbase : attributeBase o "join" env (eval o env) = eval o env := by rfl) (hs : starEach [e] env = [(false, eval e env)] := by rfl) (hline : (apos.endLine == pos.line) = true := by rfl) :
    Ev prog w A env g s (.Call (.Attribute o "join" apos) [e] [] pos) (T (Txt.join z xs)) :=
  fun g₁ s₁ x => Call_method1 hbase hs hline (wpAny_mono (h g₁ s₁ x) (fun v s₂ ⟨g₂, y, t, hv⟩ => by
    subst hv
    refine SB.join (wpAny_mono (he _ _ (x.tr y)) (fun v s₃ ⟨g₃, y₃, a, vs, n, e, ha, hp⟩ => ?_) fun _ _ f => f)
    subst e
    obtain ⟨l, rfl, rfl⟩ := strs_of hp
    exact ⟨a, l, rfl, lst_isList y₃.sub ha, _, rfl, hok, fun t' k => ⟨g₃, y.tr (y₃.tr (Ext.toks y₃.sub _)), t', rfl⟩⟩) fun _ _ f => f)
end
end Mine
end
/-! ### HeadW -/
section
open PySem PySem.W PyProof.Rows
namespace Mine
set_option maxHeartbeats 0 in
open_top hd for PySem.Challenge.rw_wj0038_01
end Mine
end
/-! ### Base1 -/
section
open PySem PySem.Calls PyProof.Rows PySem.W
namespace Mine
/-- the written part of the heap behind the top's run -/
noncomputable abbrev KK (P : Params) : Frag := hd.heap_39 P
def Base (w : World) (h : Heap) : Prop := (KK w.params).In h ∧ ∃ mean mg mb, Top hd.view_39 (looseW hd.view_39 [Str.ofString "_name_disallowed_re", Str.ofString "_value_disallowed_re"]) mean mg mb h
theorem Base.keeps {w : World} {h h' : Heap} (B : Base w h) (k : ∀ b o, h.get? b = some o → h'.get? b = some o) : Base w h' :=
  let ⟨X, mean, mg, mb, T⟩ := B; ⟨X.keeps k, mean, mg, mb, T.keeps k⟩
theorem Base.lim {w : World} {h : Heap} (B : Base w h) : h.NoLimit := let ⟨_, _, _, _, T⟩ := B; T.nolimit
theorem Base.ext {w : World} {g g' : G} {s s' : Shared} (B : Base w s.heap) (x : Ext g s g' s') : Base w s'.heap := B.keeps (kget x.keeps)

def fnAt (K : Frag) (a : Addr) : Option FuncData := match K.lookup a with
  | some ⟨_, _, .func fd, _⟩ => some fd
  | _ => none
theorem fnAt_get {K : Frag} {h : Heap} {a : Addr} {fd : FuncData} (X : K.In h) (e : fnAt K a = some fd) : ∃ o, h.get? a = some o ∧ o.data = .func fd := by
  unfold fnAt at e
  split at e
  · rename_i hl; cases e; exact ⟨_, X _ _ hl, rfl⟩
  · cases e

section
variable {prog : Program} {w : World} {A : Around} {env : Env} {g : G} {s : Shared}

theorem Ev.gl {x : Str} {pos : Pos} {v : Value} (B : Base w s.heap) (e : nsIn (KK w.params) mainGlobals x = some (some v)) (hg : env.globals = mainGlobals := by rfl)
    (hk : env.scope.kind = .function := by rfl) (hl : env.kindOf x = some .globalImplicit := by rfl) (hd : (x == ("__debug__" : Str)) = false := by decide) : Ev prog w A env g s (.Name x pos) (Is v) := by
  obtain ⟨X, mean, mg, mb, T⟩ := B
  exact Ev.nGlobal (mg := mg) (by rw [hg]; exact T.g) (mg_of X T.g e) rfl hk hl hd
theorem Ev.glP {x : Str} {pos : Pos} {v : Value} {P : MP} (B : Base w s.heap) (hp : P.p g v) (e : nsIn (KK w.params) mainGlobals x = some (some v)) (hg : env.globals = mainGlobals := by rfl)
    (hk : env.scope.kind = .function := by rfl) (hl : env.kindOf x = some .globalImplicit := by rfl) (hd : (x == ("__debug__" : Str)) = false := by decide) : Ev prog w A env g s (.Name x pos) P := by
  obtain ⟨X, mean, mg, mb, T⟩ := B
  exact Ev.nGlobal (mg := mg) (by rw [hg]; exact T.g) (mg_of X T.g e) hp hk hl hd
theorem Ev.bu {x : Str} {pos : Pos} {v : Value} (B : Base w s.heap) (e : nsIn (KK w.params) mainGlobals x = some none) (hv : bootBuiltins x = some v) (hn : x ≠ "__name__" := by decide) (hg : env.globals = mainGlobals := by rfl) (hb : env.builtins = builtinsNs := by rfl)
    (hk : env.scope.kind = .function := by rfl) (hl : env.kindOf x = some .globalImplicit := by rfl) (hd : (x == ("__debug__" : Str)) = false := by decide) : Ev prog w A env g s (.Name x pos) (Is v) := by
  obtain ⟨X, mean, mg, mb, T⟩ := B
  exact Ev.nBuiltin (mg := mg) (mb := mb) (by rw [hg]; exact T.g) (mg_none_of X T.g e) (by rw [hb]; exact T.b) ((T.builtins x hn).trans hv) hk hl hd

theorem Fs.base {g₀ : G} {s₀ : Shared} {m cm : Str → Option Value} {pv : List (Addr × Obj)} (F : Fs pv g₀ s₀ env m cm g s) (B : Base w s₀.heap) : Base w s.heap := B.keeps F.keep

/-- a call of one of the text's defs -/
theorem Ev.fn {f : Str} {np pos : Pos} {e : Expr} {es : List Expr} {a : Addr} {n : Nat} {fd : FuncData} {Ps : List MP} {R : MP} (B : Base w s.heap) (hA : Room A n) (hf : Fn prog w (Base w) n a Ps R) (ha : EvL prog w A env g s (e :: es) Ps)
    (hx : nsIn (KK w.params) mainGlobals f = some (some (.ref a)) := by rfl) (hfd : fnAt (KK w.params) a = some fd := by rfl) (hg : env.globals = mainGlobals := by rfl)
    (hk : env.scope.kind = .function := by rfl) (hl : env.kindOf f = some .globalImplicit := by rfl) (hd : (f == ("__debug__" : Str)) = false := by decide)
    (he : starEach (e :: es) env = (false, eval e env) :: starEach es env := by rfl) (hp : (starEach (e :: es) env).any (·.1) = false := by rfl) : Ev prog w A env g s (.Call (.Name f np) (e :: es) [] pos) R :=
  Ev.call (Ev.gl B hx hg hk hl hd) (fun s' k => let ⟨o, ho, hd⟩ := fnAt_get (B.keeps (kget k)).1 hfd; Callee.func a o fd ho hd) ha (fun g' s' vs x p => hf A g' s' vs hA (B.ext x) x.sub p) he hp
/-- a call of a built-in -/
theorem Ev.bui {f : Str} {np pos : Pos} {e : Expr} {es : List Expr} {id : String} {Ps : List MP} {R : MP} (B : Base w s.heap) (ha : EvL prog w A env g s (e :: es) Ps)
    (h : ∀ g' s' vs, Ext g s g' s' → Paired (fun P v => MP.p P g' v) Ps vs → Op prog w A (PySem.call (Value.builtin id) vs) g' s' R) (hv : bootBuiltins f = some (.builtin id))
    (hx : nsIn (KK w.params) mainGlobals f = some none := by rfl) (hn : f ≠ "__name__" := by decide) (hg : env.globals = mainGlobals := by rfl) (hb : env.builtins = builtinsNs := by rfl)
    (hk : env.scope.kind = .function := by rfl) (hl : env.kindOf f = some .globalImplicit := by rfl) (hd : (f == ("__debug__" : Str)) = false := by decide)
    (he : starEach (e :: es) env = (false, eval e env) :: starEach es env := by rfl) (hp : (starEach (e :: es) env).any (·.1) = false := by rfl) : Ev prog w A env g s (.Call (.Name f np) (e :: es) [] pos) R :=
  Ev.call (Ev.bu B hx hv hn hg hb hk hl hd) (fun s' k => Callee.builtin id) ha h he hp
theorem Ev.ty {f : Str} {np pos : Pos} {e : Expr} {es : List Expr} {id : String} {Ps : List MP} {R : MP} (B : Base w s.heap) (ha : EvL prog w A env g s (e :: es) Ps)
    (h : ∀ g' s' vs, Ext g s g' s' → Paired (fun P v => MP.p P g' v) Ps vs → Op prog w A (PySem.call (Value.type id) vs) g' s' R) (hv : bootBuiltins f = some (.type id))
    (hx : nsIn (KK w.params) mainGlobals f = some none := by rfl) (hn : f ≠ "__name__" := by decide) (hg : env.globals = mainGlobals := by rfl) (hb : env.builtins = builtinsNs := by rfl)
    (hk : env.scope.kind = .function := by rfl) (hl : env.kindOf f = some .globalImplicit := by rfl) (hd : (f == ("__debug__" : Str)) = false := by decide)
    (he : starEach (e :: es) env = (false, eval e env) :: starEach es env := by rfl) (hp : (starEach (e :: es) env).any (·.1) = false := by rfl) : Ev prog w A env g s (.Call (.Name f np) (e :: es) [] pos) R :=
  Ev.call (Ev.bu B hx hv hn hg hb hk hl hd) (fun s' k => Callee.type id) ha h he hp

/-- a def of the text, entered -/
theorem Fn.k {n : Nat} {f : Addr} {args : List MP} {R : MP} {fd : FuncData} {body : List Stmt} {binds : List Value → List (Str × Value)}
    (hfd : fnAt (KK w.params) f = some fd) (hcd : codeIn (KK w.params) fd.code fd.qualname = true) (hbody : fd.body = .stmts body)
    (hbind : ∀ g vs, Paired (fun P v => MP.p P g v) args vs → bindArgs fd ⟨vs, []⟩ = pure (binds vs))
    (hkind : ∀ g vs L, Paired (fun P v => MP.p P g v) args vs → ∀ x ∈ binds vs, fd.scope.names.lookup x.1 = some .local ∨ (fd.scope.names.lookup x.1 = some .cell ∧ ((cellsFrom L fd.scope.names []).lookup x.1).isSome = true))
    (h : ∀ A g s vs L s₁, Room A n → Base w s.heap → Base w s₁.heap → Paired (fun P v => MP.p P g v) args vs →
      Fs [] g s (callEnvC fd L f) (bindL (callEnvC fd L f).kindOf (binds vs) fun _ => none) (bindC (callEnvC fd L f).kindOf (binds vs) fun _ => none) g s₁ →
      XS prog w A (callEnvC fd L f) body (fun fl s' => ∃ v g', fl = .ret v ∧ Ext g s g' s' ∧ R.p g' v) s₁)
    (hclo : fd.closure = [] := by rfl) (hco : fd.scope.isCoroutine = false := by rfl) (hgen : fd.scope.isGenerator = false := by rfl) (hk : fd.scope.kind = .function := by rfl) : Fn prog w (Base w) (n + 1) f args R :=
  Fn.intro (fun h B => fnAt_get B.1 hfd) (fun h B => B.lim) (fun h B => codeRec_of B.1 hcd) hbody hbind hkind h (fun h h' B k => B.keeps k) hclo hco hgen hk
end

/-! the three operators -/
section
variable {prog : Program} {w : World}
theorem fn_and {x y : Int} : Fn prog w (Base w) 1 45 [I x, I y] (I (Builtin.bitAnd x y)) := by
  have hfd : fnAt (KK w.params) 45 = some _ := rfl
  refine Fn.k (n := 0) (binds := fun vs => [(Str.ofString "a", vs[0]!), (Str.ofString "b", vs[1]!)]) hfd rfl rfl ?_ ?_ ?_
  · intro g vs h
    obtain ⟨v, v', rfl, _, _⟩ := paired2 h
    rfl
  · intro g vs L h x hx
    obtain ⟨v, v', rfl, _, _⟩ := paired2 h
    rcases List.mem_cons.mp hx with rfl | hx
    · exact .inl rfl
    · rcases List.mem_singleton.mp hx with rfl
      exact .inl rfl
  · intro A g s vs L s₁ hA B B₁ h F
    obtain ⟨v, v', rfl, p, p'⟩ := paired2 h
    refine xs_ret F (Ev.bin (Ev.nLocal F.ns rfl p) (Ev.nLocal F.ns rfl p') fun g s a b => op_and) fun v g' s' x q => ⟨v, g', rfl, x, q⟩
end
end Mine
end
/-! ### Fn1 -/
section
open PySem PySem.Calls PyProof.Rows PySem.W
namespace Mine
section
variable {prog : Program} {w : World}

theorem fn_mul {x y : Int} (hm : IntMulOk x y) : Fn prog w (Base w) 1 52 [I x, I y] (I (x * y)) := by
  have hfd : fnAt (KK w.params) 52 = some _ := rfl
  refine Fn.k (n := 0) (binds := fun vs => [(Str.ofString "a", vs[0]!), (Str.ofString "b", vs[1]!)]) hfd rfl rfl ?_ ?_ ?_
  · intro g vs h
    obtain ⟨v, v', rfl, _, _⟩ := paired2 h
    rfl
  · intro g vs L h x hx
    obtain ⟨v, v', rfl, _, _⟩ := paired2 h
    rcases List.mem_cons.mp hx with rfl | hx
    · exact .inl rfl
    · rcases List.mem_singleton.mp hx with rfl
      exact .inl rfl
  · intro A g s vs L s₁ hA B B₁ h F
    obtain ⟨v, v', rfl, p, p'⟩ := paired2 h
    exact xs_ret F (Ev.bin (Ev.nLocal F.ns rfl p) (Ev.nLocal F.ns rfl p') fun g s a b => op_mul hm) fun v g' s' x q => ⟨v, g', rfl, x, q⟩

theorem fn_rshift {x y : Int} (hy : 0 ≤ y) : Fn prog w (Base w) 1 59 [I x, I y] (I (x.fdiv (2 ^ y.toNat))) := by
  have hfd : fnAt (KK w.params) 59 = some _ := rfl
  refine Fn.k (n := 0) (binds := fun vs => [(Str.ofString "a", vs[0]!), (Str.ofString "b", vs[1]!)]) hfd rfl rfl ?_ ?_ ?_
  · intro g vs h
    obtain ⟨v, v', rfl, _, _⟩ := paired2 h
    rfl
  · intro g vs L h x hx
    obtain ⟨v, v', rfl, _, _⟩ := paired2 h
    rcases List.mem_cons.mp hx with rfl | hx
    · exact .inl rfl
    · rcases List.mem_singleton.mp hx with rfl
      exact .inl rfl
  · intro A g s vs L s₁ hA B B₁ h F
    obtain ⟨v, v', rfl, p, p'⟩ := paired2 h
    exact xs_ret F (Ev.bin (Ev.nLocal F.ns rfl p) (Ev.nLocal F.ns rfl p') fun g s a b => op_shr hy) fun v g' s' x q => ⟨v, g', rfl, x, q⟩

/-! the cost of a letter for a letter -/
def cost (x y : Str) : Int := if x == y then 0 else if Txt.lower x == Txt.lower y then 1 else 2
theorem fn_cost {x y : Str} (hx : x.length ≤ 1000000) (hy : y.length ≤ 1000000) : Fn prog w (Base w) 1 73 [T x, T y] (I (cost x y)) := by
  have hfd : fnAt (KK w.params) 73 = some _ := rfl
  refine Fn.k (n := 0) (binds := fun vs => [(Str.ofString "ch_a", vs[0]!), (Str.ofString "ch_b", vs[1]!)]) hfd rfl rfl ?_ ?_ ?_
  · intro g vs h
    obtain ⟨v, v', rfl, _, _⟩ := paired2 h
    rfl
  · intro g vs L h x hx
    obtain ⟨v, v', rfl, _, _⟩ := paired2 h
    rcases List.mem_cons.mp hx with rfl | hx
    · exact .inl rfl
    · rcases List.mem_singleton.mp hx with rfl
      exact .inl rfl
  · intro A g s vs L s₁ hA B B₁ h F
    obtain ⟨v, v', rfl, p, p'⟩ := paired2 h
    refine xs_if F (EvT.cmp (Ev.nLocal F.ns rfl p) (Ev.nLocal F.ns rfl p') fun g s a b => op_eqT) ?_ ?_
    · intro e g' s' F' le
      exact xs_ret F' Ev.cInt fun v g' s' x q => ⟨v, g', rfl, x, by unfold cost; rw [if_pos e]; exact q⟩
    · intro e g' s' F' le
      refine xs_nil ?_
      refine xs_if F' (EvT.cmp (Ev.lower (Ev.nLocal F'.ns rfl ((T x).up le p)) hx) (Ev.lower (Ev.nLocal F'.ns rfl ((T y).up le p')) hy) fun g s a b => op_eqT) ?_ ?_
      · intro e' g'' s'' F'' le'
        exact xs_ret F'' (Ev.glP (P := I 1) (F''.base B) ⟨_, rfl⟩ rfl) fun v g' s' x q => ⟨v, g', rfl, x, by unfold cost; rw [if_neg (by simp [e]), if_pos e']; exact q⟩
      · intro e' g'' s'' F'' le'
        refine xs_nil ?_
        exact xs_ret F'' (Ev.glP (P := I 2) (F''.base B) ⟨_, rfl⟩ rfl) fun v g' s' x q => ⟨v, g', rfl, x, by unfold cost; rw [if_neg (by simp [e]), if_neg (by simp [e'])]; exact q⟩
end
end Mine
end
/-! ### Fn2 -/
section
open PySem PySem.Calls PyProof.Rows PySem.W
namespace Mine
theorem upd_ne {m : Str → Option Value} {x y : Str} {v : Value} (h : y ≠ x) : upd m x v y = m y := if_neg h
theorem upd_eq {m : Str → Option Value} {x : Str} {v : Value} : upd m x v x = some v := if_pos rfl
section
variable {prog : Program} {w : World}

/-! a number out of letters -/
def numOf (xs : List Int) : Int := xs.foldl (fun t o => 16 * t + o - 65) 0
theorem numOf_snoc (xs : List Int) (o : Int) : numOf (xs ++ [o]) = 16 * numOf xs + o - 65 := by simp [numOf]
theorem take_snoc {α : Type} {xs : List α} {i : Nat} {a : α} (h : xs[i]? = some a) : xs.take (i + 1) = xs.take i ++ [a] := by
  rw [List.take_add_one, h]; rfl
theorem fn_number {x : Array UInt8} : Fn prog w (Base w) 1 247 [By x] (I (numOf (octs x))) := by
  have hfd : fnAt (KK w.params) 247 = some _ := rfl
  refine Fn.k (n := 0) (binds := fun vs => [(Str.ofString "word", vs[0]!)]) hfd rfl rfl ?_ ?_ ?_
  · intro g vs h
    obtain ⟨v, rfl, _⟩ := paired1 h
    rfl
  · intro g vs L h x hx
    rcases List.mem_singleton.mp hx with rfl
    exact .inl rfl
  · intro A g s vs L s₁ hA B B₁ h F
    obtain ⟨v, rfl, p⟩ := paired1 h
    refine xs_assign F Ev.cInt fun v₀ g₁ s₂ F₁ le₁ h₀ => ?_
    refine xs_for (It := I) (xs := octs x) (fun i m cm g pv => pv = [] ∧ ∃ t, m (Str.ofString "total") = some t ∧ (I (numOf ((octs x).take i))).p g t)
      (fun i m cm g g' pv le ⟨h1, t, h2, h3⟩ => ⟨h1, t, h2, (I _).up le h3⟩) ⟨rfl, v₀, rfl, h₀⟩ F₁ (Ev.iter (Ev.nLocal F₁.ns rfl ((By x).up le₁ p)) fun g s v hg hp => Itb.bytes hA.handled hp) ?_ ?_
    · rintro i a v m cm g s pv wpv ha hv _ ⟨rfl, t, ht, htp⟩ F
      refine xs_assign F (Ev.bin (Ev.bin (Ev.bin Ev.cInt (Ev.nLocal F.ns ((upd_ne (by decide)).trans ht) htp) fun g s a b => op_mul (IntMulOk.of_left (by decide +kernel))) (Ev.nLocal F.ns upd_eq hv) fun g s a b => op_add) Ev.cInt fun g s a b => op_sub)
        fun v' g' s' F' le hp => xs_nil ⟨_, _, _, [], F', le, ⟨rfl, v', upd_eq, ?_⟩, rfl⟩
      rw [take_snoc ha, numOf_snoc]
      exact hp
    · rintro m cm g s pv ⟨rfl, t, ht, htp⟩ F
      rw [List.take_length] at htp
      exact xs_ret F (Ev.nLocal F.ns ht htp) fun v g' s' x q => ⟨v, g', rfl, x, q⟩

/-! letters out of a number -/
def apF : Nat → Nat → List UInt8 → List UInt8
  | 0, _, acc => acc
  | f + 1, n, acc => if n = 0 then acc else apF f (n / 16) (UInt8.ofNat (65 + n % 16) :: acc)
def ap (n : Nat) : List UInt8 := apF 8 n []
def letters : List UInt8 := [65, 66, 67, 68, 69, 70, 71, 72, 73, 74, 75, 76, 77, 78, 79, 80]
theorem picked_letters : ∀ m : Fin 16, KBy.picked letters.toArray (some ((m.val : Nat) : Int)) (some (((m.val : Nat) : Int) + 1)) = #[UInt8.ofNat (65 + m.val)] := by decide +kernel
theorem apF_length : ∀ (f n : Nat) (acc : List UInt8), (apF f n acc).length ≤ f + acc.length
  | 0, _, acc => by simp [apF]
  | f + 1, n, acc => by
    unfold apF
    split
    · omega
    · have := apF_length f (n / 16) (UInt8.ofNat (65 + n % 16) :: acc)
      simp only [List.length_cons] at this
      omega
theorem fn_ap {n : Nat} (hn : n < 16 ^ 8) : Fn prog w (Base w) 1 66 [I (n : Int)] (By (ap n).toArray) := by
  have hfd : fnAt (KK w.params) 66 = some _ := rfl
  refine Fn.k (n := 0) (binds := fun vs => [(Str.ofString "num", vs[0]!)]) hfd rfl rfl ?_ ?_ ?_
  · intro g vs h
    obtain ⟨v, rfl, _⟩ := paired1 h
    rfl
  · intro g vs L h x hx
    rcases List.mem_singleton.mp hx with rfl
    exact .inl rfl
  · intro A g s vs L s₁ hA B B₁ h F
    obtain ⟨v, rfl, p⟩ := paired1 h
    refine xs_assign F Ev.cBytes fun v₀ g₁ s₂ F₁ le₁ h₀ => ?_
    refine xs_assign F₁ Ev.cBytes fun v₁ g₂ s₃ F₂ le₂ h₁ => ?_
    have B₂ := F₂.base B
    refine xs_assign F₂ (Ev.ty B₂ (EvL.cons (Ev.bui B₂ (EvL.cons (Ev.nLocal F₂.ns rfl ((I n).up (fun b o e => le₂ b o (le₁ b o e)) p)) EvL.nil) (fun g' s' vs x hp => by
        obtain ⟨v, rfl, q⟩ := paired1 hp
        exact op_abs (by omega) x.sub q) rfl) EvL.nil) (fun g' s' vs x hp => by
        obtain ⟨v, rfl, q⟩ := paired1 hp
        exact op_int x.sub q) rfl) fun v₂ g₃ s₄ F₃ le₃ h₂ => ?_
    refine xs_while (fun k m cm g => ∃ (a : Nat) (acc : List UInt8) (va vb vc : Value), m (Str.ofString "num") = some va ∧ (I (a : Int)).p g va ∧ m (Str.ofString "val") = some vb ∧ (By acc.toArray).p g vb ∧
        m (Str.ofString "AP") = some vc ∧ (By letters.toArray).p g vc ∧ a < 16 ^ k ∧ apF k a acc = ap n ∧ acc.length + k ≤ 8) 8
      ⟨n, [], v₂, v₀, v₁, rfl, h₂, rfl, (By _).up (fun b o e => le₃ b o (le₂ b o e)) h₀, rfl, (By _).up le₃ h₁, hn, rfl, by simp⟩ F₃ ?_
    rintro k m cm g s ⟨a, acc, va, vb, vc, ha, hap, hb, hbp, hc, hcp, hlt, hf, hlen⟩ F
    refine ⟨_, EvT.ofI (Ev.nLocal F.ns ha hap), fun e g' s' F' le => ?_, fun e g' s' F' le => ?_⟩
    · have ha0 : a ≠ 0 := by
        rintro rfl
        revert e
        decide
      obtain ⟨k, rfl⟩ : ∃ k', k = k' + 1 := by
        cases k with
        | zero => exact absurd (by simpa using hlt) ha0
        | succ k => exact ⟨k, rfl⟩
      have B' := F'.base B
      refine xs_assign2 hA.handled F' (Ev.bui B' (EvL.cons (Ev.nLocal F'.ns ha ((I _).up le hap)) (EvL.cons Ev.cInt EvL.nil)) (fun g' s' vs x hp => by
        obtain ⟨v, v', rfl, q, q'⟩ := paired2 hp
        exact op_divmod (by decide) (PyProof.noPylong_small (by decide)) x.sub q q') rfl) fun v v' g₄ s₅ F₄ le₄ hv hv' => ?_
      have e1 : (a : Int).fdiv 16 = ((a / 16 : Nat) : Int) := by rw [Int.fdiv_eq_ediv_of_nonneg _ (by decide)]; rfl
      have e2 : (a : Int).fmod 16 = ((a % 16 : Nat) : Int) := by rw [Int.fmod_eq_emod_of_nonneg _ (by decide)]; rfl
      rw [e1] at hv
      rw [e2] at hv'
      have up4 : GLe g g₄ := fun b o e => le₄ b o (le b o e)
      have hpk := picked_letters ⟨a % 16, Nat.mod_lt _ (by decide)⟩
      have hz : (KBy.picked letters.toArray (some ((a % 16 : Nat) : Int)) (some (((a % 16 : Nat) : Int) + 1))).size + acc.toArray.size ≤ 16777216 := by
        rw [hpk]
        simp
        omega
      refine xs_assign F₄ (Ev.bin (Ev.bytesSlice (Ev.nLocal F₄.ns ((upd_ne (by decide)).trans ((upd_ne (by decide)).trans hc)) ((By _).up up4 hcp)) (EvP.yes (Ev.nLocal F₄.ns upd_eq hv'))
          (EvP.yes (Ev.bin (Ev.nLocal F₄.ns upd_eq hv') Ev.cInt fun g s a b => op_add)) (by decide))
        (Ev.nLocal F₄.ns ((upd_ne (by decide)).trans ((upd_ne (by decide)).trans hb)) ((By _).up up4 hbp)) fun g s a b => op_addB hz) fun v'' g₅ s₆ F₅ le₅ hv'' => ?_
      · rw [hpk] at hv''
        refine xs_nil ⟨rfl, k, _, _, g₅, Nat.lt_succ_self k, F₅, a / 16, UInt8.ofNat (65 + a % 16) :: acc, v, v'', vc, ?_, (I _).up le₅ hv, upd_eq, by simpa using hv'', ?_, (By _).up (fun b o e => le₅ b o (up4 b o e)) hcp, ?_, ?_, ?_⟩
        · exact (upd_ne (by decide)).trans ((upd_ne (by decide)).trans upd_eq)
        · exact (upd_ne (by decide)).trans ((upd_ne (by decide)).trans ((upd_ne (by decide)).trans hc))
        · rw [Nat.pow_succ] at hlt
          exact Nat.div_lt_of_lt_mul (by rw [Nat.mul_comm]; exact hlt)
        · rw [← hf]
          conv => rhs; unfold apF
          rw [if_neg ha0]
        · simp only [List.length_cons]
          omega
    · have ha0 : a = 0 := by
        have : ((a : Int) != 0) = false := e
        simpa using this
      subst ha0
      have : acc = ap n := by
        rw [← hf]
        cases k with
        | zero => rfl
        | succ k => unfold apF; rw [if_pos rfl]
      subst this
      exact xs_ret F' (Ev.nLocal F'.ns hb ((By _).up le hbp)) fun v g' s' x q => ⟨v, g', rfl, x, q⟩
end
end Mine
end
/-! ### Fn3 -/
section
open PySem PySem.Calls PyProof.Rows PySem.W
namespace Mine
section
variable {prog : Program} {w : World}

/-! weights -/
def bitsAt (free : List Int) (row : List Int) : Int := (free.map fun k => row.getD k.toNat 0).sum
def weight (rows : List (List Int)) (free : List Int) : Int := (rows.map fun row => 15 ^ (bitsAt free row).toNat).sum
structure Row4 (r : List Int) : Prop where
  len : r.length = 4
  bit : ∀ x ∈ r, x = 0 ∨ x = 1
structure Places (free : List Int) : Prop where
  len : free.length ≤ 4
  low : ∀ k ∈ free, 0 ≤ k ∧ k < 4
theorem Row4.get {r : List Int} (h : Row4 r) {k : Int} (h0 : 0 ≤ k) (h1 : k < 4) : r[k.toNat]? = some (r.getD k.toNat 0) ∧ (r.getD k.toNat 0 = 0 ∨ r.getD k.toNat 0 = 1) := by
  have hl : k.toNat < r.length := by rw [h.len]; omega
  have e : r[k.toNat]? = some r[k.toNat] := List.getElem?_eq_getElem hl
  have e2 : r.getD k.toNat 0 = r[k.toNat] := by rw [List.getD_eq_getElem?_getD, e]; rfl
  rw [e2]
  exact ⟨e, h.bit _ (List.getElem_mem hl)⟩
theorem bitsAt_le {free row : List Int} (hr : Row4 row) (hf : ∀ k ∈ free, 0 ≤ k ∧ k < 4) : 0 ≤ bitsAt free row ∧ bitsAt free row ≤ free.length := by
  unfold bitsAt
  induction free with
  | nil => simp
  | cons k r ih =>
    have h1 := hf k List.mem_cons_self
    have h2 := (hr.get h1.1 h1.2).2
    have h3 := ih fun k hk => hf k (List.mem_cons_of_mem _ hk)
    simp only [List.map_cons, List.sum_cons, List.length_cons]
    omega
theorem fn_weight {rows : List (List Int)} {free : List Int} (hr : ∀ r ∈ rows, Row4 r) (hf : Places free) (hl : rows.length ≤ 16) : Fn prog w (Base w) 1 240 [Ls (Ls I) rows, Ls I free] (I (weight rows free)) := by
  have hfd : fnAt (KK w.params) 240 = some _ := rfl
  refine Fn.k (n := 0) (binds := fun vs => [(Str.ofString "rows", vs[0]!), (Str.ofString "free", vs[1]!)]) hfd rfl rfl ?_ ?_ ?_
  · intro g vs h
    obtain ⟨v, v', rfl, _, _⟩ := paired2 h
    rfl
  · intro g vs L h x hx
    rcases List.mem_cons.mp hx with rfl | hx
    · exact .inl rfl
    · rcases List.mem_singleton.mp hx with rfl
      exact .inr ⟨rfl, rfl⟩
  · intro A g s vs L s₁ hA B B₁ h F
    obtain ⟨v, v', rfl, p, p'⟩ := paired2 h
    have hc : s₁.heap.IsCell (L + 1) (some v') := F.x.cell (Str.ofString "free") _ rfl
    refine xs_ret (P := I (weight rows free)) F (Ev.bui B₁ (EvL.cons (EvC.compC0 (xs := rows) (It := Ls I) (R := fun row => I (15 ^ (bitsAt free row).toNat)) (Ev.iter (Ev.nLocal F.ns rfl p) fun g s v hg hp => Itb.list hA.handled hg hp)
      (fun C va row g' s' hm x hcr hv => ?_) (Nat.le_trans hl (by decide))).ev EvL.nil) (fun g' s' vs x hp => ?_) rfl) fun v g' s' x q => ⟨v, g', rfl, x, q⟩
    · have hb := bitsAt_le (hr row hm) hf.low
      have hfl := hf.len
      refine Ev.bin Ev.cInt (Ev.bui (B₁.ext x) (EvL.cons (EvC.comp0 (xs := free) (It := I) (R := fun k => I (row.getD k.toNat 0)) (Ev.iter (Ev.nCell rfl (hc.keeps (kget x.keeps)) ((Ls I free).up x.le p')) fun g s v hg hp => Itb.list hA.handled hg hp)
        (fun C' m vk k g'' s'' hk x' hn hmk hvk => ?_) (Nat.le_trans hf.len (by decide))).ev EvL.nil) (fun g' s' vs x hp => ?_) rfl) fun g s a b => op_pow hb.1 (by omega) (by decide)
      · have hk4 := hf.low k hk
        exact Ev.sub (Ev.nCell rfl (hcr.keeps (kget x'.keeps)) ((Ls I row).up x'.le hv)) (Ev.nLocal hn hmk hvk) fun g s a b hg pa pb => list_tail pa hg (op_item hk4.1 ((hr row hm).get hk4.1 hk4.2).1 (by rw [(hr row hm).len]; decide) hg pa pb) rfl
      · obtain ⟨v, rfl, q⟩ := paired1 hp
        exact op_sum hA.handled x.sub (Ls.map.mp q)
    · obtain ⟨v, rfl, q⟩ := paired1 hp
      exact op_sum hA.handled x.sub (Ls.map.mp q)
end
end Mine
end
/-! ### Fn4 -/
section
open PySem PySem.Calls PyProof.Rows PySem.W
namespace Mine
section
variable {prog : Program} {w : World}

/-! sizes of a word -/
def abcd : Str := Str.ofString "abcd"
def sizes (word : Str) : List Int := (signs abcd).map fun l => ((signs word).map (cost l)).sum - 6
theorem sign_short {x y : Str} (h : x ∈ signs y) : x.length = 1 := by
  unfold signs at h
  obtain ⟨c, _, rfl⟩ := List.mem_map.mp h
  rfl
theorem fn_sizes {word : Str} (hw : word.length ≤ 100) : Fn prog w (Base w) 2 230 [T word] (Ls I (sizes word)) := by
  have hfd : fnAt (KK w.params) 230 = some _ := rfl
  refine Fn.k (n := 1) (binds := fun vs => [(Str.ofString "word", vs[0]!)]) hfd rfl rfl ?_ ?_ ?_
  · intro g vs h
    obtain ⟨v, rfl, _⟩ := paired1 h
    rfl
  · intro g vs L h x hx
    rcases List.mem_singleton.mp hx with rfl
    exact .inr ⟨rfl, rfl⟩
  · intro A g s vs L s₁ hA B B₁ h F
    obtain ⟨v, rfl, p⟩ := paired1 h
    have hc : s₁.heap.IsCell (L + 1) (some v) := F.x.cell (Str.ofString "word") _ rfl
    refine xs_ret (P := Ls I (sizes word)) F (Ev.weak (EvC.ev (EvC.compC0 (xs := signs abcd) (It := T) (R := fun l => I (((signs word).map (cost l)).sum - 6)) (Ev.iter Ev.cStr fun g s v hg hp => Itb.text hA.handled hp)
      (fun C va l g' s' hm x hcr hv => ?_) (by decide))) fun g v q => Ls.map.mp q) fun v g' s' x q => ⟨v, g', rfl, x, q⟩
    refine Ev.bin (Ev.bui (B₁.ext x) (EvL.cons (EvC.comp0 (xs := signs word) (It := T) (R := fun sg => I (cost l sg)) (Ev.iter (Ev.nCell rfl (hc.keeps (kget x.keeps)) ((T word).up x.le p)) fun g s v hg hp => Itb.text hA.handled hp)
        (fun C' m vk sg g'' s'' hk x' hn hmk hvk => ?_) ?_).ev EvL.nil) (fun g' s' vs x hp => ?_) rfl) Ev.cInt fun g s a b => op_sub
    · refine Ev.fn ((B₁.ext x).ext x') hA (fn_cost ?_ ?_) (EvL.cons (Ev.nCell rfl (hcr.keeps (kget x'.keeps)) hv) (EvL.cons (Ev.nLocal hn hmk hvk) EvL.nil))
      · rw [sign_short hm]; decide
      · rw [sign_short hk]; decide
    · rw [signs_length]
      exact Nat.le_trans hw (by decide)
    · obtain ⟨v, rfl, q⟩ := paired1 hp
      exact op_sum hA.handled x.sub (Ls.map.mp q)

/-! the rings -/
def abcABC : Str := Str.ofString "abcdABCD"
def ringIdx (x : Int) (k : Int) : Int := k.fmod 4 + 4 * Builtin.bitAnd (x.fdiv (2 ^ (k.fmod 4).toNat)) 1
def ringSign (x : Int) (k : Int) : Str := ⟨#[abcABC.cps.getD (ringIdx x k).toNat 0]⟩
def ring (x first : Int) : Str := Txt.join (Str.ofString "") ((numsFrom first 4).map (ringSign x))
theorem ringIdx_ok : ∀ (x : Fin 16) (k : Fin 8), 0 ≤ ringIdx (x.val : Nat) (k.val : Nat) ∧ ringIdx (x.val : Nat) (k.val : Nat) < 8 := by decide +kernel
theorem ring_ok : ∀ (x : Fin 16) (f : Fin 4), JoinOk (Str.ofString "") ((numsFrom (f.val : Nat) 4).map (ringSign (x.val : Nat))) = true := by decide +kernel
theorem fmod4 (k : Int) : 0 ≤ k.fmod 4 := by rw [Int.fmod_eq_emod_of_nonneg _ (by decide)]; omega
theorem mem_nums {a k : Int} {n : Nat} (h : k ∈ numsFrom a n) : a ≤ k ∧ k < a + n := by
  unfold numsFrom at h
  obtain ⟨i, hi, rfl⟩ := List.mem_map.mp h
  have := List.mem_range.mp hi
  omega
theorem fn_ring {x first : Nat} (hx : x < 16) (hf : first < 4) : Fn prog w (Base w) 1 220 [I (x : Int), I (first : Int)] (T (ring x first)) := by
  have hfd : fnAt (KK w.params) 220 = some _ := rfl
  refine Fn.k (n := 0) (binds := fun vs => [(Str.ofString "x", vs[0]!), (Str.ofString "first", vs[1]!)]) hfd rfl rfl ?_ ?_ ?_
  · intro g vs h
    obtain ⟨v, v', rfl, _, _⟩ := paired2 h
    rfl
  · intro g vs L h x hx
    rcases List.mem_cons.mp hx with rfl | hx
    · exact .inr ⟨rfl, rfl⟩
    · rcases List.mem_singleton.mp hx with rfl
      exact .inl rfl
  · intro A g s vs L s₁ hA B B₁ h F
    obtain ⟨v, v', rfl, p, p'⟩ := paired2 h
    have hc : s₁.heap.IsCell (L + 1) (some v) := F.x.cell (Str.ofString "x") _ rfl
    refine xs_ret (P := T (ring x first)) F (Ev.join Ev.cStr (Ev.weak (EvC.ev (EvC.comp0 (xs := numsFrom first 4) (It := I) (R := fun k => T (ringSign x k)) (Ev.iter (P := Rg first (first + 4)) (Ev.ty B₁ (EvL.cons (Ev.nLocal F.ns rfl p') (EvL.cons (Ev.bin (Ev.nLocal F.ns rfl p') Ev.cInt fun g s a b => op_add) EvL.nil)) (fun g' s' vs x hp => ?_) rfl)
        fun g s v hg hp => Itb.range hA.handled hg hp (by omega) (by omega)) (fun C m vk k g'' s'' hk x' hn hmk hvk => ?_) ?_)) fun g v q => Ls.map.mp q) (ring_ok ⟨x, hx⟩ ⟨first, hf⟩)) fun v g' s' x q => ⟨v, g', rfl, x, q⟩
    · obtain ⟨v, v', rfl, q, q'⟩ := paired2 hp
      exact op_range2 x.sub q q'
    · have hk' := mem_nums hk
      have hi := ringIdx_ok ⟨x, hx⟩ ⟨k.toNat, by omega⟩
      have hkn : ((k.toNat : Nat) : Int) = k := Int.toNat_of_nonneg (by omega)
      dsimp only at hi
      rw [hkn] at hi
      have hz : abcABC.cps[(ringIdx x k).toNat]? = some (abcABC.cps.getD (ringIdx x k).toNat 0) := by
        have hlt : (ringIdx x k).toNat < abcABC.cps.size := by
          have : abcABC.cps.size = 8 := by decide +kernel
          omega
        rw [Array.getElem?_eq_getElem hlt, Array.getD_eq_getD_getElem?, Array.getElem?_eq_getElem hlt]
        rfl
      refine Ev.sub Ev.cStr (Ev.bin (Ev.bin (Ev.nLocal hn hmk hvk) Ev.cInt fun g s a b => op_mod (by decide)) (Ev.bin Ev.cInt (Ev.bin (Ev.bin (Ev.nCell rfl (hc.keeps (kget x'.keeps)) ((I x).up x'.le p)) (Ev.bin (Ev.nLocal hn hmk hvk) Ev.cInt fun g s a b => op_mod (by decide)) fun g s a b => op_shr (fmod4 k)) Ev.cInt fun g s a b => op_and) fun g s a b => op_mul (IntMulOk.of_left (by decide +kernel))) fun g s a b => op_add)
        fun g s a b hg pa pb => text_tail pa (text_item hi.1 hz (by decide +kernel) hg pa pb) rfl
    · simp [numsFrom]
      decide
end
end Mine
end
/-! ### Enum1 -/
section
open PySem PySem.Calls PyProof.Rows PySem.W
namespace Mine
open PySem.AutoSeq1 (wpAny_loadPart')
/-! a tuple's iterator, asked once: by the walk -/
section
variable {it l : Addr} {i n : Nat} {items : Array Value} {d1 d2 : Option Addr} {sl1 sl2 : Array (Option Value)}
abbrev tupIterObj (l : Addr) (i : Nat) (d : Option Addr) (sl : Array (Option Value)) : Obj := ⟨.type "tuple_iterator", d, .fields #[.ref l, .int i 0], sl⟩
theorem tup_next {x : Value} (hx : items[i]? = some x) :
    Meets (Builtin.«tuple_iterator.__next__» ⟨[.ref it], []⟩) (fun _ R s => s.heap.get? it = some (tupIterObj l i d1 sl1) ∧ s.heap.get? l = some ⟨.type "tuple", d2, .seq items n, sl2⟩ ∧
      ∀ h', h'.get? it = some (tupIterObj l (i + 1) d1 sl1) → Heap.SameBut it s.heap h' → R (.ok (.ret x)) { s with heap := h' }) := by
  intro prog w A R s ⟨h1, h2, h⟩
  obtain ⟨hp, g, d, tk, os⟩ := s
  have e : items[((i : Nat) : Int).toNat]? = some x := hx
  wp_walk using wpAny_loadPart' h1, wpAny_loadPart' h2
  rw [e]
  wp_walk using wpAny_loadPart' h1
  exact h _ (Heap.get?_update_self _ h1 rfl) (Heap.SameBut.update ..)
theorem tup_stop (hx : items[i]? = none) :
    Meets (Builtin.«tuple_iterator.__next__» ⟨[.ref it], []⟩) (fun A R s => A.handled = none ∧ s.heap.get? it = some (tupIterObj l i d1 sl1) ∧ s.heap.get? l = some ⟨.type "tuple", d2, .seq items n, sl2⟩ ∧
      ∀ h' e, Heap.ExtBut it s.heap h' → (∃ o, h'.get? e = some o ∧ o.cls = .type "StopIteration") → R (.error (.ref e)) { s with heap := h' }) := by
  intro prog w A R s ⟨hh, h1, h2, h⟩
  obtain ⟨hp, g, d, tk, os⟩ := s
  have e : items[((i : Nat) : Int).toNat]? = none := hx
  wp_walk using wpAny_loadPart' h1, wpAny_loadPart' h2
  rw [e]
  wp_walk using wpAny_loadPart' h1
  exact wpAny_raiseNew_none hh (h _ _ (((Heap.SameBut.update ..).extBut.push _).push _) ⟨_, Heap.get?_push_size _ rfl, rfl⟩)
end
theorem nextOf_by {prog : Program} {w : World} {A : Around} {E : Value → Shared → Prop} {s : Shared} {it l : Addr} {i : Nat} {S : PySem.Spec} {Q : Value → Shared → Prop} (hit : s.heap.IsTupleIter it l i) (g : Meets (Builtin.«tuple_iterator.__next__» ⟨[.ref it], []⟩) S)
    (h : ∀ K : Value → Shared → Prop, (∀ v s', Q v s' → K v s') → S A (wants K E) s) : wpAny (model prog w) A (Builtin.SmallTypes.nextOf (.ref it)) Q E s := by
  unfold Builtin.SmallTypes.nextOf
  exact wpAny_bind (wpAny_callSpecial?_slot hit.typeIs F.slot_tuple_iterator_next (call_meets F.slot_tuple_iterator_next hit.typeIs F.entry_tuple_iterator_next (F.args_tuple_iterator_next_1 _) g (h _ fun _ _ q => wpAny_pure q)))
section
variable {prog : Program} {w : World} {A : Around} {s : Shared}
theorem tupIter_obj {h : Heap} {a t : Addr} {i : Nat} (x : h.IsTupleIter a t i) : ∃ d sl, h.get? a = some (tupIterObj t i d sl) := by
  obtain ⟨⟨c, d, _, sl⟩, ho, rfl, rfl⟩ := x
  exact ⟨d, sl, ho⟩
theorem tuple_obj {h : Heap} {a : Addr} {items : Array Value} (x : h.IsTuple a items) : ∃ d n sl, h.get? a = some ⟨.type "tuple", d, .seq items n, sl⟩ := by
  obtain ⟨⟨c, d, _, sl⟩, ho, rfl, n, rfl⟩ := x
  exact ⟨d, n, sl, ho⟩
/-- a tuple's iterator draws its items -/
theorem draws_tuple (hh : A.handled = none) (it l : Addr) (hne : l ≠ it) (items : Array Value) :
    Draws prog w A it [it, l] items.size (fun i v => items[i]? = some v) (fun i h => h.IsTupleIter it l i ∧ h.IsTuple l items) where
  live := fun _ _ st => let ⟨_, _, h⟩ := tupIter_obj st.1; ⟨_, h⟩
  frame := fun _ _ _ st hk => ⟨st.1.at fun o e => hk it (by simp) o e, st.2.at fun o e => hk l (by simp) o e⟩
  item := fun i s Q E hi st hQ => by
    obtain ⟨d1, sl1, h1⟩ := tupIter_obj st.1
    obtain ⟨d2, n, sl2, h2⟩ := tuple_obj st.2
    have hx : items[i]? = some items[i] := by simp [hi]
    exact nextOf_by st.1 (tup_next hx) fun K hK => ⟨h1, h2, fun h' e hs => hK _ _ (hQ _ h' s.toks hx ⟨⟨_, e, rfl, rfl⟩, st.2.extBut hs.extBut hne⟩ hs)⟩
  done := fun s Q E st hE => by
    obtain ⟨d1, sl1, h1⟩ := tupIter_obj st.1
    obtain ⟨d2, n, sl2, h2⟩ := tuple_obj st.2
    exact nextOf_by st.1 (tup_stop (by simp)) fun K hK => ⟨hh, h1, h2, hE⟩

/-! enumerate, made over a tuple -/
abbrev newIter (l : Addr) : Obj := { cls := .type "tuple_iterator", data := .fields #[.ref l, .int 0 0] }
abbrev newEnum (it : Addr) : Obj := { cls := .type "enumerate", data := .fields #[.none, .bool false, .ref it, rawInt 0, .none, .none] }
abbrev enumHeap (h : Heap) (l : Addr) : Heap := (h.push (newIter l)).push (newEnum h.objs.size)
set_option maxHeartbeats 1000000 in
theorem enum_made (l : Addr) (items : Array Value) (n : Nat) :
    Meets (Builtin.«enumerate.__new__» ⟨[.type "enumerate", .ref l], []⟩) (fun _ R s => s.heap.get? l = some ⟨.type "tuple", none, .seq items n, #[]⟩ ∧
      R (.ok (.ret (.ref (s.heap.push (newIter l)).objs.size))) { s with heap := enumHeap s.heap l }) :=
  .of_wp fun prog w A R s ⟨hl, h⟩ => by
    obtain ⟨hp, g, d, tk, os⟩ := s
    have hsub := sub_enumerate
    have hT : (Shared.mk hp g d tk os).heap.IsTuple l items := ⟨_, hl, rfl, n, rfl⟩
    wp_walk using wpAny_loadPart' hl
    refine wpAny_stack_any fun st => wpAny_pure ?_
    split
    · rename_i c _ _ _ _ _
      cases hc : c == Value.type "enumerate" <;> (wp_walk using wpAny_loadPart' hl, wpAny_pyIter_tuple hT; exact ⟨_, rfl, h⟩)
    · wp_walk using wpAny_loadPart' hl, wpAny_pyIter_tuple hT
      exact ⟨_, rfl, h⟩
theorem call_enumerate_tup {E : Value → Shared → Prop} {l : Addr} {items : Array Value} {n : Nat} {Q : Value → Shared → Prop} (hl : s.heap.get? l = some ⟨.type "tuple", none, .seq items n, #[]⟩)
    (h : ∀ h', IsEnum h' (s.heap.objs.size + 1) s.heap.objs.size 0 .none → h'.IsTupleIter s.heap.objs.size l 0 → h'.objs.size = s.heap.objs.size + 2 →
      (∀ b o, s.heap.get? b = some o → h'.get? b = some o) → Q (.ref (s.heap.objs.size + 1)) { s with heap := h' }) :
    wpAny (model prog w) A (PySem.call (.type "enumerate") [.ref l]) Q E s := by
  have hz : (s.heap.push (newIter l)).objs.size = s.heap.objs.size + 1 := Heap.size_push ..
  have he : (enumHeap s.heap l).get? (s.heap.objs.size + 1) = some (newEnum s.heap.objs.size) := hz ▸ Heap.get?_push_size _ rfl
  have hi : (enumHeap s.heap l).get? s.heap.objs.size = some (newIter l) := Heap.get?_push_of_some _ (Heap.get?_push_size _ rfl)
  have hn := h (enumHeap s.heap l) he ⟨_, hi, rfl, rfl⟩ (by rw [Heap.size_push, hz]) fun b o x => Heap.get?_push_of_some _ (Heap.get?_push_of_some _ x)
  exact callType_new F.called_enumerate (by decide) (F.typeCall_enumerate_1 _) (F.newCall_enumerate_1 _) (fun obj => F.args_object_init_2 obj _) F.entry_enumerate_new
    (enum_made l items n) ⟨hl, by rw [hz]; exact ⟨⟨_, he, rfl⟩, hn⟩⟩
end
end Mine
end
/-! ### Enum2 -/
section
open PySem PySem.Calls PyProof.Rows PySem.W
namespace Mine
section
variable {prog : Program} {w : World} {A : Around} {env : Env} {g : G} {s : Shared}

/-- a call whose value is looked at by hand -/
theorem callAny {f : Str} {np pos : Pos} {e : Expr} {es : List Expr} {fv : Value} {Ps : List MP} {g₁ : G} {s₁ : Shared} {Q : Value → Shared → Prop} (hf : Ev prog w A env g s (.Name f np) (Is fv)) (hc : ∀ s', Keeps s s' → Callee s' fv) (ha : EvL prog w A env g s (e :: es) Ps)
    (x : Ext g s g₁ s₁)
    (h : ∀ g' s' vs, Ext g₁ s₁ g' s' → Paired (fun P v => MP.p P g' v) Ps vs → WP prog w A (PySem.call fv vs) Q s')
    (he : starEach (e :: es) env = (false, eval e env) :: starEach es env := by rfl) (hp : (starEach (e :: es) env).any (·.1) = false := by rfl) : WP prog w A (eval (.Call (.Name f np) (e :: es) [] pos) env) Q s₁ := by
  show wpAny _ A (do callWith pos (← eval (.Name f np) env) [] (backTo pos (starEach (e :: es) env)) (backToKw pos (keywordEach [] env))) _ _ s₁
  refine wpAny_bind (wpAny_mono (hf _ _ x) (fun v s₂ ⟨g₂, y, hv⟩ => ?_) fun _ _ f => f)
  have hv' : v = fv := hv
  subst hv'
  have xy := x.tr y
  refine callWith_any (fun s' k => hc s' (Keeps.tr xy.keeps k)) ?_ ?_
  · rw [← hp]
    simp [backTo, List.any_map, Function.comp_def]
  · refine wpAny_mono (ha.plain xy ⟨e, es, rfl, he⟩) (fun a s₃ ⟨hk, g₃, z, p⟩ => ⟨z.keeps, ?_⟩) fun _ _ f => f
    rw [hk]
    exact h g₃ s₃ a.pos (y.tr z) p

/-- a walk of pairs -/
def EvI2 (prog : Program) (w : World) (A : Around) {α : Type} (env : Env) (g : G) (s : Shared) (e : Expr) (xs : List α) (R₁ R₂ : α → MP) : Prop :=
  ∀ g₁ s₁, Ext g s g₁ s₁ → WP prog w A (eval e env) (fun xv s₂ => ∃ g₂ sm, Ext g₁ s₁ g₂ sm ∧ WP prog w A (pyIter xv) (fun it s₃ => ∃ Id fp wr Pt St Mid, it = .ref Id ∧ Keeps sm s₃ ∧ WalksU prog w A Id fp wr xs.length Pt St Mid ∧
    (∀ i vals a, Pt i vals → xs[i]? = some a → ∃ v v', vals = #[v, v'] ∧ (R₁ a).p g₂ v ∧ (R₂ a).p g₂ v') ∧ (∀ b ∈ wr, sm.heap.get? b = none) ∧ (∀ b ∈ fp, b < s₃.heap.objs.size) ∧ St 0 s₃.heap ∧
    (∀ i h, St i h → ∀ b ∈ wr, ∃ o, h.get? b = some o) ∧ (∀ b ∈ fp, b ∈ wr ∨ ∃ o, g₂ b = some o)) s₂) s₁

theorem EvC.gen2 {α : Type} {elt target iter : Expr} {ifs : List Expr} {scope : Scope} {pos : Pos} {cl : List (Str × Addr)} {cells : Addr → List (Str × Addr)} {B : G → Addr → α → Heap → Prop} {Bp : Addr → Heap → Prop} {own : Addr → List Addr}
    {xs : List α} {p : α → Bool} {R : α → MP}
    (hclos : closureFor scope env = pure cl) (hkind : scope.kind = .function) (hnames : ∀ y ∈ scope.names, y.2 = .local → scope.names.lookup y.1 = some .local)
    (bd : ∀ g, Binds scope cl cells (B g) Bp own)
    (hiter : ∀ g₁ s₁, Ext g s g₁ s₁ → WP prog w A (eval iter env) (fun xv s₂ => ∃ g₂ sm, Ext g₁ s₁ g₂ sm ∧ WP prog w A (pyIter xv) (fun it s₃ => ∃ Id fpI wr St, it = .ref Id ∧
      Opens prog w A env target scope cells (B g₂) Bp own xs g₂ sm s₃ Id fpI wr St) s₂) s₁)
    (htest : ∀ g₂ C a g' s', a ∈ xs → (∃ s₂, Ext g s g₂ s₂ ∧ Ext g₂ s₂ g' s') → B g₂ C a s'.heap →
      WP prog w A (forIn ifs true fun c r => if r = true then do let ok ← isTrue c (compEnvC scope (cells C) C env) (eval c (compEnvC scope (cells C) C env)); pure (ForInStep.yield ok) else pure (ForInStep.yield r)) (fun ok s'' => ok = p a ∧ ∃ g'', Ext g' s' g'' s'') s')
    (helt : ∀ g₂ C a g' s', a ∈ xs → p a = true → (∃ s₂, Ext g s g₂ s₂ ∧ Ext g₂ s₂ g' s') → B g₂ C a s'.heap → WP prog w A (eval elt (compEnvC scope (cells C) C env)) (fun y s'' => ∃ g'', Ext g' s' g'' s'' ∧ (R a).p g'' y) s')
    (hsz : xs.length ≤ sizeLine) (hs : ∀ x, foldedSetIterable iter env x = pure x) :
    EvC prog w A env g s (.ListComp elt [⟨target, iter, ifs, 0⟩] scope pos) (Ls R (xs.filter p)) := by
  refine ⟨_, _, _, _, rfl, rfl, fun g₁ s₁ use Q x₁ hQ => ?_⟩
  refine wpAny_comprehension_free (use := use) rfl hs hclos hkind hnames (wpAny_mono (hiter g₁ s₁ x₁) (fun xv s₂ h₂ => ?_) fun _ _ e => e)
  obtain ⟨g₂, sm, x₂, h₂⟩ := h₂
  refine wpAny_mono h₂ (fun it s₃ h₃ => ?_) fun _ _ e => e
  obtain ⟨Id, fpI, wr, St, rfl, op⟩ := h₃
  have y₂ := x₁.tr x₂
  refine wpAny_mono (comp_block (R := R) (p := p) (bd g₂) op x₂.sub (fun C a g' s' ha hx hb => htest g₂ C a g' s' ha ⟨sm, y₂, hx⟩ hb) (fun C a g' s' ha hp hx hb => helt g₂ C a g' s' ha hp ⟨sm, y₂, hx⟩ hb) hsz)
    (fun acc s₄ h₄ => wpAny_mono h₄ (fun cenv s₅ h₅ => codeAny_mono h₅ ?_) fun _ _ e => e) fun _ _ e => e
  rintro r s' ⟨rfl, g', m, hx, hl, hm, hgC, hC⟩
  exact hQ acc g' s' _ m (x₂.tr hx) hl hm hgC (Keeps.none x₂.keeps hC)

def BP {α : Type} (x y : Str) (R₁ R₂ : α → MP) (g : G) (C : Addr) (a : α) (h : Heap) : Prop := ∃ m v v', h.Ns C m ∧ m x = some v ∧ m y = some v' ∧ (R₁ a).p g v ∧ (R₂ a).p g v'
theorem binds_pair {α : Type} {scope : Scope} {cl : List (Str × Addr)} {x y : Str} {R₁ R₂ : α → MP} (hc1 : ∀ n, cellsFrom n scope.names cl = cl) (hc2 : ∀ h, pushCells h scope.names = h) (g : G) :
    Binds scope cl (fun _ => cl) (BP x y R₁ R₂ g) BpL (fun C => [C]) where
  cellsAre := fun n => hc1 _
  isOwn := fun C b hb => by rcases List.mem_singleton.mp hb with rfl; exact Nat.le_refl _
  memC := fun C => List.mem_singleton.mpr rfl
  first := fun h => ⟨_, by rw [hc2]; exact Heap.Ns.new h (.type "dict")⟩
  frB := fun C a h h' ⟨m, v, v', hn, r⟩ k => ⟨m, v, v', hn.at fun o e => k C (List.mem_singleton.mpr rfl) o e, r⟩
  frBp := fun C h h' ⟨m, hn⟩ k => ⟨m, hn.at fun o e => k C (List.mem_singleton.mpr rfl) o e⟩
  BBp := fun C a h ⟨m, v, v', hn, r⟩ => ⟨m, hn⟩
  alive := fun C h ⟨m, hn⟩ b hb => by
    rcases List.mem_singleton.mp hb with rfl
    obtain ⟨o, es, ep, ho, r⟩ := hn
    exact ⟨o, ho⟩
  ns := fun C h b => b

theorem opens_pair {α : Type} {x y : Str} {px py tp : Pos} {kk : Nat} {scope : Scope} {cl : List (Str × Addr)} {xs : List α} {R₁ R₂ : α → MP} {g₂ : G} {s₂ s₃ : Shared} {Id : Addr} {fp wr : List Addr} {Pt : Nat → Array Value → Prop} {St : Nat → Heap → Prop} {Mid : Nat → Addr → Heap → Prop}
    (hh : A.handled = none) (hxy : x ≠ y)
    (hkind : scope.kind = .function) (hx : scope.names.lookup x = some .local) (hy : scope.names.lookup y = some .local) (k : Keeps s₂ s₃) (W : WalksU prog w A Id fp wr xs.length Pt St Mid)
    (hP : ∀ i vals a, Pt i vals → xs[i]? = some a → ∃ v v', vals = #[v, v'] ∧ (R₁ a).p g₂ v ∧ (R₂ a).p g₂ v')
    (hw : ∀ b ∈ wr, s₂.heap.get? b = none) (hfp : ∀ b ∈ fp, b < s₃.heap.objs.size) (hst : St 0 s₃.heap) (hal : ∀ i h, St i h → ∀ b ∈ wr, ∃ o, h.get? b = some o) :
    Opens prog w A env (.Tuple [.Name x px, .Name y py] kk tp) scope (fun _ => cl) (BP x y R₁ R₂ g₂) BpL (fun C => [C]) xs g₂ s₂ s₃ Id fp wr St where
  keeps := k
  fresh := hw
  low := hfp
  loww := fun b hb => hfp b (W.sub b hb)
  start := hst
  frame := W.frame
  alive := hal
  self := fun s Q st h => W.self 0 s Q _ st h
  turn := fun C i a g s hC ha hxt st hB => by
    refine W.item i s _ _ (List.getElem?_eq_some_iff.mp ha).1 st fun T vals h' tk hv hT hM hk => ?_
    refine W.go _ _ _ i T _ _ _ hM fun h'' st' hk' => ?_
    obtain ⟨v, v', rfl, p₁, p₂⟩ := hP i vals a hv ha
    obtain ⟨m, hn⟩ := hB
    have hCw : C ∉ wr := fun h => Nat.lt_irrefl _ (Nat.lt_of_lt_of_le (hfp C (W.sub C h)) hC)
    have hCf : C ∉ fp := fun h => Nat.lt_irrefl _ (Nat.lt_of_lt_of_le (hfp C h) hC)
    have hT' : h''.IsTuple T #[v, v'] := hT.at fun o e => hk' T o (W.apart _ _ _ hM) e
    have hn' : h''.Ns C m := hn.at fun o e => hk' C o hCw (hk C o hCw e)
    refine kcp_assign (env := compEnvC scope cl C env) hh hT' (lookup_relabel_local hx) (lookup_relabel_local hy) (by simp [compEnvC, relabel, hkind]) hn' fun h₃ tk₃ hn₃ hs₃ => ?_
    refine ⟨h₃, _, rfl, W.frame _ _ _ st' fun b hb o e => hs₃ b o (fun h => hCf (by subst h; exact hb)) e, ⟨_, v, v', hn₃, by simp [hxy], by simp, p₁, p₂⟩, fun b o hb e => ?_⟩
    rw [List.mem_append, not_or] at hb
    exact hs₃ b o (fun h => hb.1 (List.mem_singleton.mpr h)) (hk' b o hb.2 (hk b o hb.2 e))
  last := fun C g s hC hxt st hB => by
    refine W.done s _ _ st fun h' tk hk => ⟨rfl, h', tk, rfl, ?_, fun b o hb e => ?_⟩
    · obtain ⟨m, hn⟩ := hB
      exact ⟨m, hn.at fun o e => hk C o (fun h => Nat.lt_irrefl _ (Nat.lt_of_lt_of_le (hfp C (W.sub C h)) hC)) e⟩
    · rw [List.mem_append, not_or] at hb
      exact hk b o hb.2 e

/-- a comprehension whose target is a pair of names -/
theorem EvC.pair {α : Type} {elt iter : Expr} {x y : Str} {px py tp : Pos} {kk : Nat} {ifs : List Expr} {scope : Scope} {pos : Pos} {cl : List (Str × Addr)} {xs : List α} {R₁ R₂ : α → MP} {p : α → Bool} {R : α → MP} (hh : A.handled = none)
    (hiter : EvI2 prog w A env g s iter xs R₁ R₂)
    (htest : ∀ C m v v' a g' s', a ∈ xs → Ext g s g' s' → s'.heap.Ns C m → m x = some v → m y = some v' → (R₁ a).p g' v → (R₂ a).p g' v' →
      WP prog w A (forIn ifs true fun c r => if r = true then do let ok ← isTrue c (compEnvC scope cl C env) (eval c (compEnvC scope cl C env)); pure (ForInStep.yield ok) else pure (ForInStep.yield r)) (fun ok s'' => ok = p a ∧ ∃ g'', Ext g' s' g'' s'') s')
    (helt : ∀ C m v v' a g' s', a ∈ xs → p a = true → Ext g s g' s' → s'.heap.Ns C m → m x = some v → m y = some v' → (R₁ a).p g' v → (R₂ a).p g' v' → Ev prog w A (compEnvC scope cl C env) g' s' elt (R a))
    (hsz : xs.length ≤ sizeLine) (hxy : x ≠ y := by decide)
    (hclos : closureFor scope env = pure cl := by rfl) (hkind : scope.kind = .function := by rfl) (hnames : ∀ y ∈ scope.names, y.2 = .local → scope.names.lookup y.1 = some .local := by decide)
    (hx : scope.names.lookup x = some .local := by rfl) (hy : scope.names.lookup y = some .local := by rfl) (hc1 : ∀ n, cellsFrom n scope.names cl = cl := by intro _; rfl) (hc2 : ∀ h, pushCells h scope.names = h := by intro _; rfl)
    (hs : ∀ x, foldedSetIterable iter env x = pure x := by intro _; rfl) :
    EvC prog w A env g s (.ListComp elt [⟨.Tuple [.Name x px, .Name y py] kk tp, iter, ifs, 0⟩] scope pos) (Ls R (xs.filter p)) := by
  refine EvC.gen2 (B := BP x y R₁ R₂) (Bp := BpL) (own := fun C => [C]) (cells := fun _ => cl) hclos hkind hnames (binds_pair hc1 hc2) (fun g₁ s₁ x₁ => wpAny_mono (hiter g₁ s₁ x₁) (fun xv s₂ h₂ => ?_) fun _ _ e => e) ?_ ?_ hsz hs
  · obtain ⟨g₂, sm, x₂, hi⟩ := h₂
    refine ⟨g₂, sm, x₂, wpAny_mono hi (fun it s₃ h₃ => ?_) fun _ _ e => e⟩
    obtain ⟨Id, fp, wr, Pt, St, Mid, rfl, k, W, hP, hw, hfp, hst, hal, _⟩ := h₃
    exact ⟨Id, fp, wr, St, rfl, opens_pair hh hxy hkind hx hy k W hP hw hfp hst hal⟩
  · rintro g₂ C a g' s' ha ⟨s₂, y, y'⟩ ⟨m, v, v', hn, hm, hm', hv, hv'⟩
    exact htest C m v v' a g' s' ha (y.tr y') hn hm hm' ((R₁ a).up y'.le hv) ((R₂ a).up y'.le hv')
  · rintro g₂ C a g' s' ha hp ⟨s₂, y, y'⟩ ⟨m, v, v', hn, hm, hm', hv, hv'⟩
    exact helt C m v v' a g' s' ha hp (y.tr y') hn hm hm' ((R₁ a).up y'.le hv) ((R₂ a).up y'.le hv') _ _ (Ext.refl y'.sub)
theorem filter_true {α : Type} (xs : List α) : xs.filter (fun _ => true) = xs := by simp
theorem EvC.pair0 {α : Type} {elt iter : Expr} {x y : Str} {px py tp : Pos} {kk : Nat} {scope : Scope} {pos : Pos} {cl : List (Str × Addr)} {xs : List α} {R₁ R₂ : α → MP} {R : α → MP} (hh : A.handled = none)
    (hiter : EvI2 prog w A env g s iter xs R₁ R₂)
    (helt : ∀ C m v v' a g' s', a ∈ xs → Ext g s g' s' → s'.heap.Ns C m → m x = some v → m y = some v' → (R₁ a).p g' v → (R₂ a).p g' v' → Ev prog w A (compEnvC scope cl C env) g' s' elt (R a))
    (hsz : xs.length ≤ sizeLine) (hxy : x ≠ y := by decide)
    (hclos : closureFor scope env = pure cl := by rfl) (hkind : scope.kind = .function := by rfl) (hnames : ∀ y ∈ scope.names, y.2 = .local → scope.names.lookup y.1 = some .local := by decide)
    (hx : scope.names.lookup x = some .local := by rfl) (hy : scope.names.lookup y = some .local := by rfl) (hc1 : ∀ n, cellsFrom n scope.names cl = cl := by intro _; rfl) (hc2 : ∀ h, pushCells h scope.names = h := by intro _; rfl)
    (hs : ∀ x, foldedSetIterable iter env x = pure x := by intro _; rfl) :
    EvC prog w A env g s (.ListComp elt [⟨.Tuple [.Name x px, .Name y py] kk tp, iter, [], 0⟩] scope pos) (Ls R xs) := by
  have h := EvC.pair (elt := elt) (px := px) (py := py) (tp := tp) (kk := kk) (ifs := []) (pos := pos) (p := fun _ => true) (R := R) hh hiter (fun C m v v' a g' s' _ x _ _ _ _ _ => tests_nil x.sub rfl) (fun C m v v' a g' s' ha _ => helt C m v v' a g' s' ha) hsz hxy hclos hkind hnames hx hy hc1 hc2 hs
  rw [filter_true] at h
  exact h
end
section
variable {prog : Program} {w : World} {A : Around} {env : Env} {g : G} {s : Shared}
/-- enumerate over a written tuple -/
theorem EvI2.enum {α : Type} {np pos tp : Pos} {kk : Nat} {es : List Expr} {R : α → MP} {xs : List α} (hh : A.handled = none) (B : Base w s.heap) (ht : Ev prog w A env g s (.Tuple es kk tp) (Tu R xs))
    (hx : nsIn (KK w.params) mainGlobals (Str.ofString "enumerate") = some none := by rfl) (hg : env.globals = mainGlobals := by rfl) (hb : env.builtins = builtinsNs := by rfl)
    (hk : env.scope.kind = .function := by rfl) (hl : env.kindOf (Str.ofString "enumerate") = some .globalImplicit := by rfl) :
    EvI2 prog w A env g s (.Call (.Name (Str.ofString "enumerate") np) [.Tuple es kk tp] [] pos) (xs.zipIdx) (fun a => I (a.2 : Int)) (fun a => R a.1) := by
  intro g₁ s₁ x
  refine callAny (Ev.bu B hx boot_enumerate (by decide) hg hb hk hl) (fun s' k => Callee.type _) (EvL.cons ht EvL.nil) x fun g' s' vs y hp => ?_
  obtain ⟨v, rfl, q⟩ := paired1 hp
  obtain ⟨t, vs, n, rfl, hgt, hvs⟩ := q
  have hts := y.sub _ _ hgt
  refine call_enumerate_tup hts fun h₁ he hit hsz hk₁ => ⟨g', s', y, ?_⟩
  have hti : s'.heap.IsTuple t vs.toArray := ⟨_, hts, rfl, n, rfl⟩
  have htl : t < s'.heap.objs.size := Heap.lt_size hts
  refine wpAny_pyIter_enum he ?_
  have W := (WalksT.enumerateD (prog := prog) (w := w) (draws_tuple (A := A.in1) hh s'.heap.objs.size t (Nat.ne_of_lt htl) vs.toArray) (s'.heap.objs.size + 1) (Nat.succ_ne_self _) (by
      intro hm
      rcases List.mem_cons.mp hm with e | hm
      · exact Nat.succ_ne_self _ e
      · exact Nat.ne_of_gt (Nat.lt_succ_of_lt htl) (List.mem_singleton.mp hm)) (by simp)).toU
  have hlen : (xs.zipIdx).length = vs.toArray.size := by rw [List.length_zipIdx, List.size_toArray, Paired.length hvs]
  rw [← hlen] at W
  refine ⟨_, _, _, _, _, _, rfl, ⟨h₁, s'.toks, rfl, hk₁⟩, W, ?_, ?_, ?_, ⟨⟨_, he⟩, hit, hti.at fun o e => hk₁ _ _ e⟩, ?_, ?_⟩
  · rintro i vals ⟨a, j⟩ ⟨u, v, hv, rfl⟩ ha
    have ha' : xs[i]? = some a ∧ i = j := by
      rw [List.getElem?_zipIdx] at ha
      cases hxi : xs[i]? with
      | none => rw [hxi] at ha; cases ha
      | some b => rw [hxi] at ha; simp at ha; exact ⟨by rw [ha.1], ha.2⟩
    obtain ⟨ha1, rfl⟩ := ha'
    obtain ⟨b, hb, hr⟩ := Paired.get hvs ha1
    rw [List.getElem?_toArray, hb] at hv
    cases hv
    exact ⟨_, _, rfl, ⟨u, rfl⟩, hr⟩
  · intro b hb
    rcases List.mem_cons.mp hb with rfl | hb
    · exact fresh_none (Nat.le_succ _)
    · rcases List.mem_singleton.mp hb with rfl
      exact fresh_none (Nat.le_refl _)
  · intro b hb
    show b < h₁.objs.size
    rw [hsz]
    rcases List.mem_cons.mp hb with rfl | hb
    · exact Nat.lt_succ_self _
    · rcases List.mem_cons.mp hb with rfl | hb
      · exact Nat.lt_succ_of_lt (Nat.lt_succ_self _)
      · rcases List.mem_singleton.mp hb with rfl
        exact Nat.lt_succ_of_lt (Nat.lt_succ_of_lt htl)
  · rintro i h ⟨⟨old, he'⟩, ⟨o, ho, _⟩, _⟩ b hb
    rcases List.mem_cons.mp hb with rfl | hb
    · exact ⟨_, he'⟩
    · rcases List.mem_singleton.mp hb with rfl
      exact ⟨o, ho⟩
  · intro b hb
    rcases List.mem_cons.mp hb with rfl | hb
    · exact .inl List.mem_cons_self
    · rcases List.mem_cons.mp hb with rfl | hb
      · exact .inl (List.mem_cons_of_mem _ List.mem_cons_self)
      · rcases List.mem_singleton.mp hb with rfl
        exact .inr ⟨_, hgt⟩
end
end Mine
end
/-! ### Fn5 -/
section
open PySem PySem.Calls PyProof.Rows PySem.W
namespace Mine
section
variable {prog : Program} {w : World}

/-! the draws -/
theorem pickL_length {α : Type} (xs : List α) (lo hi st : Option Int) : (pickL xs lo hi st).length ≤ xs.length := by
  have h : ∀ ys : List α, Paired (fun (_ : α) (_ : Value) => True) ys (ys.map fun _ => Value.none) := fun ys => by
    induction ys with
    | nil => exact .nil
    | cons y r ih => exact .cons trivial ih
  have e := Paired.length (paired_pick (h xs) (sliceRange (sliceBounds lo hi st xs.length).1 (sliceBounds lo hi st xs.length).2.1 (sliceBounds lo hi st xs.length).2.2))
  have e2 : (pickL xs lo hi st).length = (pickL (xs.map fun _ => Value.none) lo hi st).length := by
    unfold pickL
    rw [List.length_map]
    exact e
  rw [e2]
  have := slicePick_size_le (xs.map fun _ => Value.none).toArray lo hi st
  rw [slicePick_pickL] at this
  simpa using this
def part (script : List Int) (k : Int) : List Int := pickL (pickL script none (some 12) none) (some k) none (some 3)
def starts : List Int := [11, 5, 6]
def drawn (script : List Int) : List Int := starts.zipIdx.map fun a => a.1 + ((part script (a.2 : Int)).map fun x => x.fmod 1000000).sum
theorem fn_drawn {script : List Int} (hl : script.length ≤ 63) : Fn prog w (Base w) 1 215 [Ls I script] (Ls I (drawn script)) := by
  have hfd : fnAt (KK w.params) 215 = some _ := rfl
  refine Fn.k (n := 0) (binds := fun vs => [(Str.ofString "script", vs[0]!)]) hfd rfl rfl ?_ ?_ ?_
  · intro g vs h
    obtain ⟨v, rfl, _⟩ := paired1 h
    rfl
  · intro g vs L h x hx
    rcases List.mem_singleton.mp hx with rfl
    exact .inr ⟨rfl, rfl⟩
  · intro A g s vs L s₁ hA B B₁ h F
    obtain ⟨v, rfl, p⟩ := paired1 h
    have hc : s₁.heap.IsCell (L + 1) (some v) := F.x.cell (Str.ofString "script") _ rfl
    refine xs_ret (P := Ls I (drawn script)) F (Ev.weak (EvC.ev (EvC.pair0 (R := fun a => I (a.1 + ((part script (a.2 : Int)).map fun x => x.fmod 1000000).sum)) hA.handled (EvI2.enum (xs := starts) (R := I) hA.handled B₁ (Ev.tup (EvL.cons Ev.cInt (EvL.cons Ev.cInt (EvL.cons Ev.cInt EvL.nil))) (by decide)))
      (fun C m v₁ v₂ a g' s' ha x hn hm hm' hv hv' => ?_) (by decide))) fun g v q => Ls.map.mp q) fun v g' s' x q => ⟨v, g', rfl, x, q⟩
    have hl2 : (pickL script none (some 12) none).length ≤ 63 := Nat.le_trans (pickL_length ..) hl
    refine Ev.bin (Ev.nLocal hn hm' hv') (Ev.bui (B₁.ext x) (EvL.cons (EvC.comp0 (xs := part script (a.2 : Int)) (It := I) (R := fun x => I (x.fmod 1000000))
      (Ev.iter (Ev.listSlice (Ev.listSlice (Ev.nCell rfl (hc.keeps (kget x.keeps)) ((Ls I script).up x.le p)) EvP.no (EvP.yes Ev.cInt) EvP.no (by decide) (Nat.le_trans hl (by decide))) (EvP.yes (Ev.nLocal hn hm hv)) EvP.no (EvP.yes Ev.cInt) (by decide) (Nat.le_trans hl2 (by decide))) fun g s v hg hp => Itb.list hA.handled hg hp)
      (fun C' m' vk k g'' s'' hk x' hn' hmk hvk => ?_) (Nat.le_trans (pickL_length ..) (Nat.le_trans hl2 (by decide)))).ev EvL.nil) (fun g' s' vs x hp => ?_) rfl) fun g s a b => op_add
    · exact Ev.bin (Ev.nLocal hn' hmk hvk) Ev.cInt fun g s a b => op_mod (by decide)
    · obtain ⟨v, rfl, q⟩ := paired1 hp
      exact op_sum hA.handled x.sub (Ls.map.mp q)
end
end Mine
end
/-! ### Sort1 -/
section
open PySem PySem.Calls PyProof.Rows PySem.W
namespace Mine
open PySem.AutoSeq1 (wpAny_loadPart')
open PySem.MeetsSeq PySem.MeetsSeq2 PySem.MeetsSeq3 PySem.SeqAt

/-! lists of numbers, compared -/
def ltL : List Int → List Int → Bool
  | a :: r, b :: t => if a == b then ltL r t else decide (a < b)
  | _, _ => false
theorem lt_loop (l b : Addr) (items items2 : Array Value) (n n2 : Nat) (ns ms : List Int) (hi : Paired (fun (x : Int) v => ∃ t, v = Value.int x t) ns items.toList) (hj : Paired (fun (x : Int) v => ∃ t, v = Value.int x t) ms items2.toList)
    (hsz : ns.length = ms.length) (k : Nat) :
    ∀ i : Nat, i ≤ items.size → items.size - i = k → Meets (Builtin.«list.__eq__.loop» ⟨[.ref l, .ref b, rawInt i, rawInt 0], []⟩)
      (fun A R s => s.heap.get? l = some { cls := .type "list", dict := none, data := .seq items n, slots := #[] } ∧ s.heap.get? b = some { cls := .type "list", dict := none, data := .seq items2 n2, slots := #[] } ∧
        R (.ok (.ret (.bool (ltL (ns.drop i) (ms.drop i))))) s) := by
  have h1 : ns.length = items.size := by rw [Paired.length hi, Array.length_toList]
  have h2 : ms.length = items2.size := by rw [Paired.length hj, Array.length_toList]
  induction k with
  | zero =>
    intro i hle hk prog w A R s h
    obtain ⟨hp, g, d, tk, os⟩ := s; obtain ⟨hl, hb, h⟩ := h
    wp_walk using wpAny_loadPart' hl, wpAny_loadPart' hb
    have hi1 : items[((i : Nat) : Int).toNat]? = none := by simp; omega
    have hi2 : items2[((i : Nat) : Int).toNat]? = none := by simp; omega
    have hd : ns.drop i = [] := by simp; omega
    rw [hd] at h
    rw [hi1, hi2]
    wp_walk using wpAny_loadPart' hl, wpAny_loadPart' hb
    show R (.ok (.ret (.bool (decide (items.size < items2.size))))) _
    have e : decide (items.size < items2.size) = false := by simp; omega
    rw [e]
    exact h
  | succ k ih =>
    intro i hle hk prog w A R s h
    obtain ⟨hp, g, d, tk, os⟩ := s; obtain ⟨hl, hb, h⟩ := h
    wp_walk using wpAny_loadPart' hl, wpAny_loadPart' hb
    have hlt : i < items.size := by omega
    have hlt2 : i < items2.size := by omega
    have hn : i < ns.length := by omega
    have hm : i < ms.length := by omega
    obtain ⟨v, hv, t, e1⟩ := Paired.get hi (List.getElem?_eq_getElem hn)
    obtain ⟨v', hv', t', e2⟩ := Paired.get hj (List.getElem?_eq_getElem hm)
    subst e1 e2
    have hi1 : items[((i : Nat) : Int).toNat]? = some (.int ns[i] t) := by rw [Int.toNat_natCast, ← Array.getElem?_toList]; exact hv
    have hi2 : items2[((i : Nat) : Int).toNat]? = some (.int ms[i] t') := by rw [Int.toNat_natCast, ← Array.getElem?_toList]; exact hv'
    have hd : ns.drop i = ns[i] :: ns.drop (i + 1) := List.drop_eq_getElem_cons hn
    have hd2 : ms.drop i = ms[i] :: ms.drop (i + 1) := List.drop_eq_getElem_cons hm
    have hc : ((i : Int) + 1) = ((i + 1 : Nat) : Int) := by push_cast; rfl
    rw [hd, hd2] at h
    unfold ltL at h
    rw [hi1, hi2]
    refine wpAny_bind (EqAt.int_int _ _ _ _ prog w _ _ ?_)
    cases hb' : ns[i] == ms[i] with
    | true =>
      rw [hb', if_pos rfl] at h
      wp_walk
      rw [hc]
      exact ⟨plainId_quiet plain_eq_loop _, codeAny_builtin entry_eq_loop (by
        rw [Around.under_plainId plain_eq_loop _]
        exact ih (i + 1) (by omega) (by omega) prog w A R _ ⟨hl, hb, h⟩)⟩
    | false =>
      rw [hb', if_neg (by simp)] at h
      wp_walk using wpAny_loadPart' hl, wpAny_loadPart' hb
      rw [hi1, hi2]
      show wpAny _ _ (compareOp .Lt (.int ns[i] t) (.int ms[i] t') >>= _) _ _ _
      refine wpAny_bind (wpAny_lt_int ?_)
      wp_walk
      exact h

theorem list_ltAt (l b : Addr) (items items2 : Array Value) (n n2 : Nat) (ns ms : List Int) (hi : Paired (fun (x : Int) v => ∃ t, v = Value.int x t) ns items.toList) (hj : Paired (fun (x : Int) v => ∃ t, v = Value.int x t) ms items2.toList)
    (hsz : ns.length = ms.length) :
    Meets (Builtin.«list.__lt__» ⟨[.ref l, .ref b], []⟩)
      (fun A R s => s.heap.get? l = some { cls := .type "list", dict := none, data := .seq items n, slots := #[] } ∧ s.heap.get? b = some { cls := .type "list", dict := none, data := .seq items2 n2, slots := #[] } ∧
        R (.ok (.ret (.bool (ltL ns ms)))) s) := by
  intro prog w A R s h
  obtain ⟨hp, g, d, tk, os⟩ := s; obtain ⟨hl, hb, h⟩ := h
  have f3 := AutoSeq1.sub_list_list
  wp_walk using wpAny_loadPart' hl, wpAny_loadPart' hb
  exact ⟨plainId_quiet plain_eq_loop _, codeAny_builtin entry_eq_loop (by
    rw [Around.under_plainId plain_eq_loop _]
    exact lt_loop l b items items2 n n2 ns ms hi hj hsz _ 0 (Nat.zero_le _) rfl prog w A R _ ⟨hl, hb, by simpa using h⟩)⟩
end Mine
end
/-! ### Sort2 -/
section
open PySem PySem.Calls PyProof.Rows PySem.W
namespace Mine
section
variable {prog : Program} {w : World} {A : Around} {E : Value → Shared → Prop} {s : Shared}
abbrev IntsOf (ns : List Int) (vs : List Value) : Prop := Paired (fun (x : Int) v => ∃ t, v = Value.int x t) ns vs

theorem one_lt_lists {l b : Addr} {xs ys : List Value} {n n2 : Nat} {ns ms : List Int} {Q : Bool → Shared → Prop} (hl : s.heap.get? l = some (lstObj xs n)) (hb : s.heap.get? b = some (lstObj ys n2)) (hi : IntsOf ns xs) (hj : IntsOf ms ys)
    (hsz : ns.length = ms.length) (hu : A.units < cLine) (h : Q (ltL ns ms) s) : wpAny (model prog w) A (oneLt' true (.ref l) (.ref b)) Q E s := by
  rw [oneLt'_eq]
  simp only [if_true]
  refine wpAny_bind (wpAny_cRoomFor hu ?_)
  refine wpAny_bind (wpAny_callSpecialIfBound?_slot (id := "list.__lt__") (T := "list") ⟨_, hl, rfl⟩ F.slot_list_lt (call_meets F.slot_list_lt ⟨_, hl, rfl⟩ F.entry_list_lt (F.args_list_lt_2 _ _) (list_ltAt l b xs.toArray ys.toArray n n2 ns ms hi hj hsz) ⟨hl, hb, ?_⟩))
  exact wpAny_truthy_bool h

/-- the questions a sort asks, answered -/
def runAsk {α : Type} (n : Nat) (lt : Nat → Nat → Bool) : KasT α → Option α
  | .ret a => some a
  | .ask i j k => if i < n ∧ j < n then runAsk n lt (k (lt i j)) else none
theorem kasWp_run {α : Type} {κ : SortKind} {it : Array Keyed} {n : Nat} {lt : Nat → Nat → Bool} {Q : α → Shared → Prop} (hlt : ∀ i j, i < n → j < n → ∀ C : Bool → Shared → Prop, C (lt i j) s → kas_cmp prog w A κ it i j C s) :
    ∀ (t : KasT α) (a : α), runAsk n lt t = some a → Q a s → t.kasWp (kas_cmp prog w A κ it) Q s
  | .ret a, b, h, hq => by cases h; exact hq
  | .ask i j k, b, h, hq => by
    unfold runAsk at h
    split at h
    · rename_i hij
      exact hlt i j hij.1 hij.2 _ (kasWp_run hlt (k (lt i j)) b h hq)
    · cases h

/-- the order a sort finds -/
def sortIdx (n : Nat) (lt : Nat → Nat → Bool) : Option (Array Nat) := if n < 2 then some (List.range n).toArray else runAsk n lt (kas_sort n)

theorem list_sort_lists {a : Addr} {vs : List Value} {n : Nat} {xss : List (List Int)} {p : Array Nat} {P : PySem.Fin → Shared → Prop} (ho : s.heap.get? a = some (seqObj "list" vs.toArray n))
    (hv : Paired (fun (ns : List Int) v => ∃ b us k, v = Value.ref b ∧ b ≠ a ∧ s.heap.get? b = some (lstObj us k) ∧ IntsOf ns us) xss vs) (hlen : ∀ x ∈ xss, x.length = 4)
    (h64 : vs.length < 64) (hu : A.units < cLine) (hp : sortIdx xss.length (fun i j => ltL (xss.getD i []) (xss.getD j [])) = some p)
    (h : P (.done (.ret .none)) { s with heap := sortedHeap s.heap a vs (p.toList.map fun i => vs.getD i Value.none).toArray }) :
    wpAny (model prog w) A (Builtin.«list.sort» ⟨[.ref a], []⟩) P E s := by
  rw [list_sort_plain]
  have hlv : xss.length = vs.length := Paired.length hv
  have ha : a < s.heap.objs.size := Heap.lt_size ho
  refine wpAny_bind (listItems_at ho rfl ?_)
  refine wpAny_bind (listUpdate_at ho rfl ?_ (by rw [List.size_toArray, sizeLine_eq]; omega) (Nat.zero_le _))
  obtain ⟨e1, ho1⟩ : ∃ e1, (s.heap.update a (Obj.mapSeq fun _ => #[])).get? a = some (seqObj "list" #[] e1) := ⟨_, get?_update_seq ho (fun _ => #[])⟩
  refine wpAny_bind (seqEpoch_at ho1 rfl ?_)
  refine wpAny_bind (wpAny_newTuple ?_ (by show vs.length ≤ _; rw [sizeLine_eq]; omega))
  refine wpAny_bind (wpAny_newList ?_ (Nat.zero_le _))
  refine wpAny_holding ?_
  have keep : ∀ b o, b ≠ a → s.heap.get? b = some o → (((s.heap.update a (Obj.mapSeq fun _ => #[])).push (seqObj "tuple" vs.toArray 0)).push (seqObj "list" #[] 0)).get? b = some o := fun b o hb e =>
    Heap.get?_push_of_some _ (Heap.get?_push_of_some _ (by rw [Heap.get?_update_ne _ _ _ _ hb]; exact e))
  have ho6 : (((s.heap.update a (Obj.mapSeq fun _ => #[])).push (seqObj "tuple" vs.toArray 0)).push (seqObj "list" #[] 0)).get? a = some (seqObj "list" #[] e1) := Heap.get?_push_of_some _ (Heap.get?_push_of_some _ ho1)
  show wpAny (model prog w) A _ P E { s with heap := ((s.heap.update a (Obj.mapSeq fun _ => #[])).push (seqObj "tuple" vs.toArray 0)).push (seqObj "list" #[] 0) }
  dsimp only
  have hsz : vs.toArray.size = vs.length := by simp
  have fin := h
  by_cases h2 : vs.toArray.size < 2
  · rw [if_pos h2, if_pos h2]
    refine wpAny_bind (wpAny_pure ?_)
    rw [StateT.run_pure]
    refine wpAny_bind (wpAny_pure ?_)
    dsimp only
    refine wpAny_bind (seqEpoch_at ho6 rfl ?_)
    refine wpAny_bind (listUpdate_at ho6 rfl ?_ (Nat.zero_le _) (hsz2 := by rw [Array.size_map]; show (pairsOf vs).size ≤ _; rw [pairsOf_size, sizeLine_eq]; omega))
    simp only [bne_self_eq_false, Bool.false_eq_true, if_false]
    have e : p = (List.range vs.length).toArray := by
      unfold sortIdx at hp
      rw [if_pos (by omega), hlv] at hp
      exact (Option.some.inj hp).symm
    have e2 : (p.toList.map fun i => vs.getD i Value.none).toArray = (arrOf (SortSt.mk' general' (vs.toArray.zip vs.toArray) #[] 7 none)).map (·.2) := by
      rw [e]
      apply Array.toList_inj.mp
      show (List.range vs.length).map (fun i => vs.getD i Value.none) = ((vs.toArray.zip vs.toArray).map (·.2)).toList
      rw [Array.toList_map, Array.toList_zip]
      apply List.ext_getElem?
      intro i
      by_cases hi : i < vs.length
      · simp [hi]
      · simp [Nat.le_of_not_lt hi]
    rw [e2] at fin
    exact wpAny_pure fin
  · rw [if_neg h2, if_neg h2]
    have h2' : 2 ≤ vs.length := by omega
    refine wpAny_bind (kas_kind (T := .type "list") h2' (fun v hvm => ?_) rfl rfl ?_)
    · obtain ⟨i, hi, rfl⟩ := List.mem_iff_getElem.mp hvm
      obtain ⟨x, hx, b, us, k, e, hb, hbo, _⟩ := Paired.get' hv (List.getElem?_eq_getElem hi)
      rw [e]
      intro A' Q' E' s' k' hq
      exact wpAny_typeOf (T := "list") ⟨_, k' _ _ (keep _ _ hb hbo), rfl⟩ hq
    have est : SortSt.mk' oneType' (vs.toArray.zip vs.toArray) #[] 7 none = kas_st oneType' (pairsOf vs) (List.toArray (List.range vs.length)) := by
      have e := kas_range (pairsOf vs)
      rw [pairsOf_size] at e
      show SortSt.mk' oneType' (pairsOf vs) #[] 7 none = SortSt.mk' oneType' ((List.toArray (List.range vs.length)).map (kas_item (pairsOf vs))) #[] 7 none
      rw [e]
    have ask : (kas_sort vs.length).kasWp (kas_cmp prog w A oneType' (pairsOf vs)) (fun q s' => q = p ∧ s' = { s with heap := ((s.heap.update a (Obj.mapSeq fun _ => #[])).push (seqObj "tuple" vs.toArray 0)).push (seqObj "list" #[] 0) })
        { s with heap := ((s.heap.update a (Obj.mapSeq fun _ => #[])).push (seqObj "tuple" vs.toArray 0)).push (seqObj "list" #[] 0) } := by
      refine kasWp_run (n := xss.length) (lt := fun i j => ltL (xss.getD i []) (xss.getD j [])) (fun i j hi hj C hc => ?_) _ p ?_ ⟨rfl, rfl⟩
      · unfold kas_cmp
        rw [kas_item_eq, kas_item_eq, keyLt'_oneType]
        obtain ⟨v, hvi, b, us, k, e, hb, hbo, hI⟩ := Paired.get hv (List.getElem?_eq_getElem hi)
        obtain ⟨v', hvj, b', us', k', e', hb', hbo', hI'⟩ := Paired.get hv (List.getElem?_eq_getElem hj)
        have q1 : vs.getD i Value.none = .ref b := by rw [List.getD_eq_getElem?_getD, hvi, e]; rfl
        have q2 : vs.getD j Value.none = .ref b' := by rw [List.getD_eq_getElem?_getD, hvj, e']; rfl
        dsimp only
        rw [q1, q2]
        refine one_lt_lists (keep _ _ hb hbo) (keep _ _ hb' hbo') hI hI' (by rw [hlen _ (List.getElem_mem hi), hlen _ (List.getElem_mem hj)]) hu ?_
        have r1 : xss.getD i [] = xss[i] := by rw [List.getD_eq_getElem?_getD, List.getElem?_eq_getElem hi]; rfl
        have r2 : xss.getD j [] = xss[j] := by rw [List.getD_eq_getElem?_getD, List.getElem?_eq_getElem hj]; rfl
        rw [← r1, ← r2]
        exact hc
      · unfold sortIdx at hp
        rw [if_neg (by omega)] at hp
        rw [← hlv]
        exact hp
    have run := kas_runs (E := E) (Q := fun _ st' s' => arrOf st' = p.map (kas_item (pairsOf vs)) ∧ p.size = vs.length ∧ failedOf st' = none ∧ s' = { s with heap := ((s.heap.update a (Obj.mapSeq fun _ => #[])).push (seqObj "tuple" vs.toArray 0)).push (seqObj "list" #[] 0) })
      h2' h64 (fun p' st' s' a1 a2 a3 a4 => ⟨by rw [← a4.1]; exact a2, by rw [← a4.1]; exact a1, a3, a4.2⟩) ask
    rw [← est] at run
    refine wpAny_bind (wpAny_mono run ?_ fun _ _ e => e)
    rintro ⟨⟨⟩, st'⟩ s' ⟨har, hps, hf, rfl⟩
    dsimp only
    have hout : (arrOf st').map (·.2) = List.toArray (p.toList.map fun i => vs.getD i Value.none) := by
      apply Array.toList_inj.mp
      rw [har, Array.map_map, Array.toList_map]
      exact List.map_congr_left fun i _ => by show (kas_item (pairsOf vs) i).2 = _; rw [kas_item_eq]
    have hszo : (List.toArray (p.toList.map fun i => vs.getD i Value.none)).size = vs.length := by rw [List.size_toArray, List.length_map, Array.length_toList, hps]
    rw [hout]
    refine wpAny_bind (seqEpoch_at ho6 rfl ?_)
    refine wpAny_bind (listUpdate_at ho6 rfl ?_ (Nat.zero_le _) (Nat.le_trans (Nat.le_of_eq hszo) (by rw [sizeLine_eq]; omega)))
    rw [hf]
    simp only [bne_self_eq_false, Bool.false_eq_true, if_false]
    exact wpAny_pure fin
end
end Mine
end
/-! ### Sort3 -/
section
open PySem PySem.Calls PyProof.Rows PySem.W
namespace Mine
section
variable {prog : Program} {w : World} {A : Around} {E : Value → Shared → Prop} {s : Shared} {g : G}
/-- what sorted lays before it sorts: the new list, its items drawn, and the copy that is sorted -/
def drawnInto (h : Heap) (vs : List Value) : Heap := (h.push (seqObj "list" #[] 0)).update h.objs.size (Obj.mapSeq (· ++ vs.toArray))
def gather (h : Heap) (vs : List Value) : Heap := (drawnInto h vs).push (seqObj "list" vs.toArray 0)
theorem drawnInto_size (h : Heap) (vs : List Value) : (drawnInto h vs).objs.size = h.objs.size + 1 := (Heap.size_update ..).trans (Heap.size_push ..)
theorem gather_new (h : Heap) (vs : List Value) : (gather h vs).get? (h.objs.size + 1) = some (seqObj "list" vs.toArray 0) := drawnInto_size h vs ▸ Heap.get?_push_size _ rfl
theorem gather_old {h : Heap} {vs : List Value} {b : Addr} {o : Obj} (e : h.get? b = some o) : (gather h vs).get? b = some o :=
  Heap.get?_push_of_some _ ((Heap.get?_update_ne _ _ _ _ (Nat.ne_of_lt (Heap.lt_size e))).trans (Heap.get?_push_of_some _ e))
theorem sorted_lists {l : Addr} {vs : List Value} {xss : List (List Int)} {p : Array Nat} {Q : Value → Shared → Prop} (hl : s.heap.IsList l vs.toArray)
    (hv : Paired (fun (ns : List Int) v => ∃ b us k, v = Value.ref b ∧ s.heap.get? b = some (lstObj us k) ∧ IntsOf ns us) xss vs) (hlen : ∀ x ∈ xss, x.length = 4)
    (h64 : vs.length < 64) (hu : A.units + 2 < cLine) (hp : sortIdx xss.length (fun i j => ltL (xss.getD i []) (xss.getD j [])) = some p)
    (h : Q (.ref (s.heap.objs.size + 1)) { s with heap := sortedAll s.heap vs (p.toList.map fun i => vs.getD i Value.none).toArray }) :
    wpAny (model prog w) A (PySem.call (.builtin "sorted") [.ref l]) Q E s := by
  have hz : vs.length ≤ sizeLine := by rw [sizeLine_eq]; omega
  have body := list_sort_lists (prog := prog) (w := w) (A := A.in1.in1) (E := E) (s := { s with heap := gather s.heap vs }) (P := fun fin s' => ∃ v, fin = .done (.ret v) ∧ wpAny (model prog w) A.in1 (ret (.ref (s.heap.objs.size + 1))) (fun fin s' => ∃ v, fin = .done (.ret v) ∧ Q v s') E s')
    (gather_new s.heap vs) (Paired.mono (fun ns v ⟨b, us, k, e, hb, hI⟩ => ⟨b, us, k, e, Nat.ne_of_lt (Nat.lt_succ_of_lt (Heap.lt_size hb)), gather_old hb, hI⟩) hv) hlen h64 (by show A.units + 1 + 1 < cLine; omega) hp ⟨_, rfl, wpAny_pure ⟨_, rfl, h⟩⟩
  refine Calls.call_function_entry kind_sorted plain_sorted entry_sorted (args_sorted1 _) (wpAny_bind (m := checkCount "sorted" 1 1 _) (wpAny_pure (wpAny_bind (collect_list hl (wpAny_bind (wpAny_newList ?_ (by simpa using hz))) (by simpa using hz)))))
  show wpAny _ _ (holding _ (PySem.call (.builtin "list.sort") [.ref (drawnInto s.heap vs).objs.size] []) >>= fun _ => ret (.ref (drawnInto s.heap vs).objs.size)) _ _ { s with heap := gather s.heap vs }
  rw [drawnInto_size]
  exact wpAny_bind (wpAny_holding (wpAny_call_entry slot_list_sort ⟨_, gather_new s.heap vs, rfl⟩ entry_list_sort body (args_list_sort _)))

def ordered (xss : List (List Int)) : Option (List (List Int)) := match sortIdx xss.length (fun i j => ltL (xss.getD i []) (xss.getD j [])) with
  | some p => if p.toList.all (· < xss.length) then some (p.toList.map fun i => xss.getD i []) else none
  | none => none
theorem Paired.mapR {α β γ : Type} {F : α → β → Prop} (f : γ → α) (f' : γ → β) : ∀ l : List γ, (∀ c ∈ l, F (f c) (f' c)) → Paired F (l.map f) (l.map f')
  | [], _ => .nil
  | c :: l, h => .cons (h c List.mem_cons_self) (Paired.mapR f f' l fun c hc => h c (List.mem_cons_of_mem _ hc))
theorem op_sorted {xss yss : List (List Int)} {v : Value} (ho : ordered xss = some yss) (hlen : ∀ x ∈ xss, x.length = 4) (h64 : xss.length < 64) (hu : A.units + 2 < cLine) (hg : Sub g s) (h : (Ls (Ls I) xss).p g v) :
    Op prog w A (PySem.call (.builtin "sorted") [v]) g s (Ls (Ls I) yss) := by
  obtain ⟨a, vs, n, rfl, ha, hp⟩ := h
  unfold ordered at ho
  split at ho
  · rename_i p hpi
    split at ho
    · rename_i hall
      cases ho
      have hlv : xss.length = vs.length := Paired.length hp
      refine sorted_lists (lst_isList hg ha) (Paired.mono (fun ns v ⟨b, us, k, e, hb, hI⟩ => ⟨b, us, k, e, hg _ _ hb, hI⟩) hp) hlen (by omega) hu hpi ?_
      obtain ⟨e, he⟩ := sortedAll_at s.heap vs (p.toList.map fun i => vs.getD i Value.none).toArray
      have x : Ext g s g { s with heap := sortedAll s.heap vs (p.toList.map fun i => vs.getD i Value.none).toArray } := Ext.keep hg ⟨_, s.toks, rfl, fun b o q => sortedAll_old q⟩
      have hn : s.heap.get? (s.heap.objs.size + 1) = none := fresh_none (Nat.le_succ _)
      have hgn := sub_none hg hn
      refine ⟨_, x.put hn hgn he, s.heap.objs.size + 1, _, e, rfl, G.put_self _ _ _, ?_⟩
      refine Paired.mapR _ _ _ fun i hi => ?_
      have hi' : i < xss.length := by
        rw [List.all_eq_true] at hall
        simpa using hall i hi
      obtain ⟨v, hv, q⟩ := Paired.get hp (List.getElem?_eq_getElem hi')
      have r1 : xss.getD i [] = xss[i] := by rw [List.getD_eq_getElem?_getD, List.getElem?_eq_getElem hi']; rfl
      have r2 : vs.getD i Value.none = v := by rw [List.getD_eq_getElem?_getD, hv]; rfl
      rw [r1, r2]
      exact (Ls I xss[i]).up (G.put_le hgn) q
    · cases ho
  · cases ho
end
end Mine
end
/-! ### Core12 -/
section
open PySem PySem.Calls PyProof.Rows
namespace Mine
section
variable {prog : Program} {w : World} {A : Around} {env : Env} {g : G} {s : Shared}
theorem EvT.and2 {l r : Expr} {pos : Pos} {c d : Bool} (h1 : EvT prog w A env g s l c) (h2 : c = true → EvT prog w A env g s r d) : EvT prog w A env g s (.BoolOp .And [l, r] pos) (c && d) :=
  fun g₁ s₁ y => isTrue_and (wpAny_mono (h1 g₁ s₁ y) (fun q s₂ ⟨hq, g₂, z⟩ => by
    subst hq
    cases q with
    | false => exact ⟨rfl, g₂, z⟩
    | true => exact isTrue_and (wpAny_mono (h2 rfl g₂ s₂ (y.tr z)) (fun q s₃ ⟨hq, g₃, u⟩ => by
        subst hq
        cases q with
        | false => exact ⟨rfl, g₃, z.tr u⟩
        | true => exact isTrue_and_nil ⟨rfl, g₃, z.tr u⟩) fun _ _ f => f)) fun _ _ f => f)
end
section
variable {prog : Program} {w : World} {A : Around} {env : Env} {g₀ g : G} {s₀ s : Shared} {m cm : Str → Option Value} {pv : List (Addr × Obj)}
theorem Fs.gone (F : Fs pv g₀ s₀ env m cm g s) {D : Addr} (h : s.heap.get? D = none) : s₀.heap.get? D = none := by
  cases e : s₀.heap.get? D with
  | none => rfl
  | some o => rw [F.keep D o e] at h; cases h
/-- one more object of the def's own -/
theorem Fs.own (F : Fs pv g₀ s₀ env m cm g s) (o : Obj) {s' : Shared} (y : Ext g s g s') {D : Addr} (hn : s.heap.get? D = none) (hd : s'.heap.get? D = some o) : Fs ((D, o) :: pv) g₀ s₀ env m cm g s' := by
  have F' := F.step y
  refine ⟨F'.x, F'.le, F'.sub, F'.new, F'.fr, F'.frc, fun p hp => ?_⟩
  rcases List.mem_cons.mp hp with rfl | hp
  · refine ⟨hd, sub_none F.sub hn, ?_, fun n c hc e => ?_, F.gone hn⟩
    · rintro rfl
      obtain ⟨o', ho'⟩ := F.alive
      rw [hn] at ho'; cases ho'
    · subst e
      obtain ⟨o', ho', _⟩ := F.x.cell n c hc
      rw [hn] at ho'; cases ho'
  · exact F'.held p hp
/-- an own list, from now on data -/
theorem Fs.publish {D : Addr} {o : Obj} (F : Fs ((D, o) :: pv) g₀ s₀ env m cm g s) (hpv : ∀ p ∈ pv, p.1 ≠ D) : Fs pv g₀ s₀ env m cm (g.put D o) s ∧ GLe g (g.put D o) := by
  obtain ⟨h1, h2, h3, h4, h5⟩ := F.held (D, o) List.mem_cons_self
  have hle := G.put_le (o := o) h2
  refine ⟨⟨F.x, fun b o' e => hle b o' (F.le b o' e), fun b o' e => ?_, fun b o' e => ?_, ?_, fun n c hc => ?_, fun p hp => ?_⟩, hle⟩
  · unfold G.put at e
    split at e
    · rename_i hb; subst hb; cases e; exact h1
    · exact F.sub b o' e
  · unfold G.put at e
    split at e
    · rename_i hb; subst hb; exact .inr h5
    · exact F.new b o' e
  · unfold G.put; rw [if_neg (Ne.symm h3)]; exact F.fr
  · unfold G.put; rw [if_neg (h4 n c hc)]; exact F.frc n c hc
  · obtain ⟨a1, a2, a3⟩ := F.held p (List.mem_cons_of_mem _ hp)
    refine ⟨a1, ?_, a3⟩
    unfold G.put; rw [if_neg (hpv p hp)]; exact a2
theorem xs_newList {x : Str} {px lp pos : Pos} {rest : List Stmt} {Q : Flow → Shared → Prop} (F : Fs pv g₀ s₀ env m cm g s)
    (kk : ∀ D n s', Fs ((D, lstObj [] n) :: pv) g₀ s₀ env (upd m x (.ref D)) cm g s' → (∀ p ∈ pv, p.1 ≠ D) → XS prog w A env rest Q s')
    (hl : env.kindOf x = some .local := by rfl) (hk : env.scope.kind = .function := by rfl) (hs : swapsWith (.List [] lp) (some (.Name x px)) pos.line env = pure false := by rfl) :
    XS prog w A env (.Assign [.Name x px] (.List [] lp) pos :: rest) Q s := by
  refine wpAny_execs_cons (wpAny_Assign_Name (wpAny_List_spliced (spliced_nil ⟨Nat.zero_le _, ?_⟩)) hs)
  have hn : s.heap.get? s.heap.objs.size = none := fresh_none (Nat.le_refl _)
  have z : Ext g s g { s with heap := s.heap.push { cls := .type "list", data := .seq ([] : List Value).toArray } } := Ext.keep F.sub (push_keeps s _)
  refine (F.own (lstObj [] 0) z hn (Heap.get?_push_size _ rfl)).stL hl hk fun s' F' => kk _ 0 s' F' fun p hp e => ?_
  have := (F.held p hp).1
  rw [e, hn] at this; cases this
end
end Mine
end
/-! ### Fn6 -/
section
open PySem PySem.Calls PyProof.Rows PySem.W
namespace Mine
section
variable {prog : Program} {w : World}

/-! the plain rows -/
def bitsOf (x : Int) : List Int := (numsFrom 0 4).map fun k => Builtin.bitAnd (x.fdiv (2 ^ k.toNat)) 1
def whichOf (z : List Int) : Int := if z.sum == 2 && z.getD 0 0 == z.getD 2 0 then 3 else ([0, 1, 2, 4, 0] : List Int).getD z.sum.toNat 0
def keeps (kinds x : Int) : Bool := Builtin.bitAnd (kinds.fdiv (2 ^ (whichOf (bitsOf x)).toNat)) 1 == (if (bitsOf x).sum == 0 then 0 else 1)
def plainRows (kinds : Int) (i : Nat) : List (List Int) := (((numsFrom 0 16).take i).filter (keeps kinds)).map bitsOf
theorem plainRows_succ {kinds : Int} {i : Nat} {x : Int} (h : (numsFrom 0 16)[i]? = some x) : plainRows kinds (i + 1) = plainRows kinds i ++ (if keeps kinds x = true then [bitsOf x] else []) := by
  unfold plainRows
  rw [take_snoc h, List.filter_append, List.map_append]
  congr 1
  by_cases e : keeps kinds x = true
  · simp [List.filter, e]
  · simp [List.filter, e]
theorem bits_ok : ∀ x : Fin 16, 0 ≤ (bitsOf (x.val : Nat)).sum ∧ (bitsOf (x.val : Nat)).sum < 5 ∧ 0 ≤ whichOf (bitsOf (x.val : Nat)) := by decide +kernel
theorem nums_nat {n i : Nat} {a : Int} (h : (numsFrom 0 n)[i]? = some a) : a = (i : Int) ∧ i < n := by
  unfold numsFrom at h
  rw [List.getElem?_map] at h
  by_cases hi : i < n
  · rw [List.getElem?_range hi] at h
    simp at h
    exact ⟨h.symm, hi⟩
  · rw [List.getElem?_eq_none (by simpa using hi)] at h
    cases h
theorem plainRows_len {kinds : Int} {i : Nat} : (plainRows kinds i).length ≤ 16 := by
  unfold plainRows
  rw [List.length_map]
  refine Nat.le_trans (List.length_filter_le ..) ?_
  rw [List.length_take]
  simp [numsFrom]
  omega
theorem plainRows_four {kinds : Int} {i : Nat} : ∀ x ∈ plainRows kinds i, x.length = 4 := by
  intro x hx
  unfold plainRows at hx
  obtain ⟨y, _, rfl⟩ := List.mem_map.mp hx
  simp [bitsOf, numsFrom]
theorem Paired.snoc {α β : Type} {F : α → β → Prop} {a : α} {b : β} (h : F a b) : ∀ {l : List α} {l' : List β}, Paired F l l' → Paired F (l ++ [a]) (l' ++ [b])
  | _, _, .nil => .cons h .nil
  | _, _, .cons x r => .cons x (Paired.snoc h r)
abbrev RowsOf (g : G) (rows : List (List Int)) (ys : List Value) : Prop := Paired (fun r v => (Ls I r).p g v) rows ys

theorem fn_plain {kinds : Nat} {yss : List (List Int)} (ho : ordered (plainRows kinds 16) = some yss) : Fn prog w (Base w) 2 235 [I (kinds : Int)] (Ls (Ls I) yss) := by
  have hfd : fnAt (KK w.params) 235 = some _ := rfl
  refine Fn.k (n := 1) (binds := fun vs => [(Str.ofString "kinds", vs[0]!)]) hfd rfl rfl ?_ ?_ ?_
  · intro g vs h
    obtain ⟨v, rfl, _⟩ := paired1 h
    rfl
  · intro g vs L h x hx
    rcases List.mem_singleton.mp hx with rfl
    exact .inl rfl
  · intro A g s vs L s₁ hA B B₁ h F
    obtain ⟨v, rfl, p⟩ := paired1 h
    refine xs_newList F fun D n s₂ F₁ _ => ?_
    have B₂ := F₁.base B
    refine xs_forC (It := I) (xs := numsFrom 0 16) (fun i m cm g pv => ∃ ys n t, pv = [(D, lstObj ys n)] ∧ m (Str.ofString "told") = some (.ref D) ∧ m (Str.ofString "kinds") = some (.int (kinds : Int) t) ∧ RowsOf g (plainRows kinds i) ys)
      (fun i m cm g g' pv le ⟨ys, n, t, h1, h2, h3, h4⟩ => ⟨ys, n, t, h1, h2, h3, Paired.mono (fun r v q => (Ls I r).up le q) h4⟩) ?_ F₁
      (Ev.iter (P := Rg 0 (0 + (16 : Nat))) (Ev.ty B₂ (EvL.cons Ev.cInt EvL.nil) (fun g' s' vs x hp => ?_) rfl) fun g s v hg hp => Itb.range hA.handled hg hp (by omega) (by omega)) ?_ ?_
    · obtain ⟨t, ht⟩ := p
      exact ⟨[], n, t, rfl, upd_eq, (upd_ne (by decide)).trans (congrArg some ht), .nil⟩
    · obtain ⟨v, rfl, q⟩ := paired1 hp
      exact op_range1 x.sub q
    · rintro i a vx m cm g s pv wpv ha hv hw ⟨ys, n, tk, rfl, hD, hk, hr⟩ F
      obtain ⟨rfl, hi⟩ := nums_nat ha
      have hb := bits_ok ⟨i, hi⟩
      dsimp only at hb
      have hc : s.heap.IsCell (L + 1) (some vx) := by
        have := F.x.cell (Str.ofString "x") _ rfl
        rwa [upd_eq] at this
      have BT := F.base B
      refine xs_assignComp (P := Ls I (bitsOf i)) F (EvC.weak (EvC.comp0 (xs := numsFrom 0 4) (It := I) (R := fun k => I (Builtin.bitAnd ((i : Int).fdiv (2 ^ k.toNat)) 1))
        (Ev.iter (P := Rg 0 (0 + (4 : Nat))) (Ev.ty BT (EvL.cons Ev.cInt EvL.nil) (fun g' s' vs x hp => ?_) rfl) fun g s v hg hp => Itb.range hA.handled hg hp (by omega) (by omega))
        (fun C m' vk k g'' s'' hk' x' hn' hmk hvk => ?_) (by simp [numsFrom]; decide)) fun g v q => Ls.map.mp q) fun vz g₁ s₁ F₁ le₁ hz => ?_
      · obtain ⟨v, rfl, q⟩ := paired1 hp
        exact op_range1 x.sub q
      · have := mem_nums hk'
        exact Ev.bin (Ev.bin (Ev.nCell rfl (hc.keeps (kget x'.keeps)) ((I i).up x'.le hv)) (Ev.nLocal hn' hmk hvk) fun g s a b => op_shr (by omega)) Ev.cInt fun g s a b => op_and
      have B₃ := F₁.base B
      refine xs_assign (P := I (bitsOf i).sum) F₁ (Ev.bui B₃ (EvL.cons (Ev.nLocal F₁.ns upd_eq hz) EvL.nil) (fun g' s' vs x hp => ?_) rfl) fun vg g₂ s₂ F₂ le₂ hg => ?_
      · obtain ⟨v, rfl, q⟩ := paired1 hp
        exact op_sum hA.handled x.sub q
      have hz₂ := (Ls I (bitsOf i)).up le₂ hz
      have h4 : (bitsOf i).length = 4 := by simp [bitsOf, numsFrom]
      have it : ∀ j : Nat, j < 4 → (bitsOf i)[(j : Int).toNat]? = some ((bitsOf i).getD j 0) := fun j hj => by
        rw [Int.toNat_natCast, List.getD_eq_getElem?_getD, List.getElem?_eq_getElem (by omega)]; rfl
      have nz : ∀ {g' s'}, Ext g₂ s₂ g' s' → True := fun _ => trivial
      refine xs_assign (P := I (whichOf (bitsOf i))) F₂ (Ev.ite (c := (bitsOf i).sum == 2 && (bitsOf i).getD 0 0 == (bitsOf i).getD 2 0) (EvT.and2 (EvT.cmp (Ev.nLocal F₂.ns upd_eq hg) Ev.cInt fun g s a b => op_eq)
        (fun _ => EvT.cmp (Ev.sub (Ev.nLocal F₂.ns ((upd_ne (by decide)).trans upd_eq) hz₂) Ev.cInt (fun g s a b hg' pa pb => list_tail pa hg' (op_item (by decide) (it 0 (by decide)) (by rw [h4]; decide) hg' pa pb) rfl))
          (Ev.sub (Ev.nLocal F₂.ns ((upd_ne (by decide)).trans upd_eq) hz₂) Ev.cInt (fun g s a b hg' pa pb => list_tail pa hg' (op_item (by decide) (it 2 (by decide)) (by rw [h4]; decide) hg' pa pb) rfl)) fun g s a b => op_eq))
        (fun e => Ev.weak Ev.cInt fun g v q => by unfold whichOf; rw [if_pos e]; exact q)
        (fun e => Ev.weak (Ev.sub (Ev.tup (xs := ([0, 1, 2, 4, 0] : List Int)) (R := I) (EvL.cons Ev.cInt (EvL.cons Ev.cInt (EvL.cons Ev.cInt (EvL.cons Ev.cInt (EvL.cons Ev.cInt EvL.nil))))) (by decide)) (Ev.nLocal F₂.ns upd_eq hg)
          (fun g s a b hg' pa pb => tup_tail pa hg' (tup_item hb.1 (c := ([0, 1, 2, 4, 0] : List Int).getD (bitsOf i).sum.toNat 0) ?_ (by decide) hg' pa pb) rfl)) fun g v q => by unfold whichOf; rw [if_neg (by rw [e]; decide)]; exact q)) fun vw g₃ s₃ F₃ le₃ hwh => ?_
      · have : (bitsOf i).sum.toNat < ([0, 1, 2, 4, 0] : List Int).length := by show _ < 5; omega
        rw [List.getD_eq_getElem?_getD, List.getElem?_eq_getElem this]; rfl
      have hgr := (I (bitsOf i).sum).up le₃ hg
      refine xs_if (t := keeps kinds i) F₃ (EvT.cmp (Ev.bin (Ev.bin (Ev.nLocal (P := I (kinds : Int)) F₃.ns ((upd_ne (by decide)).trans ((upd_ne (by decide)).trans ((upd_ne (by decide)).trans hk))) ⟨tk, rfl⟩) (Ev.nLocal F₃.ns upd_eq hwh) fun g s a b => op_shr hb.2.2) Ev.cInt fun g s a b => op_and)
        (Ev.ite (P := I (if (bitsOf i).sum == 0 then 0 else 1)) (EvT.cmp (Ev.nLocal F₃.ns ((upd_ne (by decide)).trans upd_eq) hgr) Ev.cInt fun g s a b => op_eq)
          (fun e => Ev.weak Ev.cInt fun g v q => by rw [if_pos e]; exact q) (fun e => Ev.weak Ev.cInt fun g v q => by rw [if_neg (by rw [e]; decide)]; exact q)) fun g s a b => op_eq)
        (fun e g₄ s₄ F₄ le₄ => ?_) (fun e g₄ s₄ F₄ le₄ => xs_nil (xs_nil ?_))
      · have up4 : GLe g₁ g₄ := fun b o e => le₄ b o (le₃ b o (le₂ b o e))
        refine xs_append F₄ ((upd_ne (by decide)).trans ((upd_ne (by decide)).trans ((upd_ne (by decide)).trans hD))) (Ev.nLocal F₄.ns ((upd_ne (by decide)).trans ((upd_ne (by decide)).trans upd_eq)) ((Ls I (bitsOf i)).up up4 hz)) ?_ (fun p hp => ?_) fun v n' g₅ s₅ F₅ le₅ hv' => xs_nil (xs_nil ?_)
        · rw [← Paired.length hr]
          exact Nat.le_trans plainRows_len (by decide)
        · rw [List.append_nil] at hp
          exact hw p hp _ List.mem_cons_self
        · have up5 : GLe g g₅ := fun b o e => le₅ b o (up4 b o (le₁ b o e))
          refine ⟨_, _, _, _, F₅, up5, ⟨_, n', tk, rfl, (upd_ne (by decide)).trans ((upd_ne (by decide)).trans ((upd_ne (by decide)).trans hD)), (upd_ne (by decide)).trans ((upd_ne (by decide)).trans ((upd_ne (by decide)).trans hk)), ?_⟩, rfl⟩
          rw [plainRows_succ ha, if_pos e]
          exact Paired.snoc (F := fun r v => (Ls I r).p g₅ v) hv' (Paired.mono (fun r v q => (Ls I r).up up5 q) hr)
      · have up4 : GLe g g₄ := fun b o e => le₄ b o (le₃ b o (le₂ b o (le₁ b o e)))
        refine ⟨_, _, _, _, F₄, up4, ⟨_, n, tk, rfl, (upd_ne (by decide)).trans ((upd_ne (by decide)).trans ((upd_ne (by decide)).trans hD)), (upd_ne (by decide)).trans ((upd_ne (by decide)).trans ((upd_ne (by decide)).trans hk)), ?_⟩, rfl⟩
        rw [plainRows_succ ha, if_neg (by rw [e]; decide), List.append_nil]
        exact Paired.mono (fun r v q => (Ls I r).up up4 q) hr
    · rintro m cm g s pv ⟨ys, n, t, rfl, hD, hk, hr⟩ F
      obtain ⟨F', le⟩ := F.publish (by simp)
      have hu := hA.units
      have h16 : (numsFrom 0 16).length = 16 := by simp [numsFrom]
      rw [h16] at hr
      refine xs_ret (P := Ls (Ls I) yss) F' (Ev.bui (F'.base B) (EvL.cons (Ev.nLocal (P := Ls (Ls I) (plainRows kinds 16)) F'.ns hD ⟨D, ys, n, rfl, G.put_self _ _ _, Paired.mono (fun r v q => (Ls I r).up le q) hr⟩) EvL.nil) (fun g' s' vs x hp => ?_) rfl) fun v g' s' x q => ⟨v, g', rfl, x, q⟩
      obtain ⟨v, rfl, q⟩ := paired1 hp
      exact op_sorted ho plainRows_four (Nat.lt_of_le_of_lt plainRows_len (by decide)) (by omega) x.sub q
end
end Mine
end
/-! ### Core13 -/
section
open PySem PySem.Calls PyProof.Rows PySem.W
namespace Mine
open PySem.SeqAt
section
variable {prog : Program} {w : World} {A : Around} {E : Value → Shared → Prop} {s : Shared} {g : G} {a b : Value}
theorem eqAt_bytes (x y : Array UInt8) (t u : Tok) : EqAt A s (.bytes x t) (.bytes y u) (x.toList == y.toList) := by
  intro prog w E Q h
  unfold eqBool
  refine wpAny_holding ?_
  refine wpAny_ite_split (fun hab => ?_) (fun hab => ?_)
  · have e : x = y := by have := eq_of_beq hab; injection this
    subst e
    exact wpAny_bind (wpAny_rule (wpAny_pure (by simpa using h)))
  · show wpAny _ _ (compareOp .Eq (.bytes x t) (.bytes y u) >>= _) _ _ _
    exact wpAny_bind (eq_bytes (wpAny_truthy_bool h))
theorem op_neL {xs ys : List Int} (hu : A.units + 64 < cLine) (hg : Sub g s) (ha : (Ls I xs).p g a) (hb : (Ls I ys).p g b) : Op prog w A (compareOp .NotEq a b) g s (Bo (!decide (xs = ys))) := by
  obtain ⟨l, us, n, rfl, hl, hp⟩ := ha
  obtain ⟨l', us', n', rfl, hl', hp'⟩ := hb
  exact ke_ne_ints (lst_isList hg hl) (lst_isList hg hl') (ints_of hp) (ints_of hp') hu ⟨g, Ext.refl hg, rfl⟩
theorem op_eqL {xs ys : List Int} (hu : A.units + 64 < cLine) (hg : Sub g s) (ha : (Ls I xs).p g a) (hb : (Ls I ys).p g b) : Op prog w A (compareOp .Eq a b) g s (Bo (decide (xs = ys))) := by
  obtain ⟨l, us, n, rfl, hl, hp⟩ := ha
  obtain ⟨l', us', n', rfl, hl', hp'⟩ := hb
  exact ke_eq_ints (lst_isList hg hl) (lst_isList hg hl') (ints_of hp) (ints_of hp') hu ⟨g, Ext.refl hg, rfl⟩
theorem op_notInB {x : Array UInt8} {ys : List (Array UInt8)} (hg : Sub g s) (ha : (By x).p g a) (hb : (Tu By ys).p g b) : Op prog w A (compareOp .NotIn a b) g s (Bo (!ys.any fun y => y.toList == x.toList)) := by
  obtain ⟨t, rfl⟩ := ha
  obtain ⟨l, us, n, rfl, hl, hp⟩ := hb
  let e : Value → Bool := fun v => match v with
    | .bytes y _ => y.toList == x.toList
    | _ => false
  have hany : us.toArray.any e = ys.any fun y => y.toList == x.toList := by
    rw [List.any_toArray]
    clear hl
    induction hp with
    | nil => rfl
    | cons h r ih =>
      obtain ⟨u, rfl⟩ := h
      simp only [List.any_cons, ih]
      rfl
  refine notIn_tupleAt e (tup_isTuple hg hl) (fun y hy => ?_) ⟨g, Ext.refl hg, by rw [hany]; rfl⟩
  obtain ⟨i, hi, rfl⟩ := List.mem_iff_getElem.mp (List.mem_toArray.mp hy)
  obtain ⟨z, hz, u, hu⟩ := Paired.get' hp (List.getElem?_eq_getElem hi)
  rw [hu]
  exact eqAt_bytes _ _ _ _
end
end Mine
end
/-! ### Fn7 -/
section
open PySem PySem.Calls PyProof.Rows PySem.W
namespace Mine
section
variable {prog : Program} {w : World} {A : Around} {env : Env} {g : G} {s : Shared}
theorem Ev.neg {e : Expr} {pos : Pos} {i : Int} (h : Ev prog w A env g s e (I i)) : Ev prog w A env g s (.UnaryOp .USub e pos) (I (-i)) :=
  fun g₁ s₁ x => UnaryOp_ (wpAny_mono (h g₁ s₁ x) (fun v s₂ ⟨g₂, y, t, hv⟩ => by
    subst hv
    exact PySem.P.neg_int ⟨g₂, y.tr (Ext.toks y.sub _), _, rfl⟩) fun _ _ f => f)
end

/-! the game -/
def askedOf (free : List Int) (order : Int) : Int := free.getD (order.fmod (free.length : Int)).toNat 0
def freeNext (free : List Int) (a : Int) : List Int := free.filter fun k => k != a
def halfOf (rows : List (List Int)) (a size : Int) : List (List Int) := rows.filter fun row => row.getD a.toNat 0 == size
def sizes01 : List Int := [0, 1]
def halvesOf (rows : List (List Int)) (a : Int) : List (List (List Int)) := sizes01.map (halfOf rows a)
def sumsOf (rows : List (List Int)) (free : List Int) (a : Int) : List Int := (halvesOf rows a).map fun half => weight half (freeNext free a)
def wordsOf (sums : List Int) : List (List UInt8) := sums.map fun n => ap n.toNat
def ends : List (Array UInt8) := [#[], #[65]]
def goodWord (wd : List UInt8) : Bool := !ends.any fun y => y.toList == (KBy.picked wd.toArray (some (-1)) none).toList
def goodOf (words : List (List UInt8)) : List Int := sizes01.filter fun size => goodWord (words.getD size.toNat [])
def failOf (words : List (List UInt8)) (sums good : List Int) : Bool := (!decide ((words.map fun x => numOf (octs x.toArray)) = sums)) || decide (good = [])
def rowsNext (halves : List (List (List Int))) (good : List Int) (wish : Int) : List (List Int) := halves.getD (good.getD (wish.fmod (good.length : Int)).toNat 0).toNat []
def gameFrom : Nat → Nat → List (List Int) → Int → List Int → Int → List (List Int)
  | 0, _, rows, _, _, _ => rows
  | f + 1, turn, rows, order, free, wishes =>
    let a := askedOf free order
    let sums := sumsOf rows free a
    let words := wordsOf sums
    let good := goodOf words
    if failOf words sums good = true then [] else gameFrom f (turn + 1) (rowsNext (halvesOf rows a) good (wishes.fdiv (2 ^ ((turn : Int)).toNat))) (order.fdiv (free.length : Int)) (freeNext free a) wishes
def game (rows : List (List Int)) (order wishes : Int) : List (List Int) := gameFrom 3 0 rows order [0, 1, 2, 3] wishes

theorem Places.ask {free : List Int} (h : Places free) {order : Int} (h0 : free ≠ []) : 0 ≤ order.fmod (free.length : Int) ∧ order.fmod (free.length : Int) < free.length ∧
    free[(order.fmod (free.length : Int)).toNat]? = some (askedOf free order) ∧ 0 ≤ askedOf free order ∧ askedOf free order < 4 ∧ askedOf free order ∈ free := by
  have hl : 0 < free.length := List.length_pos_iff.mpr h0
  have e := Int.fmod_eq_emod_of_nonneg order (show (0 : Int) ≤ (free.length : Int) by omega)
  have h1 : 0 ≤ order.fmod (free.length : Int) := by rw [e]; exact Int.emod_nonneg _ (by omega)
  have h2 : order.fmod (free.length : Int) < free.length := by rw [e]; exact Int.emod_lt_of_pos _ (by omega)
  have h3 : (order.fmod (free.length : Int)).toNat < free.length := by omega
  have h4 : askedOf free order = free[(order.fmod (free.length : Int)).toNat] := by
    unfold askedOf
    rw [List.getD_eq_getElem?_getD, List.getElem?_eq_getElem h3]; rfl
  have h5 := List.getElem_mem h3
  have h6 := h.low _ h5
  rw [h4]
  exact ⟨h1, h2, List.getElem?_eq_getElem h3, h6.1, h6.2, h5⟩
theorem Places.next {free : List Int} (h : Places free) (a : Int) : Places (freeNext free a) :=
  ⟨Nat.le_trans (List.length_filter_le ..) h.len, fun k hk => h.low k ((List.mem_filter.mp hk).1)⟩
theorem weight_ok {rows : List (List Int)} {free : List Int} (hr : ∀ r ∈ rows, Row4 r) (hf : Places free) : 0 ≤ weight rows free ∧ weight rows free ≤ rows.length * 50625 := by
  unfold weight
  induction rows with
  | nil => simp
  | cons r t ih =>
    have h1 := bitsAt_le (hr r List.mem_cons_self) hf.low
    have hl := hf.len
    have h2 := ih fun x hx => hr x (List.mem_cons_of_mem _ hx)
    have h3 : (15 : Int) ^ (bitsAt free r).toNat ≤ 50625 ∧ 0 ≤ (15 : Int) ^ (bitsAt free r).toNat := by
      have : (bitsAt free r).toNat ≤ 4 := by omega
      match (bitsAt free r).toNat, this with
      | 0, _ => decide
      | 1, _ => decide
      | 2, _ => decide
      | 3, _ => decide
      | 4, _ => decide
    simp only [List.map_cons, List.sum_cons, List.length_cons]
    push_cast
    omega
end Mine
end
/-! ### Fn8 -/
section
open PySem PySem.Calls PyProof.Rows PySem.W
namespace Mine
section
variable {prog : Program} {w : World}
theorem mem01 {x : Int} (h : x ∈ sizes01) : x = 0 ∨ x = 1 := by
  rcases List.mem_cons.mp h with h | h
  · exact .inl h
  · exact .inr (List.mem_singleton.mp h)
theorem get01 {α : Type} {l : List α} (d : α) (hl : l.length = 2) {x : Int} (h : x = 0 ∨ x = 1) : 0 ≤ x ∧ l[x.toNat]? = some (l.getD x.toNat d) := by
  have hx : x.toNat < l.length := by omega
  refine ⟨by omega, ?_⟩
  rw [List.getD_eq_getElem?_getD, List.getElem?_eq_getElem hx]; rfl
theorem freeNext_length {free : List Int} (hd : free.Nodup) {a : Int} (ha : a ∈ free) : (freeNext free a).length + 1 = free.length := by
  unfold freeNext
  rw [← hd.erase_eq_filter, List.length_erase_of_mem ha]
  have := List.length_pos_of_mem ha
  omega
theorem half_ok {rows : List (List Int)} (hr : ∀ r ∈ rows, Row4 r) (a : Int) : ∀ h ∈ halvesOf rows a, (∀ r ∈ h, Row4 r) ∧ h.length ≤ rows.length := by
  intro h hh
  unfold halvesOf at hh
  obtain ⟨z, _, rfl⟩ := List.mem_map.mp hh
  exact ⟨fun r hr' => hr r (List.mem_filter.mp hr').1, List.length_filter_le ..⟩
theorem sums_ok {rows : List (List Int)} (hr : ∀ r ∈ rows, Row4 r) (hl : rows.length ≤ 16) {free : List Int} (hf : Places free) (a : Int) : ∀ n ∈ sumsOf rows free a, 0 ≤ n ∧ n < 16 ^ 8 := by
  intro n hn
  unfold sumsOf at hn
  obtain ⟨h, hh, rfl⟩ := List.mem_map.mp hn
  obtain ⟨h1, h2⟩ := half_ok hr a h hh
  have := weight_ok h1 (hf.next a)
  omega
theorem good_ok {words : List (List UInt8)} : ∀ x ∈ goodOf words, x = 0 ∨ x = 1 := fun x hx => mem01 (List.mem_filter.mp hx).1
theorem wish_ok {n : Nat} (hn : 0 < n) (x : Int) : 0 ≤ x.fmod (n : Int) ∧ (x.fmod (n : Int)).toNat < n := by
  have e := Int.fmod_eq_emod_of_nonneg x (show (0 : Int) ≤ (n : Int) by omega)
  have h1 : 0 ≤ x.fmod (n : Int) := by rw [e]; exact Int.emod_nonneg _ (by omega)
  have h2 : x.fmod (n : Int) < n := by rw [e]; exact Int.emod_lt_of_pos _ (by omega)
  omega

set_option maxHeartbeats 4000000 in
theorem fn_game {rows₀ : List (List Int)} {order₀ wishes : Int} (hr₀ : ∀ r ∈ rows₀, Row4 r) (hl₀ : rows₀.length ≤ 16) : Fn prog w (Base w) 20 252 [Ls (Ls I) rows₀, I order₀, I wishes] (Ls (Ls I) (game rows₀ order₀ wishes)) := by
  have hfd : fnAt (KK w.params) 252 = some _ := rfl
  refine Fn.k (n := 19) (binds := fun vs => [(Str.ofString "rows", vs[0]!), (Str.ofString "order", vs[1]!), (Str.ofString "wishes", vs[2]!)]) hfd rfl rfl ?_ ?_ ?_
  · intro g vs h
    obtain ⟨v, v', v'', rfl, _, _, _⟩ := paired3 h
    rfl
  · intro g vs L h x hx
    rcases List.mem_cons.mp hx with rfl | hx
    · exact .inr ⟨rfl, rfl⟩
    · rcases List.mem_cons.mp hx with rfl | hx
      · exact .inl rfl
      · rcases List.mem_singleton.mp hx with rfl
        exact .inl rfl
  · intro A g s vs L s₁ hA B B₁ h F
    obtain ⟨v, v', v'', rfl, p, p', t₀, rfl⟩ := paired3 h
    have hu := hA.units
    refine xs_assignC F (Ev.lst (xs := ([0, 1, 2, 3] : List Int)) (R := I) (EvL.cons Ev.cInt (EvL.cons Ev.cInt (EvL.cons Ev.cInt (EvL.cons Ev.cInt EvL.nil)))) (by decide)) fun vf g₁ s₂ F₁ le₁ hf => ?_
    have B₂ := F₁.base B
    refine xs_for (It := I) (xs := numsFrom 0 3) (fun i m cm g pv => pv = [] ∧ i ≤ 3 ∧ ∃ rows order free vr vo vf, cm (Str.ofString "rows") = some vr ∧ (Ls (Ls I) rows).p g vr ∧ m (Str.ofString "order") = some vo ∧ (I order).p g vo ∧
        cm (Str.ofString "free") = some vf ∧ (Ls I free).p g vf ∧ m (Str.ofString "wishes") = some (.int wishes t₀) ∧ gameFrom (3 - i) i rows order free wishes = game rows₀ order₀ wishes ∧ (∀ r ∈ rows, Row4 r) ∧ rows.length ≤ 16 ∧ Places free ∧ free.Nodup ∧ free.length + i = 4)
      (fun i m cm g g' pv le ⟨h1, h1', rows, order, free, vr, vo, vf, h2, h3, h4, h5, h6, h7, h8⟩ => ⟨h1, h1', rows, order, free, vr, vo, vf, h2, (Ls (Ls I) rows).up le h3, h4, (I order).up le h5, h6, (Ls I free).up le h7, h8⟩) ?_ F₁
      (Ev.iter (P := Rg 0 (0 + (3 : Nat))) (Ev.ty B₂ (EvL.cons Ev.cInt EvL.nil) (fun g' s' vs x hp => ?_) rfl) fun g s v hg hp => Itb.range hA.handled hg hp (by omega) (by omega)) ?_ ?_
    · exact ⟨rfl, by omega, rows₀, order₀, [0, 1, 2, 3], v, v', vf, (upd_ne (by decide)).trans rfl, (Ls (Ls I) rows₀).up le₁ p, rfl, (I order₀).up le₁ p', upd_eq, hf, rfl, rfl, hr₀, hl₀, ⟨by decide, by decide⟩, by decide, rfl⟩
    · obtain ⟨v, rfl, q⟩ := paired1 hp
      exact op_range1 x.sub q
    · rintro i a vx m cm g s pv wpv ha hv hw ⟨rfl, _, rows, order, free, vr, vo, vf, hmr, hr, hmo, ho, hmf, hf, hmw, hgame, hrows, hlen, hpl, hnd, hfl⟩ F
      obtain ⟨rfl, hi⟩ := nums_nat ha
      have hne : free ≠ [] := by rintro rfl; simp at hfl; omega
      obtain ⟨q0, q1, q2, q3, q4, q5⟩ := hpl.ask (order := order) hne
      have BT := F.base B
      have hfz : free.length < 2 ^ 62 := by omega
      have hcf : s.heap.IsCell (L + 1 + 1) (some vf) := by
        have := F.x.cell (Str.ofString "free") _ rfl
        rwa [hmf] at this
      -- asked
      refine xs_assignC (P := I (askedOf free order)) F (Ev.sub (Ev.nCell rfl hcf hf) (Ev.bin (Ev.nLocal F.ns ((upd_ne (by decide)).trans hmo) ho) (Ev.bui BT (EvL.cons (Ev.nCell rfl hcf hf) EvL.nil) (fun g' s' vs x hp => ?_) rfl) fun g s a b => op_mod (y := (free.length : Int)) (by omega))
        (fun g s a b hg pa pb => list_tail pa hg (op_item q0 q2 hfz hg pa pb) rfl)) fun va g₁ s₁ F₁ le₁ hasked => ?_
      · obtain ⟨v, rfl, q⟩ := paired1 hp
        exact op_len hfz x.sub q
      have B₁ := F₁.base B
      have hcf₁ : s₁.heap.IsCell (L + 1 + 1) (some vf) := by
        have := F₁.x.cell (Str.ofString "free") _ rfl
        rwa [upd_ne (by decide), hmf] at this
      -- order
      refine xs_assign (P := I (order.fdiv (free.length : Int))) F₁ (Ev.bin (Ev.nLocal F₁.ns ((upd_ne (by decide)).trans hmo) ((I order).up le₁ ho)) (Ev.bui B₁ (EvL.cons (Ev.nCell rfl hcf₁ ((Ls I free).up le₁ hf)) EvL.nil) (fun g' s' vs x hp => ?_) rfl) fun g s a b => op_div (y := (free.length : Int)) (by omega) (PyProof.noPylong_small (by have := hpl.len; omega))) fun vo' g₂ s₂ F₂ le₂ ho' => ?_
      · obtain ⟨v, rfl, q⟩ := paired1 hp
        exact op_len hfz x.sub q
      have up2 : GLe g g₂ := fun b o e => le₂ b o (le₁ b o e)
      have hcf₂ : s₂.heap.IsCell (L + 1 + 1) (some vf) := by
        have := F₂.x.cell (Str.ofString "free") _ rfl
        rwa [upd_ne (by decide), hmf] at this
      have hca₂ : s₂.heap.IsCell (L + 1 + 1 + 1) (some va) := by
        have := F₂.x.cell (Str.ofString "asked") _ rfl
        rwa [upd_eq] at this
      have hasked₂ := (I (askedOf free order)).up le₂ hasked
      -- free
      refine xs_assignC (P := Ls I (freeNext free (askedOf free order))) F₂ (EvC.ev (EvC.comp (xs := free) (It := I) (p := fun k => k != askedOf free order) (R := I) (Ev.iter (Ev.nCell rfl hcf₂ ((Ls I free).up up2 hf)) fun g s v hg hp => Itb.list hA.handled hg hp)
        (fun C m' vk k g' s' hk x hn hmk hvk => tests_one (EvT.cmp (Ev.nLocal hn hmk hvk) (Ev.nCell rfl (hca₂.keeps (kget x.keeps)) ((I (askedOf free order)).up x.le hasked₂)) fun g s a b => op_ne) x.sub)
        (fun C m' vk k g' s' hk hp x hn hmk hvk => Ev.nLocal hn hmk hvk) (Nat.le_trans hpl.len (by decide)))) fun vf' g₃ s₃ F₃ le₃ hf' => ?_
      have up3 : GLe g g₃ := fun b o e => le₃ b o (up2 b o e)
      have hca₃ : s₃.heap.IsCell (L + 1 + 1 + 1) (some va) := by
        have := F₃.x.cell (Str.ofString "asked") _ rfl
        rwa [upd_ne (by decide), upd_eq] at this
      have hcr₃ : s₃.heap.IsCell (L + 1) (some vr) := by
        have := F₃.x.cell (Str.ofString "rows") _ rfl
        rwa [upd_ne (by decide), upd_ne (by decide), hmr] at this
      have hasked₃ := (I (askedOf free order)).up le₃ hasked₂
      have hr₃ := (Ls (Ls I) rows).up up3 hr
      -- halves
      refine xs_assignComp (P := Ls (Ls (Ls I)) (halvesOf rows (askedOf free order))) F₃ (EvC.weak (EvC.compC0 (xs := sizes01) (It := I) (R := fun size => Ls (Ls I) (halfOf rows (askedOf free order) size))
        (Ev.iter (Ev.tup (xs := sizes01) (R := I) (EvL.cons Ev.cInt (EvL.cons Ev.cInt EvL.nil)) (by decide)) fun g s v hg hp => Itb.tuple hA.handled hg hp)
        (fun C vz size g' s' hm x hcz hz => ?_) (by decide)) fun g v q => Ls.map.mp q) fun vh g₄ s₄ F₄ le₄ hh => ?_
      · refine EvC.ev (EvC.comp (xs := rows) (It := Ls I) (p := fun row => row.getD (askedOf free order).toNat 0 == size) (R := Ls I) (Ev.iter (Ev.nCell rfl (hcr₃.keeps (kget x.keeps)) ((Ls (Ls I) rows).up x.le hr₃)) fun g s v hg hp => Itb.list hA.handled hg hp)
          (fun C' m' vk row g'' s'' hk x' hn hmk hvk => tests_one (EvT.cmp (Ev.sub (Ev.nLocal hn hmk hvk) (Ev.nCell rfl (hca₃.keeps (kget (x.tr x').keeps)) ((I (askedOf free order)).up (x.tr x').le hasked₃))
            (fun g s a b hg pa pb => list_tail pa hg (op_item q3 ((hrows row hk).get q3 q4).1 (by rw [(hrows row hk).len]; decide) hg pa pb) rfl)) (Ev.nCell rfl (hcz.keeps (kget x'.keeps)) ((I size).up x'.le hz)) fun g s a b => op_eq) x'.sub)
          (fun C' m' vk row g'' s'' hk hp x' hn hmk hvk => Ev.nLocal hn hmk hvk) (Nat.le_trans hlen (by decide)))
      have B₄ := F₄.base B
      have hcf₄ : s₄.heap.IsCell (L + 1 + 1) (some vf') := by
        have := F₄.x.cell (Str.ofString "free") _ rfl
        rwa [upd_eq] at this
      have hf₄ := (Ls I (freeNext free (askedOf free order))).up le₄ hf'
      -- sums
      refine xs_assignComp (P := Ls I (sumsOf rows free (askedOf free order))) F₄ (EvC.weak (EvC.comp0 (xs := halvesOf rows (askedOf free order)) (It := Ls (Ls I)) (R := fun half => I (weight half (freeNext free (askedOf free order)))) (Ev.iter (Ev.nLocal F₄.ns upd_eq hh) fun g s v hg hp => Itb.list hA.handled hg hp)
        (fun C m' vk half g' s' hk x hn hmk hvk => Ev.fn (B₄.ext x) (hA.less (by omega)) (fn_weight (half_ok hrows _ half hk).1 (hpl.next _) (Nat.le_trans (half_ok hrows _ half hk).2 hlen)) (EvL.cons (Ev.nLocal hn hmk hvk) (EvL.cons (Ev.nCell rfl (hcf₄.keeps (kget x.keeps)) ((Ls I (freeNext free (askedOf free order))).up x.le hf₄)) EvL.nil)))
        (by simp [halvesOf, sizes01]; decide)) fun g v q => Ls.map.mp q) fun vs₅ g₅ s₅ F₅ le₅ hs => ?_
      have B₅ := F₅.base B
      have hsums := sums_ok hrows hlen hpl (askedOf free order)
      have hsl : (sumsOf rows free (askedOf free order)).length = 2 := by simp [sumsOf, halvesOf, sizes01]
      -- words
      refine xs_assignC (P := Ls (fun wd : List UInt8 => By wd.toArray) (wordsOf (sumsOf rows free (askedOf free order)))) F₅ (Ev.weak (EvC.ev (EvC.comp0 (xs := sumsOf rows free (askedOf free order)) (It := I) (R := fun n => By (ap n.toNat).toArray) (Ev.iter (Ev.nLocal F₅.ns upd_eq hs) fun g s v hg hp => Itb.list hA.handled hg hp)
        (fun C m' vk n g' s' hk x hn hmk hvk => Ev.fn (B₅.ext x) (hA.less (by omega)) (fn_ap (n := n.toNat) (by have := hsums n hk; omega)) (EvL.cons (Ev.nLocal hn hmk (by rw [Int.toNat_of_nonneg (hsums n hk).1]; exact hvk)) EvL.nil))
        (by rw [hsl]; decide))) fun g v q => (Ls.map (R := fun wd : List UInt8 => By wd.toArray)).mp q) fun vw g₆ s₆ F₆ le₆ hwd => ?_
      have B₆ := F₆.base B
      have hcw₆ : s₆.heap.IsCell (L + 1 + 1 + 1 + 1) (some vw) := by
        have := F₆.x.cell (Str.ofString "words") _ rfl
        rwa [upd_eq] at this
      have hwl : (wordsOf (sumsOf rows free (askedOf free order))).length = 2 := by simp [wordsOf, hsl]
      have hap : ∀ wd ∈ wordsOf (sumsOf rows free (askedOf free order)), wd.length ≤ 8 := fun wd h => by
        obtain ⟨n, _, rfl⟩ := List.mem_map.mp h
        exact apF_length 8 n.toNat []
      -- good
      refine xs_assignComp (P := Ls I (goodOf (wordsOf (sumsOf rows free (askedOf free order))))) F₆ (EvC.comp (xs := sizes01) (It := I) (p := fun size => goodWord ((wordsOf (sumsOf rows free (askedOf free order))).getD size.toNat [])) (R := I)
        (Ev.iter (Ev.tup (xs := sizes01) (R := I) (EvL.cons Ev.cInt (EvL.cons Ev.cInt EvL.nil)) (by decide)) fun g s v hg hp => Itb.tuple hA.handled hg hp)
        (fun C m' vk size g' s' hk x hn hmk hvk => ?_) (fun C m' vk size g' s' hk hp x hn hmk hvk => Ev.nLocal hn hmk hvk) (by decide)) fun vg g₇ s₇ F₇ le₇ hg => ?_
      · have hgw := get01 (l := wordsOf (sumsOf rows free (askedOf free order))) [] hwl (mem01 hk)
        have hmem : (wordsOf (sumsOf rows free (askedOf free order))).getD size.toNat [] ∈ wordsOf (sumsOf rows free (askedOf free order)) := List.mem_of_getElem? hgw.2
        have hzw : ((wordsOf (sumsOf rows free (askedOf free order))).getD size.toNat []).toArray.size ≤ sizeLine := Nat.le_trans (hap _ hmem) (by decide)
        exact tests_one (EvT.cmp (Ev.bytesSlice (Ev.sub (Ev.nCell rfl (hcw₆.keeps (kget x.keeps)) ((Ls (fun wd : List UInt8 => By wd.toArray) _).up x.le hwd)) (Ev.nLocal hn hmk hvk)
          (fun g s a b hg pa pb => list_tail pa hg (op_item (R := fun wd : List UInt8 => By wd.toArray) (xs := wordsOf (sumsOf rows free (askedOf free order))) hgw.1 hgw.2 (by rw [hwl]; decide) hg pa pb) rfl)) (EvP.yes (Ev.neg Ev.cInt)) EvP.no hzw)
          (Ev.tup (xs := ends) (R := By) (EvL.cons Ev.cBytes (EvL.cons Ev.cBytes EvL.nil)) (by decide)) fun g s a b => op_notInB) x.sub
      have B₇ := F₇.base B
      have up57 : GLe g₅ g₇ := fun b o e => le₇ b o (le₆ b o e)
      have hcw₇ : s₇.heap.IsCell (L + 1 + 1 + 1 + 1) (some vw) := by
        have := F₇.x.cell (Str.ofString "words") _ rfl
        rwa [upd_eq] at this
      have hwd₇ := (Ls (fun wd : List UInt8 => By wd.toArray) (wordsOf (sumsOf rows free (askedOf free order)))).up le₇ hwd
      -- the test
      refine xs_if (t := failOf (wordsOf (sumsOf rows free (askedOf free order))) (sumsOf rows free (askedOf free order)) (goodOf (wordsOf (sumsOf rows free (askedOf free order))))) F₇
        (EvT.or2 (EvT.cmp (P₁ := Ls I ((wordsOf (sumsOf rows free (askedOf free order))).map fun x => numOf (octs x.toArray))) (Ev.weak (EvC.ev (EvC.comp0 (xs := wordsOf (sumsOf rows free (askedOf free order))) (It := fun wd : List UInt8 => By wd.toArray) (R := fun wd => I (numOf (octs wd.toArray))) (Ev.iter (Ev.nCell rfl hcw₇ hwd₇) fun g s v hg hp => Itb.list hA.handled hg hp)
          (fun C m' vk wd g' s' hk x hn hmk hvk => Ev.fn (B₇.ext x) (hA.less (by omega)) fn_number (EvL.cons (Ev.nLocal hn hmk hvk) EvL.nil)) (by rw [hwl]; decide))) fun g v q => Ls.map.mp q)
          (Ev.nLocal F₇.ns ((upd_ne (by decide)).trans upd_eq) ((Ls I (sumsOf rows free (askedOf free order))).up up57 hs)) fun g s a b => op_neL (by omega))
          (fun _ => EvT.cmp (Ev.nLocal F₇.ns upd_eq hg) (Ev.lst (xs := ([] : List Int)) (R := I) EvL.nil (Nat.zero_le _)) fun g s a b => op_eqL (by omega)))
        (fun e g₈ s₈ F₈ le₈ => ?_) (fun e g₈ s₈ F₈ le₈ => xs_nil ?_)
      · refine xs_ret (P := Ls (Ls I) []) F₈ (Ev.lst (xs := ([] : List (List Int))) (R := Ls I) EvL.nil (Nat.zero_le _)) fun v g' s' x q => ⟨v, g', rfl, x, ?_⟩
        have : game rows₀ order₀ wishes = [] := by
          rw [← hgame]
          obtain ⟨f, hf⟩ : ∃ f, 3 - i = f + 1 := ⟨2 - i, by omega⟩
          rw [hf]
          show (if failOf _ _ _ = true then [] else _) = []
          rw [if_pos e]
        rw [this]
        exact q
      · have hgl : goodOf (wordsOf (sumsOf rows free (askedOf free order))) ≠ [] := by
          intro h0
          unfold failOf at e
          rw [h0] at e
          simp at e
        have hgp := List.length_pos_iff.mpr hgl
        have hg2 : (goodOf (wordsOf (sumsOf rows free (askedOf free order)))).length ≤ 2 := List.length_filter_le ..
        obtain ⟨w0, w1⟩ := wish_ok hgp (wishes.fdiv (2 ^ ((i : Int)).toNat))
        have hgi : (goodOf (wordsOf (sumsOf rows free (askedOf free order))))[((wishes.fdiv (2 ^ ((i : Int)).toNat)).fmod ((goodOf (wordsOf (sumsOf rows free (askedOf free order)))).length : Int)).toNat]? = some ((goodOf (wordsOf (sumsOf rows free (askedOf free order)))).getD ((wishes.fdiv (2 ^ ((i : Int)).toNat)).fmod ((goodOf (wordsOf (sumsOf rows free (askedOf free order)))).length : Int)).toNat 0) := by
          rw [List.getD_eq_getElem?_getD, List.getElem?_eq_getElem w1]; rfl
        have hgv := good_ok _ (List.mem_of_getElem? hgi)
        have hhl : (halvesOf rows (askedOf free order)).length = 2 := by simp [halvesOf, sizes01]
        have hhi := get01 (l := halvesOf rows (askedOf free order)) [] hhl hgv
        have up48 : GLe g₄ g₈ := fun b o e => le₈ b o (up57 b o (le₅ b o e))
        have up38 : GLe g₃ g₈ := fun b o e => up48 b o (le₄ b o e)
        have up08 : GLe g g₈ := fun b o e => up38 b o (up3 b o e)
        have B₈ := F₈.base B
        refine xs_assignC (P := Ls (Ls I) (rowsNext (halvesOf rows (askedOf free order)) (goodOf (wordsOf (sumsOf rows free (askedOf free order)))) (wishes.fdiv (2 ^ ((i : Int)).toNat)))) F₈
          (Ev.sub (Ev.nLocal F₈.ns ((upd_ne (by decide)).trans ((upd_ne (by decide)).trans upd_eq)) ((Ls (Ls (Ls I)) (halvesOf rows (askedOf free order))).up up48 hh))
            (Ev.sub (Ev.nLocal F₈.ns upd_eq ((Ls I (goodOf _)).up le₈ hg)) (Ev.bin (Ev.bin (Ev.nLocal (P := I wishes) F₈.ns ((upd_ne (by decide)).trans ((upd_ne (by decide)).trans ((upd_ne (by decide)).trans ((upd_ne (by decide)).trans ((upd_ne (by decide)).trans hmw))))) ⟨t₀, rfl⟩) (Ev.nLocal F₈.ns ((upd_ne (by decide)).trans ((upd_ne (by decide)).trans ((upd_ne (by decide)).trans ((upd_ne (by decide)).trans upd_eq)))) ((I (i : Int)).up up08 hv)) fun g s a b => op_shr (by omega))
              (Ev.bui B₈ (EvL.cons (Ev.nLocal F₈.ns upd_eq ((Ls I (goodOf _)).up le₈ hg)) EvL.nil) (fun g' s' vs x hp => ?_) rfl) fun g s a b => op_mod (y := ((goodOf (wordsOf (sumsOf rows free (askedOf free order)))).length : Int)) (by omega))
              (fun g s a b hg pa pb => list_tail pa hg (op_item w0 hgi (by omega) hg pa pb) rfl))
            (fun g s a b hg pa pb => list_tail pa hg (op_item hhi.1 hhi.2 (by rw [hhl]; decide) hg pa pb) rfl)) fun vr' g₉ s₉ F₉ le₉ hr' => xs_nil ?_
        · obtain ⟨v, rfl, q⟩ := paired1 hp
          exact op_len (by omega) x.sub q
        · have hrn := half_ok hrows (askedOf free order) _ (List.mem_of_getElem? hhi.2)
          refine ⟨_, _, g₉, [], F₉, fun b o e => le₉ b o (up08 b o e), ⟨rfl, by omega, _, order.fdiv (free.length : Int), freeNext free (askedOf free order), vr', vo', vf', upd_eq, hr', ?_, (I _).up (fun b o e => le₉ b o (up38 b o (le₃ b o e))) ho', ?_, (Ls I _).up (fun b o e => le₉ b o (up38 b o e)) hf', ?_, ?_, hrn.1, Nat.le_trans hrn.2 hlen, hpl.next _, hnd.filter _, ?_⟩, rfl⟩
          · exact (upd_ne (by decide)).trans ((upd_ne (by decide)).trans ((upd_ne (by decide)).trans upd_eq))
          · exact (upd_ne (by decide)).trans ((upd_ne (by decide)).trans upd_eq)
          · exact (upd_ne (by decide)).trans ((upd_ne (by decide)).trans ((upd_ne (by decide)).trans ((upd_ne (by decide)).trans ((upd_ne (by decide)).trans hmw))))
          · rw [← hgame]
            obtain ⟨f, hf⟩ : ∃ f, 3 - i = f + 1 := ⟨2 - i, by omega⟩
            rw [hf, show 3 - (i + 1) = f by omega]
            show _ = (if failOf _ _ _ = true then [] else _)
            rw [if_neg (by rw [e]; decide)]
          · have := freeNext_length hnd q5
            omega
    · rintro m cm g s pv ⟨rfl, _, rows, order, free, vr, vo, vf, hmr, hr, hmo, ho, hmf, hf, hmw, hgame, _⟩ F
      have h3 : (numsFrom 0 3).length = 3 := by simp [numsFrom]
      rw [h3] at hgame
      have hcr : s.heap.IsCell (L + 1) (some vr) := by
        have := F.x.cell (Str.ofString "rows") _ rfl
        rwa [hmr] at this
      have e : rows = game rows₀ order₀ wishes := hgame
      rw [← e]
      exact xs_ret F (Ev.nCell rfl hcr hr) fun v g' s' x q => ⟨v, g', rfl, x, q⟩
end
end Mine
end
/-! ### Meth1 -/
section
open PySem PySem.Calls PyProof.Rows PySem.W
namespace Mine
structure Under (s₀ s : Shared) : Prop where
  keeps : Keeps s₀ s
  size : s₀.heap.objs.size ≤ s.heap.objs.size
theorem Under.refl (s : Shared) : Under s s := ⟨Keeps.refl s, Nat.le_refl _⟩
def hid (s : Shared) (D : Addr) : Shared := { s with heap := s.heap.hide D }
theorem under_hid (s : Shared) (D : Addr) : Under (hid s D) s := ⟨⟨s.heap, s.toks, rfl, fun _ _ e => Heap.of_hide e⟩, Nat.le_of_eq (Heap.hide_size s.heap D)⟩
theorem hid_none (s : Shared) (D : Addr) : (hid s D).heap.get? D = none := Heap.hide_self ..
theorem hid_get {s : Shared} {D b : Addr} {o : Obj} (h : b ≠ D) (e : s.heap.get? b = some o) : (hid s D).heap.get? b = some o := (Heap.hide_ne s.heap h).trans e
theorem inCallC_under {s₀ s s₁ : Shared} {L : Addr} {m cm : Str → Option Value} {cs : List (Str × Addr)} (u : Under s₀ s) (x : InCallC s L m cs cm s₁) : InCallC s₀ L m cs cm s₁ := by
  obtain ⟨h, t, rfl, k⟩ := u.keeps
  refine ⟨⟨?_, x.toInCall.ns, fun b o e => x.toInCall.keep b o (k b o e), Nat.le_trans u.size x.toInCall.fresh⟩, x.cell, x.apart, x.above⟩
  obtain ⟨h', t', e⟩ := x.toInCall.same
  exact ⟨h', t', e⟩

section
variable {prog : Program} {w : World} {A : Around}
/-- a def of the text called: by position and by name, some of the heap hidden -/
theorem call_body {s₀ s : Shared} {g : G} {f : Addr} {fd : FuncData} {body : List Stmt} {vs : List Value} {kw binds : List (Str × Value)} {pv : List (Addr × Obj)} {n : Nat} {Q : Result → Shared → Prop}
    (hA : Room A (n + 1)) (B : Base w s.heap) (u : Under s₀ s) (hg : Sub g s) (hheld : ∀ p ∈ pv, s.heap.get? p.1 = some p.2 ∧ g p.1 = none ∧ s₀.heap.get? p.1 = none)
    (hfd : fnAt (KK w.params) f = some fd) (hcd : codeIn (KK w.params) fd.code fd.qualname = true) (hbody : fd.body = .stmts body)
    (hbind : peek (KK w.params) ⟨prog, w.params⟩ (bindArgs fd ⟨vs, kw⟩) = some binds)
    (hkind : ∀ L, ∀ x ∈ binds, fd.scope.names.lookup x.1 = some .local ∨ (fd.scope.names.lookup x.1 = some .cell ∧ ((cellsFrom L fd.scope.names []).lookup x.1).isSome = true))
    (h : ∀ A' L s₁, Room A' n → Base w s₁.heap → Fs pv g s₀ (callEnvC fd L f) (bindL (callEnvC fd L f).kindOf binds fun _ => none) (bindC (callEnvC fd L f).kindOf binds fun _ => none) g s₁ →
      XS prog w A' (callEnvC fd L f) body (fun fl s' => Q (.ok (.ret (match fl with | .ret v => v | _ => .none))) s') s₁)
    (hclo : fd.closure = [] := by rfl) (hco : fd.scope.isCoroutine = false := by rfl) (hgen : fd.scope.isGenerator = false := by rfl) (hk : fd.scope.kind = .function := by rfl) :
    codeAny (model prog w) A (.call (.ref f) ⟨vs, kw⟩) Q s := by
  obtain ⟨o, ho, hd⟩ := fnAt_get B.1 hfd
  refine codeAny_call_function (by have := hA.depth; omega) ho hd hco hgen hbody (codeRec_of B.1 hcd) ((Looks.of_peek B.1 hbind).here ?_)
  rw [hclo]
  refine wpAny_newFunctionEnv_cells hk (hkind _) fun env he s₁ x => ?_
  subst he
  refine ⟨B.lim.keeps x.toInCall.keep, codeAny_func ?_⟩
  have hn : ∀ b, s.heap.get? b = none → g b = none := fun b h => sub_none hg h
  have F : Fs pv g s₀ (callEnvC fd s.heap.objs.size f) (bindL (callEnvC fd s.heap.objs.size f).kindOf binds fun _ => none) (bindC (callEnvC fd s.heap.objs.size f).kindOf binds fun _ => none) g s₁ := ⟨inCallC_under u x, fun _ _ e => e, fun b o e => x.toInCall.keep b o (hg b o e), fun _ _ e => .inl e, hn _ (fresh_none (Nat.le_refl _)), fun n c hc => hn _ (fresh_none (Nat.le_of_lt (x.above n c (mem_of_lookup hc)))), fun p hp => by
    obtain ⟨h1, h2, h3⟩ := hheld p hp
    have hlt := Heap.lt_size h1
    exact ⟨x.toInCall.keep _ _ h1, h2, Nat.ne_of_lt hlt, fun n c hc => Nat.ne_of_gt (Nat.lt_trans hlt (x.above n c (mem_of_lookup hc))), h3⟩⟩
  exact wpAny_mono (h (A.deeper (callEnvC fd s.heap.objs.size f)) _ s₁ (hA.deeper _) (B.keeps x.toInCall.keep) F) (fun fl s' h' => h') fun _ _ f => f.elim

/-- a def that hands back a value and turns nothing -/
def FnK (prog : Program) (w : World) (n : Nat) (f : Addr) (args : List MP) (kw : List (Str × Value)) (R : MP) : Prop :=
  ∀ A g s vs, Room A n → Base w s.heap → Sub g s → Paired (fun P v => MP.p P g v) args vs → WP prog w A (PySem.call (.ref f) vs kw) (fun v s₂ => ∃ g₂, Ext g s g₂ s₂ ∧ R.p g₂ v) s
theorem FnK.k {n : Nat} {f : Addr} {args : List MP} {kw : List (Str × Value)} {R : MP} {fd : FuncData} {body : List Stmt} {binds : List Value → List (Str × Value)}
    (hfd : fnAt (KK w.params) f = some fd) (hcd : codeIn (KK w.params) fd.code fd.qualname = true) (hbody : fd.body = .stmts body)
    (hbind : ∀ g vs, Paired (fun P v => MP.p P g v) args vs → peek (KK w.params) ⟨prog, w.params⟩ (bindArgs fd ⟨vs, kw⟩) = some (binds vs))
    (hkind : ∀ g vs L, Paired (fun P v => MP.p P g v) args vs → ∀ x ∈ binds vs, fd.scope.names.lookup x.1 = some .local ∨ (fd.scope.names.lookup x.1 = some .cell ∧ ((cellsFrom L fd.scope.names []).lookup x.1).isSome = true))
    (h : ∀ A g s vs L s₁, Room A n → Base w s.heap → Base w s₁.heap → Paired (fun P v => MP.p P g v) args vs →
      Fs [] g s (callEnvC fd L f) (bindL (callEnvC fd L f).kindOf (binds vs) fun _ => none) (bindC (callEnvC fd L f).kindOf (binds vs) fun _ => none) g s₁ →
      XS prog w A (callEnvC fd L f) body (fun fl s' => ∃ v g', fl = .ret v ∧ Ext g s g' s' ∧ R.p g' v) s₁)
    (hclo : fd.closure = [] := by rfl) (hco : fd.scope.isCoroutine = false := by rfl) (hgen : fd.scope.isGenerator = false := by rfl) (hk : fd.scope.kind = .function := by rfl) : FnK prog w (n + 1) f args kw R := by
  intro A g s vs hA B hg hp
  refine wpAny_call (call_body (pv := []) hA B (Under.refl s) hg (fun p hp => (nomatch hp)) hfd hcd hbody (hbind g vs hp) (fun L => hkind g vs L hp) (fun A' L s₁ hA' B₁ F => ?_) hclo hco hgen hk)
  refine wpAny_mono (h A' g s vs L s₁ hA' B B₁ hp F) (fun fl s' h' => ?_) fun _ _ f => f
  obtain ⟨v, g', rfl, y, hr⟩ := h'
  exact ⟨g', y, hr⟩
end

section
variable {prog : Program} {w : World} {A : Around} {env : Env} {g : G} {s : Shared}
/-- a method found on the class, called -/
theorem methAny {o : Expr} {name : Str} {apos pos : Pos} {es : List Expr} {kws : List Keyword} {Q : Value → Shared → Prop}
    (h : WP prog w A (eval o env) (fun ov s₁ => ∃ f, (∀ pl (Q' : Value × List Value → Shared → Prop), Q' (f, [ov]) s₁ → WP prog w A (getMethod ov name pl) Q' s₁) ∧
      WP prog w A (callWith pos f [ov] (backTo pos (starEach es env)) (backToKw pos (keywordEach kws env))) Q s₁) s)
    (hbase : attributeBase o name env (eval o env) = eval o env := by rfl)
    (hform : methodCallForm (es.length + kws.length) (backTo pos (starEach es env)) (backToKw pos (keywordEach kws env)) = true := by rfl)
    (hline : (apos.endLine == pos.line) = true := by rfl) :
    WP prog w A (eval (.Call (.Attribute o name apos) es kws pos) env) Q s := by
  show wpAny _ _ _ _ _ _
  rw [arm_eval_Call, hbase]
  refine wpAny_bind (wpAny_mono h (fun ov s₁ h₁ => ?_) fun _ _ e => e)
  obtain ⟨f, hm, hc⟩ := h₁
  refine wpAny_bind (wpAny_standAt ?_)
  have hpos : methodCallPos true o env apos pos = pure pos := by unfold methodCallPos; simp [hline]
  unfold methodCall
  rw [hform]
  refine wpAny_bind (wpAny_holding (hm _ _ ?_))
  exact wpAny_bind (wpAny_of_eq hpos hc)

/-- the ghost of what is held for a while -/
theorem Ext.withdraw {g g' : G} {s s' : Shared} {D : Addr} {o : Obj} (x : Ext (g.put D o) s g' s') (hD : g D = none) (hs : ∃ o, s.heap.get? D = some o) : Ext g s (fun b => if b = D then none else g' b) s' :=
  ⟨x.keeps, fun b o' e => by
    have hb : b ≠ D := by rintro rfl; rw [hD] at e; cases e
    show (if b = D then none else g' b) = some o'
    rw [if_neg hb]
    exact x.le b o' (by unfold G.put; rw [if_neg hb]; exact e), fun b o' e => by
    have e : (if b = D then none else g' b) = some o' := e
    split at e
    · cases e
    · exact x.sub b o' e, fun b o' e => by
    have e : (if b = D then none else g' b) = some o' := e
    split at e
    · cases e
    · rename_i hb
      rcases x.new b o' e with h | h
      · unfold G.put at h; rw [if_neg hb] at h; exact .inl h
      · exact .inr h⟩
theorem Ext.held {g g' : G} {s s' : Shared} {D : Addr} {o : Obj} (x : Ext g s g' s') (hD : g D = none) (hs : s.heap.get? D = some o) : Ext (g.put D o) s (g'.put D o) s' := by
  have hg' := x.gnone hD ⟨o, hs⟩
  refine ⟨x.keeps, fun b o' e => ?_, fun b o' e => ?_, fun b o' e => ?_⟩
  · unfold G.put at e ⊢
    split at e
    · rename_i hb; rw [if_pos hb]; exact e
    · rename_i hb; rw [if_neg hb]; exact x.le b o' e
  · unfold G.put at e
    split at e
    · rename_i hb; subst hb; cases e; exact kget x.keeps _ _ hs
    · exact x.sub b o' e
  · unfold G.put at e ⊢
    split at e
    · rename_i hb; rw [if_pos hb]; exact .inl e
    · rename_i hb; rw [if_neg hb]; exact x.new b o' e
/-- what does not rest on the ghost -/
def Free (P : MP) : Prop := ∀ g g' v, P.p g v → P.p g' v
theorem Ev.hold {e : Expr} {P : MP} {D : Addr} {o : Obj} (hD : g D = none) (hs : s.heap.get? D = some o) (hP : Free P) (h : Ev prog w A env (g.put D o) s e P) : Ev prog w A env g s e P := by
  intro g₁ s₁ x
  have hD₁ := x.gnone hD ⟨o, hs⟩
  have hs₁ := kget x.keeps _ _ hs
  exact wpAny_mono (h _ _ (x.held hD hs)) (fun v s₂ ⟨g₂, y, p⟩ => ⟨_, y.withdraw hD₁ ⟨o, hs₁⟩, hP _ _ v p⟩) fun _ _ f => f
end
end Mine
end
/-! ### ReA -/
section
open PySem PySem.Calls PyProof.Rows PySem.W
namespace Mine
open PySem.Builtin PySem.Builtin.Re
theorem plainAttrs_re : PlainAttrs "re.Pattern" :=
  ⟨⟨"object.__getattribute__", by rw [typeLookup_type, builtinLookup_eq_fast]; kernel_rfl, by decide +kernel⟩, by rw [typeLookup_type, builtinLookup_eq_fast]; kernel_rfl⟩
theorem slot_search : Slot "re.Pattern" (Str.ofString "search") "re.Pattern.search" :=
  .of (owner := "re.Pattern") (n := "search") (by rw [typeLookup_type, builtinLookup_eq_fast]; kernel_rfl) (by decide +kernel) (by decide +kernel) (by decide +kernel)
    (by first | exact .inl (by decide +kernel) | exact .inr (by decide +kernel)) (by rw [isSubtype_type]; kernel_rfl)
theorem type_search : typeOf (.builtin "re.Pattern.search") = pure (.type "method_descriptor") := by show builtinType _ = _; rw [builtinType_eq_fast]; kernel_rfl
theorem entry_search : entryFor table "re.Pattern.search" = some Builtin.«re.Pattern.search» := entryFor_of_tree (by kernel_rfl)
theorem args_search_2 (a b : Value) : argsOk "re.Pattern.search" ⟨[a, b], []⟩ := by unfold argsOk; kernel_rfl

section
variable {prog : Program} {w : World} {A : Around} {E : Value → Shared → Prop} {s : Shared}
theorem named1 (v : Value) : reNamed "re.Pattern.search" "search" ["string", "pos", "endpos"] 1 [v] [] = pure [some v, none, none] := by kernel_rfl
theorem rules_loop {f : Nat → Bool} {n : Nat → String} : ∀ (l : List Nat) {Q : PUnit → Shared → Prop}, Q ⟨⟩ s → wpAny (model prog w) A (forIn l PUnit.unit fun i _ => do
    if f i then rule (n i)
    pure (ForInStep.yield PUnit.unit)) Q E s
  | [], Q, h => by rw [List.forIn_nil]; exact wpAny_pure h
  | i :: l, Q, h => by
    rw [List.forIn_cons]
    refine wpAny_bind ?_
    cases f i with
    | true => exact wpAny_bind (wpAny_rule (wpAny_pure (rules_loop l h)))
    | false => exact wpAny_pure (rules_loop l h)
theorem runToEnd_none {m : Sre.M} {Q : Option Sre.M → Shared → Prop} (h : (m.runFor 4).outcome = some .failed) (hq : Q none s) : wpAny (model prog w) A (reRunToEnd m) Q E s := by
  unfold reRunToEnd
  rw [show (2 : Nat) ^ 64 = 18446744073709551615 + 1 from rfl]
  unfold reDrive
  have h' : (m.runFor reTurnSteps).outcome = some .failed := h
  dsimp only
  rw [h']
  refine wpAny_bind (wpAny_pure ?_)
  refine wpAny_bind (rules_loop _ ?_)
  rw [h']
  exact wpAny_pure hq
end
end Mine
end
/-! ### ReB -/
section
open PySem PySem.Calls PyProof.Rows PySem.W
namespace Mine
open PySem.Builtin PySem.Builtin.Re
section
variable {prog : Program} {w : World} {A : Around} {E : Value → Shared → Prop} {s : Shared}
def searchFails (code : List Int) (z : Str) : Prop :=
  (Sre.M.runFor 4 (Sre.forSearch (code.toArray.map Int.toNat) z.cps 0 (min (0 : Int).toNat z.cps.size) (min ((2 : Int) ^ 63 - 1).toNat z.cps.size) false)).outcome = some .failed
theorem search_body {p c : Addr} {pat fl : Value} {u u' : Tok} {n : Nat} {code : List Int} {z : Str} {t : Tok} {Q : Fin → Shared → Prop}
    (hp : s.heap.get? p = some { cls := .type "re.Pattern", data := .fields #[pat, fl, .int 0 u, .none, .none, .ref c, .int 0 u'] }) (hc : s.heap.get? c = some (tupObj (code.map fun i => Value.int i 0) n))
    (h : searchFails code z) (hq : Q (.done (.ret .none)) s) : wpAny (model prog w) A (Builtin.«re.Pattern.search» ⟨[.ref p, .str z t], []⟩) Q E s := by
  unfold Builtin.«re.Pattern.search»
  refine wpAny_bind ?_
  unfold reTarget
  show wpAny _ _ (reNamed "re.Pattern.search" "search" ["string", "pos", "endpos"] 1 [.str z t] [] >>= _) _ _ _
  rw [named1]
  refine wpAny_bind (wpAny_pure ?_)
  dsimp only
  refine wpAny_bind (wpAny_pure (wpAny_bind (wpAny_pure ?_)))
  refine wpAny_bind ?_
  unfold fieldsOf
  refine wpAny_bind (wpAny_load hp (wpAny_pure ?_))
  refine wpAny_bind (wpAny_pure (a := (z.cps, 0)) ?_)
  show wpAny _ _ (if false = true then _ else _) _ _ _
  rw [if_neg (by decide)]
  show wpAny _ _ (if false = true then _ else _) _ _ _
  rw [if_neg (by decide)]
  refine wpAny_bind (wpAny_pure (a := ()) ?_)
  refine wpAny_bind ?_
  show wpAny _ _ (do return ((← seqItems? (.ref c)).getD #[]).map reRawOf) _ _ _
  refine wpAny_bind (wpAny_seqItems hc rfl (wpAny_pure (wpAny_pure ?_)))
  have e : ((some (code.map fun i => Value.int i 0).toArray).getD #[]).map reRawOf = code.toArray := by
    show ((code.map fun i => Value.int i 0).toArray).map reRawOf = code.toArray
    rw [List.map_toArray, List.map_map]
    congr 1
    exact (List.map_congr_left fun i _ => rfl).trans (List.map_id _)
  rw [e]
  unfold reAnswer
  exact wpAny_bind (runToEnd_none h (wpAny_pure hq))
end
end Mine
end
/-! ### Meth2 -/
section
open PySem PySem.Calls PyProof.Rows PySem.W
namespace Mine
/-! the book -/
def hdr : Str := Str.ofString "_headers"
def bookDict (P : Params) (tk : Tok) (D : Addr) : Obj := Obj.putName hdr (PyData.keyHash P hdr) (.str hdr tk) (.ref D) emptyDict
def BookAt (P : Params) (D : Addr) : MP := ⟨fun g v => ∃ x dx tk, v = .ref x ∧ g x = some (instObj 206 dx) ∧ g dx = some (bookDict P tk D), fun up ⟨x, dx, tk, e, h1, h2⟩ => ⟨x, dx, tk, e, up _ _ h1, up _ _ h2⟩⟩
abbrev KV : (Str × Str) → MP := fun kv => Tu id [T kv.1, T kv.2]
def Book (P : Params) (kvs : List (Str × Str)) : MP := ⟨fun g v => ∃ D, (BookAt P D).p g v ∧ (Ls KV kvs).p g (.ref D), fun up ⟨D, h1, h2⟩ => ⟨D, (BookAt P D).up up h1, (Ls KV kvs).up up h2⟩⟩
theorem instAt {P : Params} {D : Addr} {g : G} {s : Shared} {x dx : Addr} {tk : Tok} (hg : Sub g s) (h1 : g x = some (instObj 206 dx)) (h2 : g dx = some (bookDict P tk D)) :
    InstAt s.heap x (instObj 206 dx) 206 (some (bookDict P tk D)) := ⟨hg _ _ h1, rfl, rfl, hg _ _ h2⟩
section
variable (P : Params)
theorem f_ga : findIn (KK P) (.ref 206) "__getattribute__" = some (some (.builtin "object.__getattribute__")) := by kernel_rfl
theorem f_gk : findIn (KK P) (.ref 206) "__getattr__" = some none := by kernel_rfl
theorem f_hdr (tk : Tok) (D : Addr) : findObj (KK P) 206 (some (bookDict P tk D)) hdr = some (.value (.ref D)) := by kernel_rfl
theorem f_conv : findIn (KK P) (.ref 206) (Str.ofString "_convert_string_type") = some (some (.ref 105)) := by kernel_rfl
theorem f_get : findIn (KK P) (.ref 206) (Str.ofString "get") = some (some (.ref 153)) := by kernel_rfl
theorem f_vals : findIn (KK P) (.ref 206) (Str.ofString "values") = some (some (.ref 163)) := by kernel_rfl
theorem f_setd : findIn (KK P) (.ref 206) (Str.ofString "setdefault") = some (some (.ref 196)) := by kernel_rfl
theorem f_init : findIn (KK P) (.ref 206) "__init__" = some (some (.ref 98)) := by kernel_rfl
theorem s_conv (tk : Tok) (D : Addr) : shadowIn (some (bookDict P tk D)) (Str.ofString "_convert_string_type") = some false := by kernel_rfl
theorem s_get (tk : Tok) (D : Addr) : shadowIn (some (bookDict P tk D)) (Str.ofString "get") = some false := by kernel_rfl
theorem s_vals (tk : Tok) (D : Addr) : shadowIn (some (bookDict P tk D)) (Str.ofString "values") = some false := by kernel_rfl
theorem s_setd (tk : Tok) (D : Addr) : shadowIn (some (bookDict P tk D)) (Str.ofString "setdefault") = some false := by kernel_rfl
end
end Mine
end
/-! ### Meth3 -/
section
open PySem PySem.Calls PyProof.Rows PySem.W
namespace Mine
section
variable {prog : Program} {w : World} {A : Around} {env : Env} {g : G} {s : Shared}
/-- pairs out of a list -/
theorem EvI2.list {α : Type} {e : Expr} {R₁ R₂ : α → MP} {xs : List α} (hh : A.handled = none) (he : Ev prog w A env g s e (Ls (fun a => Tu id [R₁ a, R₂ a]) xs)) : EvI2 prog w A env g s e xs R₁ R₂ := by
  intro g₁ s₁ x
  refine wpAny_mono (he g₁ s₁ x) (fun xv s₂ ⟨g₂, y, hp⟩ => ?_) fun _ _ f => f
  obtain ⟨l, us, n, rfl, hl, hus⟩ := hp
  refine ⟨g₂, s₂, y, ?_⟩
  have hll := lst_isList y.sub hl
  have hlt : l < s₂.heap.objs.size := Heap.lt_size (y.sub _ _ hl)
  let Ts : Nat → Addr := fun j => match us[j]? with | some (.ref a) => a | _ => 0
  let vals : Nat → Array Value := fun j => match g₂ (Ts j) with | some ⟨_, _, .seq items _, _⟩ => items | _ => #[]
  have key : ∀ j, j < us.length → ∃ a v v' k, xs[j]? = some a ∧ us[j]? = some (.ref (Ts j)) ∧ g₂ (Ts j) = some (tupObj [v, v'] k) ∧ vals j = #[v, v'] ∧ (R₁ a).p g₂ v ∧ (R₂ a).p g₂ v' := by
    intro j hj
    obtain ⟨a, ha, b, bs, k, e, hb, hbs⟩ := Paired.get' hus (List.getElem?_eq_getElem hj)
    obtain ⟨v, v', rfl, h1, h2⟩ := paired2 (P := R₁ a) (P' := R₂ a) hbs
    have e1 : us[j]? = some (.ref b) := by rw [List.getElem?_eq_getElem hj, e]
    have e2 : Ts j = b := by show (match us[j]? with | some (.ref a) => a | _ => 0) = b; rw [e1]
    have e3 : g₂ (Ts j) = some (tupObj [v, v'] k) := by rw [e2]; exact hb
    refine ⟨a, v, v', k, ha, by rw [e2]; exact e1, e3, ?_, h1, h2⟩
    show (match g₂ (Ts j) with | some ⟨_, _, .seq items _, _⟩ => items | _ => #[]) = _
    rw [e3]
    rfl
  have hsz : us.toArray.size = us.length := by simp
  refine wpAny_pyIter_list hll ?_
  have W := WalksU.listOfTuples (prog := prog) (w := w) hh s₂.heap.objs.size l (Nat.ne_of_lt hlt) us.toArray Ts vals (fun j hj => by
      obtain ⟨_, _, _, _, _, h, _⟩ := key j (by omega)
      rw [List.getElem?_toArray]; exact h) (fun j hj => by
      obtain ⟨_, _, _, _, _, _, h, _⟩ := key j (by omega)
      exact Nat.ne_of_lt (Heap.lt_size (y.sub _ _ h)))
  rw [show us.toArray.size = xs.length from by rw [hsz, Paired.length hus]] at W
  refine ⟨_, _, _, _, _, _, rfl, push_keeps s₂ _, W, ?_, one_new s₂, ?_, ⟨⟨_, Heap.get?_push_size _ rfl, rfl, rfl⟩, hll.push _, fun k hk => ?_⟩, ?_, ?_⟩
  · rintro i vs a rfl ha
    have hi : i < us.length := by rw [← Paired.length hus]; exact (List.getElem?_eq_some_iff.mp ha).1
    obtain ⟨a', v, v', k, ha', _, _, h4, h5, h6⟩ := key i hi
    rw [ha] at ha'
    cases ha'
    exact ⟨v, v', h4, h5, h6⟩
  · intro b hb
    show b < (s₂.heap.push _).objs.size
    rw [Heap.size_push]
    rcases List.mem_cons.mp hb with rfl | hb
    · exact Nat.lt_succ_self _
    · rcases List.mem_cons.mp hb with rfl | hb
      · exact Nat.lt_succ_of_lt hlt
      · obtain ⟨j, hj, rfl⟩ := List.mem_map.mp hb
        have hj' : j < us.length := by rw [← Paired.length hus]; exact List.mem_range.mp hj
        obtain ⟨_, _, _, _, _, _, h, _⟩ := key j hj'
        exact Nat.lt_succ_of_lt (Heap.lt_size (y.sub _ _ h))
  · obtain ⟨_, v, v', n, _, _, h, h4, _⟩ := key k (by rw [← Paired.length hus]; exact hk)
    rw [h4]
    exact (show s₂.heap.IsTuple (Ts k) #[v, v'] from tup_isTuple y.sub h).push _
  · rintro i h ⟨⟨o, ho, _⟩, _⟩ b hb
    rcases List.mem_singleton.mp hb with rfl
    exact ⟨o, ho⟩
  · intro b hb
    rcases List.mem_cons.mp hb with rfl | hb
    · exact .inl List.mem_cons_self
    · rcases List.mem_cons.mp hb with rfl | hb
      · exact .inr ⟨_, hl⟩
      · obtain ⟨j, hj, rfl⟩ := List.mem_map.mp hb
        have hj' : j < us.length := by rw [← Paired.length hus]; exact List.mem_range.mp hj
        obtain ⟨_, _, _, _, _, _, h, _⟩ := key j hj'
        exact .inr ⟨_, h⟩
end

section
variable {prog : Program} {w : World} {A : Around} {env : Env} {g₀ g : G} {s₀ s : Shared} {m cm : Str → Option Value} {pv : List (Addr × Obj)}
theorem for_pairs {α : Type} {xs : List α} {R₁ R₂ : α → MP} {x y : Str} {px py tp : Pos} {kk : Nat} {iter : Expr} {body rest : List Stmt} {pos : Pos} {Q : Flow → Shared → Prop} (hh : A.handled = none)
    (J : Nat → (Str → Option Value) → (Str → Option Value) → G → List (Addr × Obj) → Prop)
    (Jup : ∀ i m cm g g' pv, GLe g g' → J i m cm g pv → J i m cm g' pv) (J0 : J 0 m cm g pv) (F : Fs pv g₀ s₀ env m cm g s) (hi : EvI2 prog w A env g s iter xs R₁ R₂)
    (turn : ∀ i a v v' m cm g s pv wpv, xs[i]? = some a → (R₁ a).p g v → (R₂ a).p g v' → (∀ p ∈ wpv, ∀ q ∈ pv, p.1 ≠ q.1) → J i m cm g pv → Fs (wpv ++ pv) g₀ s₀ env (upd (upd m x v) y v') cm g s →
      XS prog w A env body (Turned pv wpv g₀ s₀ env g (J (i + 1)) Q) s)
    (after : ∀ m cm g s pv, J xs.length m cm g pv → Fs pv g₀ s₀ env m cm g s → XS prog w A env rest Q s)
    (hlx : env.kindOf x = some .local := by rfl) (hly : env.kindOf y = some .local := by rfl) (hk : env.scope.kind = .function := by rfl)
    (hs : ∀ x, foldedSetIterable iter env x = pure x := by intro _; rfl) :
    XS prog w A env (.For (.Tuple [.Name x px, .Name y py] kk tp) iter body [] pos :: rest) Q s := by
  refine wpAny_execs_cons (wpAny_For (wpAny_mono (hi g s (Ext.refl F.sub)) (fun xv s₂ h₂ => ?_) fun _ _ f => f) hs)
  obtain ⟨g₂, sm, y₂, h₂⟩ := h₂
  refine wpAny_mono h₂ (fun it s₃ h₃ => ?_) fun _ _ f => f
  obtain ⟨Id, fp, wr, Pt, St, Mid, rfl, k, W, hP, hw, hfp, hst, hal, hin⟩ := h₃
  have Fm := F.step y₂
  have F₂ := Fm.step (Ext.keep Fm.sub k)
  have priv : ∀ a ∈ wr, g₂ a = none ∧ a ≠ env.locals ∧ (∀ n c, env.cells.lookup n = some c → c ≠ a) ∧ s₀.heap.get? a = none := fun a ha => by
    have hn := hw a ha
    refine ⟨sub_none Fm.sub hn, ?_, fun n c hc e => ?_, Fm.gone hn⟩
    · rintro rfl
      obtain ⟨o, ho⟩ := Fm.alive
      rw [hn] at ho; cases ho
    · subst e
      obtain ⟨o, ho, _⟩ := Fm.x.cell n c hc
      rw [hn] at ho; cases ho
  have pvw : ∀ p ∈ pv, p.1 ∉ wr := fun p hp h => by
    have := (Fm.held p hp).1
    rw [hw _ h] at this; cases this
  have core := forLoop_turns (prog := prog) (w := w) (A := A) (env := env) (target := .Tuple [.Name x px, .Name y py] kk tp) (it := .ref Id) (body := body) (orelse := []) (R := fun r s' => match r with
      | .ok f => (match f with | .next => XS prog w A env rest Q s' | f => Q f s')
      | .error _ => False) (fun n s' => ∃ i m cm g' pv', n = xs.length + 1 - i ∧ i ≤ xs.length ∧ Fs pv' g₀ s₀ env m cm g' s' ∧ GLe g₂ g' ∧ J i m cm g' pv' ∧ St i s'.heap ∧ (∀ a ∈ wr, g' a = none) ∧ (∀ p ∈ pv', p.1 ∉ wr)) (s := s₃) ?_ (xs.length + 1)
    ⟨0, m, cm, g₂, pv, rfl, Nat.zero_le _, F₂, fun _ _ e => e, Jup _ _ _ _ _ _ y₂.le J0, hst, fun a ha => (priv a ha).1, pvw⟩
  · exact codeAny_mono core fun r s' hr => by
      cases r with
      | ok f => cases f <;> exact hr
      | error e => exact hr.elim
  rintro n s' ⟨i, m', cm', g', pv', rfl, hi', F', le, hJ, hst', hgw, hpw⟩
  have priv' : ∀ a ∈ wr, g' a = none ∧ a ≠ env.locals ∧ (∀ n c, env.cells.lookup n = some c → c ≠ a) ∧ s₀.heap.get? a = none := fun a ha => ⟨hgw a ha, (priv a ha).2⟩
  by_cases hlt : i < xs.length
  · have ha : xs[i]? = some xs[i] := List.getElem?_eq_getElem hlt
    generalize xs[i] = a at ha
    refine W.item i s' _ _ hlt hst' fun Tt vals h₃ tk hv hT hM hk₃ => ?_
    refine W.go _ _ _ i Tt _ _ _ hM fun h₄ hst₄ hk₄ => ?_
    obtain ⟨v, v', rfl, p₁, p₂⟩ := hP i vals a hv ha
    have F₃ := F'.away (h' := h₄) (tk := tk) wr priv' hpw (fun b o hb e => hk₄ b o hb (hk₃ b o hb e))
    have hT' : h₄.IsTuple Tt #[v, v'] := hT.at fun o e => hk₄ Tt o (W.apart _ _ _ hM) e
    have al := hal _ _ hst₄
    refine wpAny_assign_Tuple hh hT' rfl rfl fun h₅ he₅ => ?_
    have hk₅ : ∀ b o, h₄.get? b = some o → h₅.get? b = some o := fun b o e => he₅ b o (Nat.ne_of_lt (Heap.lt_size e)) e
    have F₅ := F₃.step (Ext.keep (s' := { s' with heap := h₅, toks := tk }) F₃.sub ⟨h₅, tk, rfl, hk₅⟩)
    have hst₅ : St (i + 1) h₅ := W.frame _ _ _ hst₄ fun b _ o e => hk₅ b o e
    have al₅ := hal _ _ hst₅
    have F₅' : Fs (snap h₅ wr ++ pv') g₀ s₀ env m' cm' g' { s' with heap := h₅, toks := tk } := ⟨F₅.x, F₅.le, F₅.sub, F₅.new, F₅.fr, F₅.frc, fun p hp => by
      rcases List.mem_append.mp hp with h | h
      · obtain ⟨h1, h2⟩ := mem_snap.mp h
        obtain ⟨q1, q2, q3, q4⟩ := priv' _ h1
        exact ⟨h2, q1, q2, q3, q4⟩
      · exact F₅.held p h⟩
    show wpAny _ A (assignInOrder [assign (.Name x px) env, assign (.Name y py) env] [_, _]) _ _ _
    simp only [assignInOrder]
    refine wpAny_bind (wpAny_holding (wpAny_assign_Name (F₅'.stL hlx hk fun s₆ F₆ => ?_)))
    refine wpAny_bind (wpAny_holding (wpAny_assign_Name (F₆.stL hly hk fun s₇ F₇ => ?_)))
    refine wpAny_pure ?_
    refine wpAny_mono (turn i a v v' m' cm' g' _ pv' (snap h₅ wr) ha ((R₁ a).up le p₁) ((R₂ a).up le p₂) (fun p hp q hq e => hpw q hq (e ▸ (mem_snap.mp hp).1)) hJ F₇) (fun f s₅ h₅' => ?_) fun _ _ f => f
    have fin : (∃ m'' cm'' g'' pv'', Fs (snap h₅ wr ++ pv'') g₀ s₀ env m'' cm'' g'' s₅ ∧ GLe g' g'' ∧ J (i + 1) m'' cm'' g'' pv'' ∧ pv''.map (·.1) = pv'.map (·.1)) → ∃ n', n' < xs.length + 1 - i ∧ ∃ i m cm g' pv', n' = xs.length + 1 - i ∧ i ≤ xs.length ∧ Fs pv' g₀ s₀ env m cm g' s₅ ∧ GLe g₂ g' ∧ J i m cm g' pv' ∧ St i s₅.heap ∧ (∀ a ∈ wr, g' a = none) ∧ (∀ p ∈ pv', p.1 ∉ wr) := by
      rintro ⟨m'', cm'', g'', pv'', F₈, le₈, hJ₈, hadr⟩
      have heldw : ∀ a ∈ wr, ∀ o, h₅.get? a = some o → s₅.heap.get? a = some o ∧ g'' a = none := fun a ha o ho => by
        have := F₈.held (a, o) (List.mem_append.mpr (.inl (mem_snap.mpr ⟨ha, ho⟩)))
        exact ⟨this.1, this.2.1⟩
      refine ⟨xs.length + 1 - (i + 1), by omega, i + 1, m'', cm'', g'', pv'', rfl, hlt, F₈.less fun p hp => List.mem_append.mpr (.inr hp), fun b o e => le₈ b o (le b o e), hJ₈, W.frame _ _ _ hst₅ fun b hb o e => ?_, fun a ha => ?_, fun p hp h => ?_⟩
      · rcases hin b hb with h | ⟨o', ho'⟩
        · exact (heldw b h o e).1
        · have e1 := F₅.sub b o' (le b o' ho')
          have e2 := F₈.sub b o' (le₈ b o' (le b o' ho'))
          have : h₅.get? b = some o' := e1
          rw [e] at this; cases this
          exact e2
      · obtain ⟨o, ho⟩ := al₅ a ha
        exact (heldw a ha o ho).2
      · have h1 : p.1 ∈ pv''.map (·.1) := List.mem_map_of_mem hp
        rw [hadr] at h1
        obtain ⟨q, hq, e⟩ := List.mem_map.mp h1
        exact hpw q hq (e ▸ h)
    cases f with
    | next => exact fin h₅'
    | cont => exact fin h₅'
    | brk => exact h₅'.elim
    | ret v => exact h₅'
  · have hin : i = xs.length := by omega
    subst hin
    refine W.done s' _ _ hst' fun h₃ tk hk₃ => ?_
    exact wpAny_execs_nil (after m' cm' g' _ pv' hJ (F'.away (h' := h₃) (tk := tk) wr priv' hpw hk₃))
end
end Mine
end
/-! ### Meth4 -/
section
open PySem PySem.Calls PyProof.Rows PySem.W
namespace Mine
section
variable {prog : Program} {w : World} {A : Around} {env : Env} {g : G} {s : Shared}

/-- the book's list -/
theorem Ev.headers {o : Expr} {pos : Pos} {D : Addr} (B : Base w s.heap) (ho : Ev prog w A env g s o (BookAt w.params D)) (hbase : attributeBase o hdr env (eval o env) = eval o env := by rfl) :
    Ev prog w A env g s (.Attribute o hdr pos) (Is (.ref D)) := by
  intro g₁ s₁ x
  show wpAny _ A (do
    let o' ← attributeBase o hdr env (eval o env)
    standAt pos.atName
    let r ← holding [o'] (getAttr o' hdr true)
    letTemporaryGo o o' r
    pure r) _ _ s₁
  rw [hbase]
  refine wpAny_bind (wpAny_mono (ho _ _ x) (fun v s₂ ⟨g₂, y, xa, dx, tk, e, h1, h2⟩ => ?_) fun _ _ f => f)
  subst e
  have B₂ := (B.ext x).ext y
  refine wpAny_bind (wpAny_standAt (wpAny_bind (wpAny_holding ?_)))
  refine get_value (v := .ref D) B₂.1 (instAt y.sub h1 h2) (f_ga _) (f_hdr _ tk D) rfl ?_
  exact wpAny_bind (wpAny_letTemporaryGo (wpAny_pure ⟨g₂, y.tr (Ext.toks y.sub _), rfl⟩))

/-- how a method of the book is found -/
def Finds (prog : Program) (w : World) (A : Around) (name : Str) (f : Addr) (P : MP) : Prop :=
  ∀ g s v, Sub g s → Base w s.heap → P.p g v → ∀ (pl : Sem Bool) (Q : Value × List Value → Shared → Prop), Q (.ref f, [v]) s → WP prog w A (getMethod v name pl) Q s
theorem finds_of {name : Str} {f : Addr} {D : Addr} (hf : findIn (KK w.params) (.ref 206) name = some (some (.ref f))) (ht : typeIn (KK w.params) (.ref f) = some (.type "function")) (hs : ∀ tk, shadowIn (some (bookDict w.params tk D)) name = some false) :
    Finds prog w A name f (BookAt w.params D) := by
  rintro g s v hg B ⟨x, dx, tk, rfl, h1, h2⟩ pl Q hq
  exact method_fn B.1 (instAt hg h1 h2) (f_ga _) (f_gk _) hf ht (hs tk) hq
theorem Finds.book {name : Str} {f : Addr} {kvs : List (Str × Str)} (h : ∀ D, Finds prog w A name f (BookAt w.params D)) : Finds prog w A name f (Book w.params kvs) := by
  rintro g s v hg B ⟨D, hb, _⟩ pl Q hq
  exact h D g s v hg B hb pl Q hq
theorem finds_conv {D : Addr} : Finds prog w A (Str.ofString "_convert_string_type") 105 (BookAt w.params D) := finds_of (f_conv _) (by kernel_rfl) fun tk => s_conv _ tk D
theorem finds_get {D : Addr} : Finds prog w A (Str.ofString "get") 153 (BookAt w.params D) := finds_of (f_get _) (by kernel_rfl) fun tk => s_get _ tk D
theorem finds_vals {D : Addr} : Finds prog w A (Str.ofString "values") 163 (BookAt w.params D) := finds_of (f_vals _) (by kernel_rfl) fun tk => s_vals _ tk D
theorem finds_setd {D : Addr} : Finds prog w A (Str.ofString "setdefault") 196 (BookAt w.params D) := finds_of (f_setd _) (by kernel_rfl) fun tk => s_setd _ tk D

/-- arguments by name that turn nothing -/
def EvK (prog : Program) (w : World) (A : Around) (env : Env) (kws : List Keyword) (vals : List Value) : Prop :=
  ∀ pos s (Q : List Value → Shared → Prop), Q vals s → WP prog w A (evalAll ((backToKw pos (keywordEach kws env)).map (·.2))) Q s
theorem EvK.nil : EvK prog w A env [] [] := fun pos s Q h => kwAll_nil h
theorem EvK.bool {name : Str} {b : Bool} {k : Nat} {p cp : Pos} : EvK prog w A env [⟨some name, .Constant (.bool b) k cp, p⟩] [.bool b] :=
  fun pos s Q h => kwAll_cons (wpAny_Constant_bool (kwAll_nil h))

/-- a method's call, by hand -/
theorem methRaw {o e : Expr} {name : Str} {apos pos : Pos} {es : List Expr} {kws : List Keyword} {f : Addr} {fd : FuncData} {Ps : List MP} {PO : MP} {vals : List Value} {g₁ : G} {s₁ : Shared} {Q : Value → Shared → Prop}
    (B : Base w s.heap) (ho : Ev prog w A env g s o PO) (hm : Finds prog w A name f PO) (ha : EvL prog w A env g s (e :: es) Ps) (hk : EvK prog w A env kws vals) (x : Ext g s g₁ s₁)
    (h : ∀ g' s' v vs, Ext g₁ s₁ g' s' → PO.p g' v → Paired (fun P v => MP.p P g' v) Ps vs → WP prog w A (PySem.call (.ref f) (v :: vs) (((backToKw pos (keywordEach kws env)).filterMap (·.1)).zip vals)) Q s')
    (hfd : fnAt (KK w.params) f = some fd)
    (hall : (backToKw pos (keywordEach kws env)).all (·.1.isSome) = true := by rfl)
    (he : starEach (e :: es) env = (false, eval e env) :: starEach es env := by rfl)
    (hbase : attributeBase o name env (eval o env) = eval o env := by rfl)
    (hform : methodCallForm ((e :: es).length + kws.length) (backTo pos (starEach (e :: es) env)) (backToKw pos (keywordEach kws env)) = true := by rfl)
    (hline : (apos.endLine == pos.line) = true := by rfl) :
    WP prog w A (eval (.Call (.Attribute o name apos) (e :: es) kws pos) env) Q s₁ := by
  refine methAny (wpAny_mono (ho _ _ x) (fun v s₂ ⟨g₂, y, hv⟩ => ?_) fun _ _ f => f) hbase hform hline
  have xy := x.tr y
  have B₂ := B.ext xy
  refine ⟨.ref f, fun pl Q' hq => hm g₂ s₂ v y.sub B₂ hv pl Q' hq, ?_⟩
  obtain ⟨oo, hoo, hd⟩ := fnAt_get B₂.1 hfd
  refine callWith_function_kw (o := oo) (fd := fd) (evalArgs_kw2 hall (wpAny_mono (ha pos _ _ xy) (fun vs s₃ ⟨g₃, z, hp⟩ => hk pos s₃ _ ?_) fun _ _ f => f) he)
  exact ⟨⟨kget z.keeps _ _ hoo, hd⟩, h g₃ s₃ v vs (y.tr z) (PO.up z.le hv) hp⟩
theorem Ev.meth {o e : Expr} {name : Str} {apos pos : Pos} {es : List Expr} {kws : List Keyword} {f : Addr} {fd : FuncData} {Ps : List MP} {PO R : MP} {vals : List Value} {n : Nat} {kw : List (Str × Value)}
    (B : Base w s.heap) (hA : Room A n) (hf : FnK prog w n f (PO :: Ps) kw R) (ho : Ev prog w A env g s o PO) (hm : Finds prog w A name f PO) (ha : EvL prog w A env g s (e :: es) Ps) (hk : EvK prog w A env kws vals)
    (hkw : ((backToKw pos (keywordEach kws env)).filterMap (·.1)).zip vals = kw := by rfl)
    (hfd : fnAt (KK w.params) f = some fd := by rfl)
    (hall : (backToKw pos (keywordEach kws env)).all (·.1.isSome) = true := by rfl)
    (he : starEach (e :: es) env = (false, eval e env) :: starEach es env := by rfl)
    (hbase : attributeBase o name env (eval o env) = eval o env := by rfl)
    (hform : methodCallForm ((e :: es).length + kws.length) (backTo pos (starEach (e :: es) env)) (backToKw pos (keywordEach kws env)) = true := by rfl)
    (hline : (apos.endLine == pos.line) = true := by rfl) :
    Ev prog w A env g s (.Call (.Attribute o name apos) (e :: es) kws pos) R := by
  intro g₁ s₁ x
  refine methRaw B ho hm ha hk x (fun g' s' v vs y hv hp => ?_) hfd hall he hbase hform hline
  rw [hkw]
  exact wpAny_mono (hf A g' s' (v :: vs) hA ((B.ext x).ext y) y.sub (.cons hv hp)) (fun r s₂ ⟨g₂, z, hr⟩ => ⟨g₂, y.tr z, hr⟩) fun _ _ f => f
theorem Ev.meth0 {o : Expr} {name : Str} {apos pos : Pos} {f : Addr} {fd : FuncData} {PO R : MP} {n : Nat}
    (B : Base w s.heap) (hA : Room A n) (hf : FnK prog w n f [PO] [] R) (ho : Ev prog w A env g s o PO) (hm : Finds prog w A name f PO)
    (hfd : fnAt (KK w.params) f = some fd := by rfl)
    (hbase : attributeBase o name env (eval o env) = eval o env := by rfl)
    (hline : (apos.endLine == pos.line) = true := by rfl) :
    Ev prog w A env g s (.Call (.Attribute o name apos) [] [] pos) R := by
  intro g₁ s₁ x
  refine methAny (wpAny_mono (ho _ _ x) (fun v s₂ ⟨g₂, y, hv⟩ => ?_) fun _ _ f => f) hbase rfl hline
  have B₂ := (B.ext x).ext y
  refine ⟨.ref f, fun pl Q' hq => hm g₂ s₂ v y.sub B₂ hv pl Q' hq, ?_⟩
  obtain ⟨oo, hoo, hd⟩ := fnAt_get B₂.1 hfd
  refine callWith_function_kw (o := oo) (fd := fd) (evalArgs_kw2_nil rfl (kwAll_nil ?_))
  exact ⟨⟨hoo, hd⟩, wpAny_mono (hf A g₂ s₂ [v] hA B₂ y.sub (.cons hv .nil)) (fun r s₃ ⟨g₃, z, hr⟩ => ⟨g₃, y.tr z, hr⟩) fun _ _ f => f⟩

/-! the two patterns -/
def nameCode : List Int := [14, 10, 4, 1, 1, 22, 0, 31, 16, 127, 0, 13, 7, 22, 0, 31, 16, 127, 0, 1]
def valueCode : List Int := [14, 14, 4, 1, 1, 9, 4294966783, 0, 0, 2147483648, 0, 0, 0, 0, 0, 13, 11, 9, 4294966783, 0, 0, 2147483648, 0, 0, 0, 0, 0, 1]
def codeOf (b : Bool) : List Int := if b then nameCode else valueCode
def reAddr (b : Bool) : Addr := if b then 78 else 83
theorem re_look (P : Params) (b : Bool) : ∃ pat fl u u' c n, (KK P).lookup (reAddr b) = some { cls := .type "re.Pattern", data := .fields #[pat, fl, .int 0 u, .none, .none, .ref c, .int 0 u'] } ∧
    (KK P).lookup c = some (tupObj ((codeOf b).map fun i => Value.int i 0) n) := by
  cases b
  · exact ⟨_, _, _, _, 82, 0, rfl, rfl⟩
  · exact ⟨_, _, _, _, 77, 0, rfl, rfl⟩
theorem Ev.search {o e : Expr} {apos pos : Pos} {b : Bool} {z : Str} (B : Base w s.heap) (ho : Ev prog w A env g s o (Is (.ref (reAddr b)))) (he : Ev prog w A env g s e (T z)) (hz : searchFails (codeOf b) z)
    (hbase : attributeBase o (Str.ofString "search") env (eval o env) = eval o env := by rfl) (hs : starEach [e] env = [(false, eval e env)] := by rfl) (hline : (apos.endLine == pos.line) = true := by rfl) :
    Ev prog w A env g s (.Call (.Attribute o (Str.ofString "search") apos) [e] [] pos) No := by
  intro g₁ s₁ x
  refine Call_method1 hbase hs hline (wpAny_mono (ho _ _ x) (fun v s₂ ⟨g₂, y, hv⟩ => ?_) fun _ _ f => f)
  have hv' : v = .ref (reAddr b) := hv
  subst hv'
  obtain ⟨pat, fl, u, u', c, n, h1, h2⟩ := re_look w.params b
  have B₂ := (B.ext x).ext y
  have o1 := B₂.1 _ _ h1
  have o2 := B₂.1 _ _ h2
  refine ⟨"re.Pattern", "re.Pattern.search", plainAttrs_re, slot_search, type_search, ⟨_, o1, rfl⟩, fun a e => ?_, ?_⟩
  · cases e
    exact ⟨_, o1, rfl⟩
  · refine Calls.callWith_builtin rfl (Calls.evalArgs_plain (Calls.spliced_cons (wpAny_mono (he _ _ (x.tr y)) (fun v s₃ ⟨g₃, q, t, hv⟩ => Calls.spliced_nil ?_) fun _ _ f => f)))
    subst hv
    have p1 := kget q.keeps _ _ o1
    have p2 := kget q.keeps _ _ o2
    exact wpAny_call_entry slot_search ⟨_, p1, rfl⟩ entry_search (search_body p1 p2 hz ⟨_, rfl, g₃, y.tr q, rfl⟩) (args_search_2 _ _)

/-! truth -/
theorem EvT.ofBo {e : Expr} {b : Bool} (h : Ev prog w A env g s e (Bo b)) (he : isTrue e env (eval e env) = (do let v ← eval e env; standAt e.pos; holding [v] (truthy v)) := by rfl) : EvT prog w A env g s e b :=
  fun g₁ s₁ y => isTrue_plain (wpAny_mono (h g₁ s₁ y) (fun v s₂ ⟨g₂, z, hv⟩ => by
    have hv' : v = .bool b := hv
    subst hv'
    exact wpAny_truthy_bool ⟨rfl, g₂, z⟩) fun _ _ f => f) he
theorem EvT.ofNo {e : Expr} (h : Ev prog w A env g s e No) (he : isTrue e env (eval e env) = (do let v ← eval e env; standAt e.pos; holding [v] (truthy v)) := by rfl) : EvT prog w A env g s e false :=
  fun g₁ s₁ y => isTrue_plain (wpAny_mono (h g₁ s₁ y) (fun v s₂ ⟨g₂, z, hv⟩ => by
    have hv' : v = .none := hv
    subst hv'
    exact wpAny_of_eq (a := false) rfl ⟨rfl, g₂, z⟩) fun _ _ f => f) he
theorem op_isTy {a b : String} {v u : Value} (hg : Sub g s) (ha : (Is (.type a)).p g v) (hb : (Is (.type b)).p g u) : Op prog w A (compareOp .Is v u) g s (Bo (Value.type a == Value.type b)) := by
  have e1 : v = .type a := ha
  have e2 : u = .type b := hb
  subst e1 e2
  exact wpAny_is_plain rfl ⟨g, Ext.refl hg, rfl⟩
theorem op_isntTy {a b : String} {v u : Value} (hg : Sub g s) (ha : (Is (.type a)).p g v) (hb : (Is (.type b)).p g u) : Op prog w A (compareOp .IsNot v u) g s (Bo (!(Value.type a == Value.type b))) := by
  have e1 : v = .type a := ha
  have e2 : u = .type b := hb
  subst e1 e2
  exact wpAny_isNot_plain rfl ⟨g, Ext.refl hg, rfl⟩
theorem op_typeT {z : Str} {v : Value} (hg : Sub g s) (h : (T z).p g v) : Op prog w A (PySem.call (.type "type") [v]) g s (Is (.type "str")) := by
  obtain ⟨t, rfl⟩ := h
  exact call_type_of (typeIs_str s z t) (by decide) ⟨g, Ext.refl hg, rfl⟩
theorem op_typeL {α : Type} {R : α → MP} {xs : List α} {v : Value} (hg : Sub g s) (h : (Ls R xs).p g v) : Op prog w A (PySem.call (.type "type") [v]) g s (Is (.type "list")) := by
  obtain ⟨a, vs, n, rfl, ha, _⟩ := h
  exact call_type_of ⟨_, hg _ _ ha, rfl⟩ (by decide) ⟨g, Ext.refl hg, rfl⟩
end
end Mine
end
/-! ### Fn9 -/
section
open PySem PySem.Calls PyProof.Rows PySem.W
namespace Mine
section
variable {prog : Program} {w : World}
abbrev kwName (b : Bool) : List (Str × Value) := [(Str.ofString "name", .bool b)]
theorem fn_convert {PO : MP} {z : Str} {b : Bool} (hz : searchFails (codeOf b) z) : FnK prog w 2 105 [PO, T z] (kwName b) (T z) := by
  have hfd : fnAt (KK w.params) 105 = some _ := rfl
  refine FnK.k (n := 1) (binds := fun vs => [(Str.ofString "self", vs[0]!), (Str.ofString "value", vs[1]!), (Str.ofString "name", .bool b)]) hfd rfl rfl ?_ ?_ ?_
  · intro g vs h
    obtain ⟨v, v', rfl, _, _⟩ := paired2 h
    rfl
  · intro g vs L h x hx
    rcases List.mem_cons.mp hx with rfl | hx
    · exact .inl rfl
    · rcases List.mem_cons.mp hx with rfl | hx
      · exact .inl rfl
      · rcases List.mem_singleton.mp hx with rfl
        exact .inl rfl
  · intro A g s vs L s₁ hA B B₁ h F
    obtain ⟨v, v', rfl, _, p⟩ := paired2 h
    refine xs_if (t := true) F (EvT.cmp (P₁ := Is (.type "str")) (P₂ := Is (.type "str")) (Ev.ty B₁ (EvL.cons (Ev.nLocal F.ns rfl p) EvL.nil) (fun g' s' vs x hp => ?_) rfl) (Ev.bu B₁ rfl rfl) fun g s a b => op_isTy)
      (fun _ g₁ s₂ F₁ le₁ => ?_) (fun e => nomatch e)
    · obtain ⟨v, rfl, q⟩ := paired1 hp
      exact op_typeT x.sub q
    have B₂ := F₁.base B
    have p₁ := (T z).up le₁ p
    refine xs_assign (P := Is (.ref (reAddr b))) F₁ (Ev.ite (c := b) (EvT.ofBo (Ev.nLocal (v := .bool b) F₁.ns rfl rfl))
      (fun e => Ev.weak (Ev.gl B₂ (v := .ref 78) rfl) fun g v q => by rw [e]; exact q) (fun e => Ev.weak (Ev.gl B₂ (v := .ref 83) rfl) fun g v q => by rw [e]; exact q)) fun vr g₂ s₃ F₂ le₂ hr => ?_
    have p₂ := (T z).up le₂ p₁
    refine xs_if (t := false) F₂ (EvT.ofNo (Ev.search (F₂.base B) (Ev.nLocal F₂.ns upd_eq hr) (Ev.nLocal F₂.ns ((upd_ne (by decide)).trans rfl) p₂) hz)) (fun e => nomatch e) (fun _ g₃ s₄ F₃ le₃ => xs_nil ?_)
    exact xs_ret F₃ (Ev.nLocal F₃.ns ((upd_ne (by decide)).trans rfl) ((T z).up le₃ p₂)) fun v g' s' x q => ⟨v, g', rfl, x, q⟩

theorem Ev.headersL {A : Around} {env : Env} {g : G} {s : Shared} {o : Expr} {pos : Pos} {kvs : List (Str × Str)} (B : Base w s.heap) (ho : Ev prog w A env g s o (Book w.params kvs)) (hbase : attributeBase o hdr env (eval o env) = eval o env := by rfl) :
    Ev prog w A env g s (.Attribute o hdr pos) (Ls KV kvs) := by
  intro g₁ s₁ x
  show wpAny _ A (do
    let o' ← attributeBase o hdr env (eval o env)
    standAt pos.atName
    let r ← holding [o'] (getAttr o' hdr true)
    letTemporaryGo o o' r
    pure r) _ _ s₁
  rw [hbase]
  refine wpAny_bind (wpAny_mono (ho _ _ x) (fun v s₂ ⟨g₂, y, D, ⟨xa, dx, tk, e, h1, h2⟩, hl⟩ => ?_) fun _ _ f => f)
  subst e
  have B₂ := (B.ext x).ext y
  refine wpAny_bind (wpAny_standAt (wpAny_bind (wpAny_holding ?_)))
  refine get_value (v := .ref D) B₂.1 (instAt y.sub h1 h2) (f_ga _) (f_hdr _ tk D) rfl ?_
  exact wpAny_bind (wpAny_letTemporaryGo (wpAny_pure ⟨g₂, y.tr (Ext.toks y.sub _), hl⟩))

/-! get -/
def findKv (kvs : List (Str × Str)) (nm : Str) : Option Str := (kvs.find? fun kv => Txt.lower kv.1 == nm).map (·.2)
def Opt (o : Option Str) : MP := match o with | some v => T v | none => No
structure Short (z : Str) : Prop where
  len : z.length ≤ 1000000
theorem fn_get {kvs : List (Str × Str)} {nm : Str} (hk : ∀ kv ∈ kvs, kv.1.length ≤ 1000000) (hn : nm.length ≤ 1000000) (hz : searchFails nameCode (Txt.lower nm)) :
    FnK prog w 3 153 [Book w.params kvs, T nm] [] (Opt (findKv kvs (Txt.lower nm))) := by
  have hfd : fnAt (KK w.params) 153 = some _ := rfl
  refine FnK.k (n := 2) (binds := fun vs => [(Str.ofString "self", vs[0]!), (Str.ofString "name", vs[1]!), (Str.ofString "default", .none)]) hfd rfl rfl ?_ ?_ ?_
  · intro g vs h
    obtain ⟨v, v', rfl, _, _⟩ := paired2 h
    rfl
  · intro g vs L h x hx
    rcases List.mem_cons.mp hx with rfl | hx
    · exact .inl rfl
    · rcases List.mem_cons.mp hx with rfl | hx
      · exact .inl rfl
      · rcases List.mem_singleton.mp hx with rfl
        exact .inl rfl
  · intro A g s vs L s₁ hA B B₁ h F
    obtain ⟨v, v', rfl, p, p'⟩ := paired2 h
    refine xs_assign F (Ev.meth (kw := kwName true) B₁ (hA.less (by omega)) (fn_convert (b := true) hz) (Ev.nLocal F.ns rfl p) (Finds.book fun D => finds_conv) (EvL.cons (Ev.lower (Ev.nLocal F.ns rfl p') hn) EvL.nil) EvK.bool) fun vn g₂ s₂ F₂ le₂ hnm => ?_
    have B₂ := F₂.base B
    refine for_pairs (xs := kvs) (R₁ := fun kv => T kv.1) (R₂ := fun kv => T kv.2) hA.handled (fun i m cm g pv => pv = [] ∧ m (Str.ofString "name") = some vn ∧ m (Str.ofString "default") = some .none ∧ (T (Txt.lower nm)).p g vn ∧ (kvs.take i).find? (fun kv => Txt.lower kv.1 == Txt.lower nm) = none)
      (fun i m cm g g' pv le ⟨h1, h2, h3, h4, h5⟩ => ⟨h1, h2, h3, (T _).up le h4, h5⟩) ⟨rfl, upd_eq, (upd_ne (by decide)).trans rfl, hnm, rfl⟩ F₂
      (EvI2.list hA.handled (Ev.headersL B₂ (Ev.nLocal F₂.ns ((upd_ne (by decide)).trans rfl) ((Book w.params kvs).up le₂ p)))) ?_ ?_
    · rintro i a v₁ v₂ m cm g s pv wpv ha h1 h2 hw ⟨rfl, hm, hd, hp, hf⟩ F
      have hka := hk a (List.mem_of_getElem? ha)
      refine xs_if (t := Txt.lower a.1 == Txt.lower nm) F (EvT.cmp (Ev.lower (Ev.nLocal F.ns ((upd_ne (by decide)).trans upd_eq) h1) hka) (Ev.nLocal F.ns ((upd_ne (by decide)).trans ((upd_ne (by decide)).trans hm)) hp) fun g s a b => op_eqT)
        (fun e g₁ s₁ F₁ le₁ => ?_) (fun e g₁ s₁ F₁ le₁ => xs_nil (xs_nil ?_))
      · refine xs_ret F₁ (Ev.nLocal F₁.ns upd_eq ((T a.2).up le₁ h2)) fun v g' s' x q => ⟨v, g', rfl, x, ?_⟩
        have hfk : findKv kvs (Txt.lower nm) = some a.2 := by
          unfold findKv
          have hi := (List.getElem?_eq_some_iff.mp ha).1
          have hsplit : kvs = kvs.take i ++ a :: kvs.drop (i + 1) := by
            rw [← (List.getElem?_eq_some_iff.mp ha).2, List.getElem_cons_drop, List.take_append_drop]
          rw [hsplit, List.find?_append, hf, List.find?_cons, e]
          rfl
        rw [hfk]
        exact q
      · refine ⟨_, _, g₁, [], F₁, le₁, ⟨rfl, (upd_ne (by decide)).trans ((upd_ne (by decide)).trans hm), (upd_ne (by decide)).trans ((upd_ne (by decide)).trans hd), (T _).up le₁ hp, ?_⟩, rfl⟩
        rw [take_snoc ha, List.find?_append, hf, List.find?_cons, e]
        rfl
    · rintro m cm g s pv ⟨rfl, hm, hd, hp, hf⟩ F
      rw [List.take_length] at hf
      have hfk : findKv kvs (Txt.lower nm) = none := by unfold findKv; rw [hf]; rfl
      rw [hfk]
      exact xs_ret F (Ev.nLocal (P := No) F.ns hd rfl) fun v g' s' x q => ⟨v, g', rfl, x, q⟩

/-! values -/
theorem fn_values {kvs : List (Str × Str)} (hl : kvs.length ≤ 1000) : FnK prog w 1 163 [Book w.params kvs] [] (Ls T (kvs.map (·.2))) := by
  have hfd : fnAt (KK w.params) 163 = some _ := rfl
  refine FnK.k (n := 0) (binds := fun vs => [(Str.ofString "self", vs[0]!)]) hfd rfl rfl ?_ ?_ ?_
  · intro g vs h
    obtain ⟨v, rfl, _⟩ := paired1 h
    rfl
  · intro g vs L h x hx
    rcases List.mem_singleton.mp hx with rfl
    exact .inl rfl
  · intro A g s vs L s₁ hA B B₁ h F
    obtain ⟨v, rfl, p⟩ := paired1 h
    refine xs_ret (P := Ls T (kvs.map (·.2))) F (Ev.weak (EvC.ev (EvC.pair0 (xs := kvs) (R₁ := fun kv => T kv.1) (R₂ := fun kv => T kv.2) (R := fun kv => T kv.2) hA.handled (EvI2.list hA.handled (Ev.headersL B₁ (Ev.nLocal F.ns rfl p)))
      (fun C m v₁ v₂ a g' s' ha x hn hm hm' hv hv' => Ev.nLocal hn hm' hv') (Nat.le_trans hl (by decide)))) fun g v q => Ls.map.mp q) fun v g' s' x q => ⟨v, g', rfl, x, q⟩
end
end Mine
end
/-! ### Fn10 -/
section
open PySem PySem.Calls PyProof.Rows PySem.W
namespace Mine
section
variable {prog : Program} {w : World} {A : Around} {env : Env} {g₀ g : G} {s₀ s : Shared} {m cm : Str → Option Value} {pv : List (Addr × Obj)}
theorem xs_retF {e : Expr} {pos : Pos} {rest : List Stmt} {P : MP} {Q : Flow → Shared → Prop} (F : Fs pv g₀ s₀ env m cm g s) (he : Ev prog w A env g s e P)
    (k : ∀ v g' s', Fs pv g₀ s₀ env m cm g' s' → GLe g g' → P.p g' v → Q (.ret v) s') : XS prog w A env (.Return (some e) pos :: rest) Q s :=
  wpAny_execs_cons (wpAny_Return_some (wpAny_mono (he g s (Ext.refl F.sub)) (fun v s₂ ⟨g₂, y, p⟩ => k v g₂ s₂ (F.step y) y.le p) fun _ _ f => f))
/-- an item appended to a list that an expression names -/
theorem xs_appendE {oe e : Expr} {apos pos spos : Pos} {rest : List Stmt} {P : MP} {D : Addr} {ys : List Value} {n : Nat} {pre post : List (Addr × Obj)} {Q : Flow → Shared → Prop}
    (F : Fs (pre ++ (D, lstObj ys n) :: post) g₀ s₀ env m cm g s) (ho : Ev prog w A env g s oe (Is (.ref D))) (he : Ev prog w A env g s e P) (hz : ys.length ≤ sizeLine) (hpre : ∀ p ∈ pre ++ post, p.1 ≠ D)
    (kk : ∀ v n' g' s', Fs (pre ++ (D, lstObj (ys ++ [v]) n') :: post) g₀ s₀ env m cm g' s' → GLe g g' → P.p g' v → XS prog w A env rest Q s')
    (hbase : attributeBase oe "append" env (eval oe env) = eval oe env := by rfl)
    (hline : (apos.endLine == pos.line) = true := by rfl)
    (htrees : backTo pos (starEach [e] env) = [(false, eval e env)] := by rfl)
    (hi : interactive env = false := by rfl) (hsw : swapsWith (.Call (.Attribute oe "append" apos) [e] [] pos) .none spos.line env = pure false := by rfl) :
    XS prog w A env (.Expr (.Call (.Attribute oe "append" apos) [e] [] pos) spos :: rest) Q s := by
  refine wpAny_execs_cons (wpAny_Expr ?_ hi hsw)
  refine wpAny_Call_append hbase (by rw [htrees]; rfl) hline htrees ?_
  refine wpAny_mono (ho g s (Ext.refl F.sub)) (fun ov s₁ ⟨g₁, z₁, hov⟩ => ?_) fun _ _ f => f
  have hov' : ov = .ref D := hov
  subst hov'
  have F₁ := F.step z₁
  have hD := F₁.held (D, lstObj ys n) (List.mem_append.mpr (.inr List.mem_cons_self))
  refine ⟨D, ys.toArray, rfl, ⟨_, n, hD.1, rfl, rfl, rfl⟩, ?_⟩
  refine wpAny_mono (he g₁ s₁ z₁) (fun v s₂ ⟨g₂, z, hp⟩ => ?_) fun _ _ f => f
  have F₂ := F₁.step z
  have hD₂ := F₂.held (D, lstObj ys n) (List.mem_append.mpr (.inr List.mem_cons_self))
  refine wpAny_list_append_plain (items := ys.toArray) ⟨n, hD₂.1⟩ (fun h' hl' hs' => ?_) (by simpa using hz)
  obtain ⟨n', hl'⟩ := hl'
  have F₃ : Fs (pre ++ post) g₀ s₀ env m cm g₂ { s₂ with heap := h', toks := s₂.toks } := (F₂.less (pv' := pre ++ post) fun p hp => by
      rcases List.mem_append.mp hp with h | h
      · exact List.mem_append.mpr (.inl h)
      · exact List.mem_append.mpr (.inr (List.mem_cons_of_mem _ h))).away [D]
    (fun a ha => by rcases List.mem_singleton.mp ha with rfl; exact hD₂.2) (fun p hp h => hpre p hp (List.mem_singleton.mp h)) (fun b o hb e => hs'.extBut b o (fun h => hb (List.mem_singleton.mpr h)) e)
  refine kk v n' g₂ _ ⟨F₃.x, F₃.le, F₃.sub, F₃.new, F₃.fr, F₃.frc, fun p hp => ?_⟩ (fun b o e => z.le b o (z₁.le b o e)) hp
  rcases List.mem_append.mp hp with h | h
  · exact F₃.held p (List.mem_append.mpr (.inl h))
  · rcases List.mem_cons.mp h with rfl | h
    · refine ⟨?_, hD₂.2⟩
      show h'.get? D = some (lstObj (ys ++ [v]) n')
      rw [hl']; simp [lstObj]
    · exact F₃.held p (List.mem_append.mpr (.inr h))
/-- a call that turned one object of the caller's own -/
theorem Fs.turned {D : Addr} {o o' : Obj} {pre post : List (Addr × Obj)} (F : Fs (pre ++ (D, o) :: post) g₀ s₀ env m cm g s) (hpre : ∀ p ∈ pre ++ post, p.1 ≠ D) {g' : G} {s' : Shared} (x : Ext g (hid s D) g' s') (hg : g' D = none) (hD : s'.heap.get? D = some o') :
    Fs (pre ++ (D, o') :: post) g₀ s₀ env m cm g' s' := by
  obtain ⟨h1, h2, h3, h4, h5⟩ := F.held (D, o) (List.mem_append.mpr (.inr List.mem_cons_self))
  have k : ∀ b o, b ≠ D → s.heap.get? b = some o → s'.heap.get? b = some o := fun b o hb e => kget x.keeps b o (hid_get hb e)
  have alive : ∀ b, b ≠ D → (∃ o, s.heap.get? b = some o) → ∃ o, (hid s D).heap.get? b = some o := fun b hb ⟨o, e⟩ => ⟨o, hid_get hb e⟩
  refine ⟨⟨⟨?_, F.ns.at fun o e => k _ o (Ne.symm h3) e, fun b o e => k b o ?_ (F.keep b o e), F.x.toInCall.fresh⟩, fun n c hc => isCell_at (F.x.cell n c hc) fun o e => k c o (h4 n c hc) e, F.x.apart, F.x.above⟩, fun b o e => x.le b o (F.le b o e), x.sub, fun b o e => ?_, x.gnone F.fr (alive _ (Ne.symm h3) F.alive), fun n c hc => x.gnone (F.frc n c hc) (alive _ (h4 n c hc) (let ⟨o, ho, _⟩ := F.x.cell n c hc; ⟨o, ho⟩)), fun p hp => ?_⟩
  · obtain ⟨ha, ta, e1, _⟩ := x.keeps
    obtain ⟨hb, tb, e2⟩ := F.x.toInCall.same
    exact ⟨ha, ta, by rw [e1]; show { s with heap := ha, toks := ta } = _; rw [e2]⟩
  · rintro rfl
    rw [h5] at e; cases e
  · rcases x.new b o e with h | h
    · exact F.new b o h
    · refine .inr (F.gone ?_)
      cases q : s.heap.get? b with
      | none => rfl
      | some o₂ =>
        have hb : b ≠ D := by rintro rfl; rw [hg] at e; cases e
        rw [hid_get hb q] at h; cases h
  · have old : ∀ p ∈ pre ++ post, s'.heap.get? p.1 = some p.2 ∧ g' p.1 = none ∧ p.1 ≠ env.locals ∧ (∀ n c, env.cells.lookup n = some c → c ≠ p.1) ∧ s₀.heap.get? p.1 = none := fun p hp => by
      have hm : p ∈ pre ++ (D, o) :: post := by
        rcases List.mem_append.mp hp with h | h
        · exact List.mem_append.mpr (.inl h)
        · exact List.mem_append.mpr (.inr (List.mem_cons_of_mem _ h))
      obtain ⟨a1, a2, a3⟩ := F.held p hm
      exact ⟨k _ _ (hpre p hp) a1, x.gnone a2 (alive _ (hpre p hp) ⟨_, a1⟩), a3⟩
    rcases List.mem_append.mp hp with h | h
    · exact old p (List.mem_append.mpr (.inl h))
    · rcases List.mem_cons.mp h with rfl | h
      · exact ⟨hD, hg, h3, h4, h5⟩
      · exact old p (List.mem_append.mpr (.inr h))
end

section
variable {prog : Program} {w : World} {A : Around}
theorem op_isNone {g : G} {s : Shared} {o : Option Str} {a b : Value} (hg : Sub g s) (ha : (Opt o).p g a) (hb : No.p g b) : Op prog w A (compareOp .Is a b) g s (Bo o.isNone) := by
  have e : b = .none := hb
  subst e
  cases o with
  | none =>
    have e : a = .none := ha
    subst e
    exact is_none_none ⟨g, Ext.refl hg, rfl⟩
  | some z =>
    obtain ⟨t, rfl⟩ : ∃ t, a = .str z t := ha
    exact is_str_none ⟨g, Ext.refl hg, rfl⟩
theorem opt_free (o : Option Str) : Free (Opt o) := fun g g' v h => by
  cases o with
  | none => exact h
  | some z => exact h

def setd (kvs : List (Str × Str)) (nm val : Str) : List (Str × Str) := match findKv kvs (Txt.lower nm) with
  | some _ => kvs
  | none => kvs ++ [(nm, val)]
theorem call_setdefault {g : G} {s : Shared} {D : Addr} {ys : List Value} {k : Nat} {kvs : List (Str × Str)} {nm val : Str} {vb vn vv : Value} (hA : Room A 6) (B : Base w (hid s D).heap) (hg : Sub g s) (hgD : g D = none) (hD : s.heap.get? D = some (lstObj ys k))
    (hb : (BookAt w.params D).p g vb) (hn : (T nm).p g vn) (hv : (T val).p g vv) (hr : Paired (fun kv v => (KV kv).p g v) kvs ys) (hk : ∀ kv ∈ kvs, kv.1.length ≤ 1000000) (hnl : nm.length ≤ 1000000) (hkl : kvs.length ≤ 1000)
    (hz1 : searchFails nameCode (Txt.lower nm)) (hz2 : searchFails nameCode nm) (hz3 : searchFails valueCode val) :
    WP prog w A (PySem.call (.ref 196) [vb, vn, vv] []) (fun v s' => (∀ a, v ≠ .ref a) ∧ ∃ g' ys' k', Ext g (hid s D) g' s' ∧ g' D = none ∧ s'.heap.get? D = some (lstObj ys' k') ∧ Paired (fun kv v => (KV kv).p g' v) (setd kvs nm val) ys') s := by
  have hfd : fnAt (KK w.params) 196 = some _ := rfl
  have Bs : Base w s.heap := B.keeps fun b o e => Heap.of_hide e
  refine wpAny_call (call_body (pv := [(D, lstObj ys k)]) (n := 5) (binds := [(Str.ofString "self", vb), (Str.ofString "name", vn), (Str.ofString "value", vv)]) hA Bs (under_hid s D) hg (fun p hp => ?_) hfd rfl rfl rfl (fun L x hx => ?_) (fun A' L s₁ hA' B₁ F => ?_))
  · rcases List.mem_singleton.mp hp with rfl
    exact ⟨hD, hgD, hid_none s D⟩
  · rcases List.mem_cons.mp hx with rfl | hx
    · exact .inl rfl
    · rcases List.mem_cons.mp hx with rfl | hx
      · exact .inl rfl
      · rcases List.mem_singleton.mp hx with rfl
        exact .inl rfl
  · obtain ⟨f1, f2, _⟩ := F.held (D, lstObj ys k) List.mem_cons_self
    have hle := G.put_le (o := lstObj ys k) f2
    refine xs_assign (P := Opt (findKv kvs (Txt.lower nm))) F (Ev.hold f2 f1 (opt_free _) (Ev.meth (kw := []) B₁ (hA'.less (by omega)) (fn_get hk hnl hz1) (Ev.nLocal (P := Book w.params kvs) F.ns rfl ⟨D, (BookAt w.params D).up hle hb, D, ys, k, rfl, G.put_self _ _ _, Paired.mono (fun kv v q => (KV kv).up hle q) hr⟩)
      (Finds.book fun D => finds_get) (EvL.cons (Ev.nLocal F.ns rfl hn) EvL.nil) EvK.nil)) fun vr g₂ s₂ F₂ le₂ hres => ?_
    refine xs_if (t := (findKv kvs (Txt.lower nm)).isNone) F₂ (EvT.cmp (Ev.nLocal F₂.ns upd_eq hres) Ev.cNone fun g s a b => op_isNone) (fun e g₃ s₃ F₃ le₃ => ?_) (fun e g₃ s₃ F₃ le₃ => ?_)
    · have B₃ := F₃.base B
      have up3 : GLe g g₃ := fun b o e => le₃ b o (le₂ b o e)
      refine xs_appendE (pre := []) (post := []) (P := KV (nm, val)) F₃ (Ev.headers B₃ (Ev.nLocal F₃.ns ((upd_ne (by decide)).trans rfl) ((BookAt w.params D).up up3 hb)))
        (Ev.tup (xs := [T nm, T val]) (R := id) (EvL.cons (Ev.meth (kw := kwName true) B₃ (hA'.less (by omega)) (fn_convert (b := true) hz2) (Ev.nLocal F₃.ns ((upd_ne (by decide)).trans rfl) ((BookAt w.params D).up up3 hb)) finds_conv (EvL.cons (Ev.nLocal F₃.ns ((upd_ne (by decide)).trans rfl) ((T nm).up up3 hn)) EvL.nil) EvK.bool)
          (EvL.cons (Ev.meth (kw := kwName false) B₃ (hA'.less (by omega)) (fn_convert (b := false) hz3) (Ev.nLocal F₃.ns ((upd_ne (by decide)).trans rfl) ((BookAt w.params D).up up3 hb)) finds_conv (EvL.cons (Ev.nLocal F₃.ns ((upd_ne (by decide)).trans rfl) ((T val).up up3 hv)) EvL.nil) EvK.bool) EvL.nil)) (by show 2 ≤ sizeLine; decide))
        (by rw [← Paired.length hr]; exact Nat.le_trans hkl (by decide)) (fun p hp => nomatch hp) fun v n' g₄ s₄ F₄ le₄ hv' => ?_
      refine xs_retF F₄ (Ev.nLocal F₄.ns ((upd_ne (by decide)).trans rfl) ((T val).up (fun b o e => le₄ b o (up3 b o e)) hv)) fun v₅ g₅ s₅ F₅ le₅ ⟨t₅, e₅⟩ => ?_
      obtain ⟨q1, q2, _⟩ := F₅.held (D, lstObj (ys ++ [v]) n') List.mem_cons_self
      refine ⟨(by rw [e₅]; exact fun a h => nomatch h), g₅, _, n', F₅.ext, q2, q1, ?_⟩
      have hs : setd kvs nm val = kvs ++ [(nm, val)] := by
        unfold setd
        cases hf : findKv kvs (Txt.lower nm) with
        | none => rfl
        | some z => rw [hf] at e; cases e
      rw [hs]
      exact Paired.snoc (F := fun kv v => (KV kv).p g₅ v) ((KV (nm, val)).up le₅ hv') (Paired.mono (fun kv v q => (KV kv).up (fun b o e => le₅ b o (le₄ b o (up3 b o e))) q) hr)
    · refine xs_retF F₃ (Ev.nLocal F₃.ns upd_eq ((Opt _).up le₃ hres)) fun v₅ g₅ s₅ F₅ le₅ p₅ => ?_
      obtain ⟨q1, q2, _⟩ := F₅.held (D, lstObj ys k) List.mem_cons_self
      refine ⟨?_, g₅, _, k, F₅.ext, q2, q1, ?_⟩
      · cases hf : findKv kvs (Txt.lower nm) with
        | none => rw [hf] at e; cases e
        | some z =>
          rw [hf] at p₅
          obtain ⟨t₅, e₅⟩ : ∃ t, v₅ = .str z t := p₅
          rw [e₅]
          exact fun a h => nomatch h
      have hs : setd kvs nm val = kvs := by
        unfold setd
        cases hf : findKv kvs (Txt.lower nm) with
        | none => rw [hf] at e; cases e
        | some z => rfl
      rw [hs]
      exact Paired.mono (fun kv v q => (KV kv).up (fun b o e => le₅ b o (le₃ b o (le₂ b o e))) q) hr
end
end Mine
end
/-! ### Fn11 -/
section
open PySem PySem.Calls PyProof.Rows PySem.W
namespace Mine
section
variable {prog : Program} {w : World} {A : Around} {env : Env} {g₀ g : G} {s₀ s : Shared} {m cm : Str → Option Value} {pv : List (Addr × Obj)}
theorem xs_assignRaw {x : Str} {px pos : Pos} {e : Expr} {rest : List Stmt} {K : Value → G → Prop} {Q : Flow → Shared → Prop} (F : Fs pv g₀ s₀ env m cm g s) (he : WP prog w A (eval e env) (fun v s₂ => ∃ g₂, Ext g s g₂ s₂ ∧ K v g₂) s)
    (k : ∀ v g' s', Fs pv g₀ s₀ env (upd m x v) cm g' s' → GLe g g' → K v g' → XS prog w A env rest Q s')
    (hl : env.kindOf x = some .local := by rfl) (hk : env.scope.kind = .function := by rfl) (hs : swapsWith e (some (.Name x px)) pos.line env = pure false := by rfl) :
    XS prog w A env (.Assign [.Name x px] e pos :: rest) Q s :=
  wpAny_execs_cons (wpAny_Assign_Name (wpAny_mono he (fun v s₂ ⟨g₂, y, p⟩ => (F.step y).stL hl hk fun s' F' => k v g₂ s' F' y.le p) fun _ _ f => f) hs)
theorem Ev.debug {pos : Pos} : Ev prog w A env g s (.Name (Str.ofString "__debug__") pos) (Bo true) := by
  intro g₁ s₁ x
  show wpAny _ A (do standAt pos; debugConstant) _ _ _
  exact wpAny_bind (wpAny_standAt (wpAny_bind (wpAny_rule (wpAny_pure ⟨g₁, Ext.refl x.sub, rfl⟩))))
/-- the book's list, set -/
theorem xs_store {o e : Expr} {pos pos' : Pos} {D x dx : Addr} {rest : List Stmt} {Q : Flow → Shared → Prop} (F : Fs [(dx, emptyDict)] g₀ s₀ env m cm g s) (B : Base w s.heap) (he : Ev prog w A env g s e (Is (.ref D))) (ho : Ev prog w A env g s o (Is (.ref x)))
    (hx : g x = some (instObj 206 dx)) (kk : ∀ tk g' s', Fs [(dx, bookDict w.params tk D)] g₀ s₀ env m cm g' s' → GLe g g' → XS prog w A env rest Q s')
    (hs : swapsWith e (some (.Attribute o hdr pos')) pos.line env = pure false := by rfl) :
    XS prog w A env (.Assign [.Attribute o hdr pos'] e pos :: rest) Q s := by
  refine wpAny_execs_cons (plainObj_wpAny_Assign_Attribute (wpAny_mono (he g s (Ext.refl F.sub)) (fun v s₁ ⟨g₁, y, hv⟩ => wpAny_mono (ho _ _ y) (fun ov s₂ ⟨g₂, z, hov⟩ => ?_) fun _ _ f => f) fun _ _ f => f) hs)
  have e1 : v = .ref D := hv
  have e2 : ov = .ref x := hov
  subst e1 e2
  have F₂ := (F.step y).step z
  have B₂ := (B.ext y).ext z
  obtain ⟨d1, d2, d3, d4, d5⟩ := F₂.held (dx, emptyDict) List.mem_cons_self
  have hx₂ := z.sub _ _ (z.le _ _ (y.le _ _ hx))
  have inst : InstAt s₂.heap x (instObj 206 dx) 206 (some emptyDict) := ⟨hx₂, rfl, rfl, d1⟩
  refine set_plain (ox := instObj 206 dx) (od := some emptyDict) B₂.1 inst (by kernel_rfl) ?_
  refine osa_open (s := { s₂ with toks := s₂.toks + 1 }) (r := none) B₂.1 inst (by kernel_rfl) (by kernel_rfl) fun b => ?_
  obtain ⟨cd, hc, hd'⟩ := any_some (show (clsIn (KK w.params) 206).any (·.hasDict) = true by kernel_rfl)
  refine wpAny_bind (wpAny_pure (wpAny_bind (wpAny_bind (wpAny_loadPart (s := { s₂ with toks := s₂.toks + 1 }) hx₂ (wpAny_bind ((show Looks (model prog w) ({ s₂ with toks := s₂.toks + 1 } : Shared).heap (classData 206) cd from looks_clsIn B₂.1 hc).here ?_))))))
  rw [hd']
  refine wpAny_pure (a := some dx) (wpAny_bind (wpAny_pure (wpAny_bind ?_)))
  unfold nsSet
  refine wpAny_bind (wpAny_bind (wpAny_askSetting (wpAny_pure (wpAny_bind (wpAny_mkText (wpAny_bind (wpAny_loadPart d1 ?_)))))))
  show wpAny _ _ _ _ _ _
  dsimp only
  have hu : (s₂.heap.update dx (Obj.putName hdr (PyData.keyHash w.params hdr) (.str hdr (s₂.toks + 1)) (.ref D))).get? dx = some (bookDict w.params (s₂.toks + 1) D) := Heap.get?_update_self _ d1 rfl
  have hsb := Heap.SameBut.update s₂.heap dx (Obj.putName hdr (PyData.keyHash w.params hdr) (.str hdr (s₂.toks + 1)) (.ref D))
  refine wpAny_updatePart d1 ?_
  refine wpAny_bind (wpAny_lookBehind hu rfl ?_)
  refine wpAny_pure ?_
  have F₃ := (F₂.less (pv' := []) fun p hp => nomatch hp).away (h' := s₂.heap.update dx (Obj.putName hdr (PyData.keyHash w.params hdr) (.str hdr (s₂.toks + 1)) (.ref D))) (tk := s₂.toks + 1 + 1) [dx]
    (fun a ha => by rcases List.mem_singleton.mp ha with rfl; exact ⟨d2, d3, d4, d5⟩) (fun p hp => nomatch hp) (fun b o hb e => hsb.extBut b o (fun h => hb (List.mem_singleton.mpr h)) e)
  refine kk (s₂.toks + 1) g₂ _ ⟨F₃.x, F₃.le, F₃.sub, F₃.new, F₃.fr, F₃.frc, fun p hp => ?_⟩ (fun b o e => z.le b o (y.le b o e))
  rcases List.mem_singleton.mp hp with rfl
  exact ⟨hu, d2, d3, d4, d5⟩
end
end Mine
end
/-! ### Fn12 -/
section
open PySem PySem.Calls PyProof.Rows PySem.W
namespace Mine
section
variable {prog : Program} {w : World} {A : Around}
theorem room_under {n : Nat} (h : Room A (n + 1)) {rest : List Value} {kw : List (Str × Value)} (hw : Code.weight (.builtin "type.__call__" ⟨rest, kw⟩) ≤ 1) (hu : Code.cUnits (.builtin "type.__call__" ⟨rest, kw⟩) ≤ 4) : Room (A.under (.builtin "type.__call__" ⟨rest, kw⟩)) n :=
  ⟨h.handled, by have := h.depth; show A.depth + _ + n < _; omega, by have := h.units; show A.units + _ + 4 * n < _; omega⟩
theorem op_isntNone {g : G} {s : Shared} {a b : Value} (hg : Sub g s) (ha : No.p g a) (hb : No.p g b) : Op prog w A (compareOp .IsNot a b) g s (Bo false) := by
  have e : b = .none := hb
  have e' : a = .none := ha
  subst e e'
  exact isnot_none_none ⟨g, Ext.refl hg, rfl⟩
theorem Ext.drop {g g' : G} {s s' : Shared} {D : Addr} (x : Ext g s g' s') (hD : g D = none) : Ext g s (fun b => if b = D then none else g' b) s' :=
  ⟨x.keeps, fun b o e => by
    have hb : b ≠ D := by rintro rfl; rw [hD] at e; cases e
    show (if b = D then none else g' b) = some o
    rw [if_neg hb]
    exact x.le b o e, fun b o e => by
    have e : (if b = D then none else g' b) = some o := e
    split at e
    · cases e
    · exact x.sub b o e, fun b o e => by
    have e : (if b = D then none else g' b) = some o := e
    split at e
    · cases e
    · exact x.new b o e⟩

theorem ifExpRaw {env : Env} {g : G} {s : Shared} {test body orelse : Expr} {pos : Pos} {t : Bool} {Q : Value → Shared → Prop} (hg : Sub g s) (ht : EvT prog w A env g s test t)
    (h1 : t = true → ∀ g₂ s₂, Ext g s g₂ s₂ → WP prog w A (eval body env) Q s₂) (h2 : t = false → ∀ g₂ s₂, Ext g s g₂ s₂ → WP prog w A (eval orelse env) Q s₂) : WP prog w A (eval (.IfExp test body orelse pos) env) Q s :=
  IfExp_ (wpAny_mono (ht g s (Ext.refl hg)) (fun r s₂ ⟨hr, g₂, y⟩ => by
    subst hr
    cases r with
    | true => exact h1 rfl g₂ s₂ y
    | false => exact h2 rfl g₂ s₂ y) fun _ _ f => f)
/-- the book's making, from within -/
theorem call_init {s : Shared} {g : G} {x dx : Addr} {n : Nat} (hA : Room A (n + 2)) (B : Base w (hid s dx).heap) (hg : Sub g s) (hx : g x = some (instObj 206 dx)) (hdx : s.heap.get? dx = some emptyDict) (hgd : g dx = none) {R : Result → Shared → Prop}
    (h : ∀ g' s' D tk k, Ext g (hid s dx) g' s' → g' dx = none → s'.heap.get? dx = some (bookDict w.params tk D) → g' D = some (lstObj [] k) → (hid s dx).heap.get? D = none → D ≠ dx → R (.ok (.ret .none)) s') :
    codeAny (model prog w) A (.call (.ref 98) ⟨[.ref x], []⟩) R s := by
  have hfd : fnAt (KK w.params) 98 = some _ := rfl
  have Bs : Base w s.heap := B.keeps fun b o e => Heap.of_hide e
  refine call_body (pv := [(dx, emptyDict)]) (n := n + 1) (binds := [(Str.ofString "self", .ref x), (Str.ofString "headers", .none)]) hA Bs (under_hid s dx) hg (fun p hp => ?_) hfd rfl rfl rfl (fun L y hy => ?_) (fun A' L s₁ hA' B₁ F => ?_)
  · rcases List.mem_singleton.mp hp with rfl
    exact ⟨hdx, hgd, hid_none s dx⟩
  · rcases List.mem_cons.mp hy with rfl | hy
    · exact .inl rfl
    · rcases List.mem_singleton.mp hy with rfl
      exact .inl rfl
  · refine xs_assignRaw F (K := fun v g₂ => ∃ D k, v = .ref D ∧ g₂ D = some (lstObj [] k) ∧ s₁.heap.get? D = none) ?_ fun v g₂ s₂ F₂ le₂ ⟨D, k, e, hD, hDn⟩ => ?_
    · refine ifExpRaw F.sub (t := false) (EvT.cmp (Ev.nLocal (P := No) F.ns rfl rfl) Ev.cNone fun g s a b => op_isntNone) (fun e => nomatch e) fun _ g₂ s₂ y => ?_
      refine wpAny_List_spliced (spliced_nil ⟨Nat.zero_le _, ?_⟩)
      have hn : s₂.heap.get? s₂.heap.objs.size = none := fresh_none (Nat.le_refl _)
      have z := Ext.keep y.sub (push_keeps s₂ { cls := .type "list", data := .seq ([] : List Value).toArray })
      exact ⟨_, y.tr (z.put hn (sub_none y.sub hn) (Heap.get?_push_size _ rfl)), s₂.heap.objs.size, 0, rfl, G.put_self _ _ _, Keeps.none y.keeps hn⟩
    subst e
    have B₂ := F₂.base B
    refine xs_if (t := false) F₂ (EvT.cmp (P₁ := Is (.type "list")) (P₂ := Is (.type "list")) (Ev.ty B₂ (EvL.cons (Ev.nLocal (P := Ls T []) F₂.ns upd_eq ⟨D, [], k, rfl, hD, .nil⟩) EvL.nil) (fun g' s' vs x hp => ?_) rfl) (Ev.bu B₂ rfl rfl) fun g s a b => op_isntTy)
      (fun e => nomatch e) (fun _ g₃ s₃ F₃ le₃ => xs_nil ?_)
    · obtain ⟨v, rfl, q⟩ := paired1 hp
      exact op_typeL x.sub q
    refine xs_store F₃ (F₃.base B) (Ev.nLocal F₃.ns upd_eq rfl) (Ev.nLocal F₃.ns ((upd_ne (by decide)).trans rfl) rfl) (le₃ _ _ (le₂ _ _ hx)) fun tk g₄ s₄ F₄ le₄ => ?_
    have hD₄ := le₄ _ _ (le₃ _ _ hD)
    refine xs_if (t := true) F₄ (EvT.ofBo Ev.cBool) (fun _ g₅ s₅ F₅ le₅ => ?_) (fun e => nomatch e)
    refine for_pairs (xs := ([] : List (Str × Str))) (R₁ := fun kv => T kv.1) (R₂ := fun kv => T kv.2) hA'.handled (fun i m cm g pv => g D = some (lstObj [] k) ∧ pv = [(dx, bookDict w.params tk D)]) (fun i m cm g g' pv le h => ⟨le _ _ h.1, h.2⟩) ⟨le₅ _ _ hD₄, rfl⟩ F₅
      (EvI2.list hA'.handled (Ev.nLocal (P := Ls KV []) F₅.ns upd_eq ⟨D, [], k, rfl, le₅ _ _ hD₄, .nil⟩)) (fun i a v v' m cm g s pv wpv ha => by simp at ha) ?_
    rintro m cm g₆ s₆ pv ⟨hD₆, rfl⟩ F₆
    obtain ⟨f1, f2, f3, f4, f5⟩ := F₆.held _ List.mem_cons_self
    refine xs_nil (xs_nil (h g₆ s₆ D tk k F₆.ext f2 f1 hD₆ (F.gone hDn) ?_))
    rintro rfl
    rw [f2] at hD₆; cases hD₆
end

section
variable {prog : Program} {w : World} {A : Around} {env : Env} {g₀ g : G} {s₀ s : Shared} {m cm : Str → Option Value} {pv : List (Addr × Obj)}
theorem xs_newBook {x : Str} {px np cpos pos : Pos} {n : Nat} {rest : List Stmt} {Q : Flow → Shared → Prop} (hA : Room A (n + 3)) (F : Fs pv g₀ s₀ env m cm g s) (B : Base w s.heap)
    (kk : ∀ D k v g' s', Fs ((D, lstObj [] k) :: pv) g₀ s₀ env (upd m x v) cm g' s' → GLe g g' → (BookAt w.params D).p g' v → (∀ p ∈ pv, p.1 ≠ D) → XS prog w A env rest Q s')
    (hg : env.globals = mainGlobals := by rfl) (hlh : env.kindOf (Str.ofString "Headers") = some .globalImplicit := by rfl)
    (hl : env.kindOf x = some .local := by rfl) (hk : env.scope.kind = .function := by rfl) (hs : swapsWith (.Call (.Name (Str.ofString "Headers") np) [] [] cpos) (some (.Name x px)) pos.line env = pure false := by rfl) :
    XS prog w A env (.Assign [.Name x px] (.Call (.Name (Str.ofString "Headers") np) [] [] cpos) pos :: rest) Q s := by
  refine wpAny_execs_cons (wpAny_Assign_Name ?_ hs)
  show wpAny _ A (do callWith cpos (← eval (.Name (Str.ofString "Headers") np) env) [] (backTo cpos (starEach [] env)) (backToKw cpos (keywordEach [] env))) _ _ s
  refine wpAny_bind (wpAny_mono (Ev.gl (prog := prog) (A := A) B (v := .ref 206) rfl hg hk hlh (by decide) g s (Ext.refl F.sub)) (fun v s₁ ⟨g₁, y, hv⟩ => ?_) fun _ _ f => f)
  have hv' : v = .ref 206 := hv
  subst hv'
  have F₁ := F.step y
  have B₁ := B.ext y
  have hsub := F₁.sub
  have hle := y.le
  clear y hv
  obtain ⟨hh, gg, d, t, os⟩ := s₁
  refine callWith_K0 B₁.1 (by kernel_rfl) (wpAny_call ?_)
  refine make_core (init := .ref 98) (makes_of B₁.1 (by kernel_rfl)) (looks_findIn B₁.1 (f_init _)) (fun self => bind_fn B₁.1 self (by kernel_rfl)) (.inl rfl) ?_
  have kp : ∀ b o, hh.get? b = some o → ((hh.push emptyDict).push (instObj 206 hh.objs.size)).get? b = some o := fun b o e => Heap.get?_push_of_some _ (Heap.get?_push_of_some _ e)
  have hdx : ((hh.push emptyDict).push (instObj 206 hh.objs.size)).get? hh.objs.size = some emptyDict := Heap.get?_push_of_some _ (Heap.get?_push_size _ rfl)
  have hx : ((hh.push emptyDict).push (instObj 206 hh.objs.size)).get? (hh.objs.size + 1) = some (instObj 206 hh.objs.size) := by
    have := Heap.get?_push_size (hh.push emptyDict) (o := instObj 206 hh.objs.size) rfl
    rwa [Heap.size_push] at this
  have nx : hh.get? (hh.objs.size + 1) = none := fresh_none (Nat.le_succ _)
  have nd : hh.get? hh.objs.size = none := fresh_none (Nat.le_refl _)
  have gx : g₁ (hh.objs.size + 1) = none := sub_none hsub nx
  have gd : g₁ hh.objs.size = none := sub_none hsub nd
  have ne : hh.objs.size ≠ hh.objs.size + 1 := Nat.ne_of_lt (Nat.lt_succ_self _)
  let sx : Shared := ⟨(hh.push emptyDict).push (instObj 206 hh.objs.size), gg, d, t, os⟩
  have khid : ∀ b o, hh.get? b = some o → (hid sx hh.objs.size).heap.get? b = some o := fun b o e => hid_get (s := sx) (by rintro rfl; rw [nd] at e; cases e) (kp b o e)
  have hsubx : Sub (g₁.put (hh.objs.size + 1) (instObj 206 hh.objs.size)) sx := fun b o e => by
    unfold G.put at e
    split at e
    · rename_i hb; subst hb; cases e; exact hx
    · exact kp b o (hsub b o e)
  refine call_init (s := sx) (g := g₁.put (hh.objs.size + 1) (instObj 206 hh.objs.size)) (dx := hh.objs.size) (room_under (n := n + 2) hA (by decide +kernel) (by decide +kernel)) (B₁.keeps khid) hsubx (G.put_self _ _ _) hdx
    (by unfold G.put; rw [if_neg ne]; exact gd) fun g' s' D tk k y' gd' hd' hD' hDn hDd => ?_
  refine ⟨rfl, ?_⟩
  have hnone : ∀ b, (hid sx hh.objs.size).heap.get? b = none → hh.get? b = none := fun b e => by
    cases q : hh.get? b with
    | none => rfl
    | some o => rw [khid b o q] at e; cases e
  have big : Ext g₁ ⟨hh, gg, d, t, os⟩ (g'.put hh.objs.size (bookDict w.params tk D)) s' := by
    refine ⟨?_, fun b o e => G.put_le gd' b o (y'.le b o (G.put_le gx b o e)), fun b o e => ?_, fun b o e => ?_⟩
    · obtain ⟨ha, ta, e1, ka⟩ := y'.keeps
      exact ⟨ha, ta, e1, fun b o e => ka b o (khid b o e)⟩
    · unfold G.put at e
      split at e
      · rename_i hb; subst hb; cases e; exact hd'
      · exact y'.sub b o e
    · unfold G.put at e
      split at e
      · rename_i hb; subst hb; exact .inr nd
      · rcases y'.new b o e with h | h
        · unfold G.put at h
          split at h
          · rename_i hb; subst hb; exact .inr nx
          · exact .inl h
        · exact .inr (hnone b h)
  have hDh : hh.get? D = none := hnone D hDn
  have gD : g₁ D = none := sub_none hsub hDh
  have fin := big.drop gD
  have hDs : s'.heap.get? D = some (lstObj [] k) := y'.sub _ _ hD'
  have F₂ := F₁.step fin
  have hxD : hh.objs.size + 1 ≠ D := by
    rintro rfl
    have := hid_get (s := sx) (D := hh.objs.size) (Ne.symm ne) hx
    rw [hDn] at this; cases this
  have F₃ : Fs ((D, lstObj [] k) :: pv) g₀ s₀ env m cm (fun b => if b = D then none else (g'.put hh.objs.size (bookDict w.params tk D)) b) s' := by
    refine ⟨F₂.x, F₂.le, F₂.sub, F₂.new, F₂.fr, F₂.frc, fun p hp => ?_⟩
    rcases List.mem_cons.mp hp with rfl | hp
    · refine ⟨hDs, if_pos rfl, ?_, fun n c hc e => ?_, F₁.gone hDh⟩
      · rintro rfl
        obtain ⟨o', ho'⟩ := F₁.alive
        rw [show (⟨hh, gg, d, t, os⟩ : Shared).heap.get? _ = none from hDh] at ho'; cases ho'
      · subst e
        obtain ⟨o', ho', _⟩ := F₁.x.cell n c hc
        rw [show (⟨hh, gg, d, t, os⟩ : Shared).heap.get? _ = none from hDh] at ho'; cases ho'
    · exact F₂.held p hp
  refine F₃.stL hl hk fun s₅ F₅ => kk D k _ _ s₅ F₅ (fun b o e => fin.le b o (hle b o e)) ⟨hh.objs.size + 1, hh.objs.size, tk, rfl, ?_, ?_⟩ fun p hp e => ?_
  · show (if hh.objs.size + 1 = D then none else (g'.put hh.objs.size (bookDict w.params tk D)) (hh.objs.size + 1)) = _
    rw [if_neg hxD]
    unfold G.put
    rw [if_neg (Ne.symm ne)]
    exact y'.le _ _ (G.put_self _ _ _)
  · show (if hh.objs.size = D then none else (g'.put hh.objs.size (bookDict w.params tk D)) hh.objs.size) = _
    rw [if_neg (Ne.symm hDd)]
    exact G.put_self _ _ _
  · have := (F₁.held p hp).1
    rw [e] at this
    rw [show (⟨hh, gg, d, t, os⟩ : Shared).heap.get? D = none from hDh] at this; cases this
end
end Mine
end
/-! ### Fn13 -/
section
open PySem PySem.Calls PyProof.Rows PySem.W
namespace Mine
/-! the told words, in plain terms -/
def rootSeeds : List Int := [1, 3, 5, 7]
def rootsOf (kinds : Int) : List Int := [15 * kinds.fmod 2] ++ (rootSeeds.zipIdx.filter fun a => Builtin.bitAnd (kinds.fdiv (2 ^ ((a.2 : Int) + 1).toNat)) 1 != 0).map (·.1)
def xOf (root k : Int) : Int := Builtin.bitAnd ((17 * root).fdiv (2 ^ k.toNat)) 15
def nameOf (x : Int) : Str := Txt.join (Str.ofString "") ((octs (ap (16 + x).toNat).toArray).map fun o => ⟨#[o.toNat]⟩)
def keyOf (x k : Int) : Str := if k.fmod 2 != 0 then Txt.lower (nameOf x) else nameOf x
def toldStep (kvs : List (Str × Str)) (root k : Int) : List (Str × Str) := setd kvs (keyOf (xOf root k) k) (ring (xOf root k) k)
def toldRow (root : Int) (kvs : List (Str × Str)) (ks : List Int) : List (Str × Str) := ks.foldl (fun kvs k => toldStep kvs root k) kvs
def bookOf (roots : List Int) : List (Str × Str) := roots.foldl (fun kvs root => toldRow root kvs (numsFrom 0 4)) []
def rootSet : List Int := [0, 15, 1, 3, 5, 7]
def failsB (code : List Int) (z : Str) : Bool := match (Sre.M.runFor 4 (Sre.forSearch (code.toArray.map Int.toNat) z.cps 0 (min (0 : Int).toNat z.cps.size) (min ((2 : Int) ^ 63 - 1).toNat z.cps.size) false)).outcome with
  | some .failed => true
  | _ => false
theorem fails_of {code : List Int} {z : Str} (h : failsB code z = true) : searchFails code z := by
  unfold failsB at h
  unfold searchFails
  split at h
  · assumption
  · cases h
def wordOk (x k : Nat) : Bool :=
  JoinOk (Str.ofString "") ((octs (ap (16 + (x : Int)).toNat).toArray).map fun o => ⟨#[o.toNat]⟩) && (octs (ap (16 + (x : Int)).toNat).toArray).all (fun o => decide (0 ≤ o) && decide (o < 128)) &&
  decide ((keyOf x k).length ≤ 100) && decide ((nameOf x).length ≤ 100) && failsB nameCode (Txt.lower (keyOf x k)) && failsB nameCode (keyOf x k) && failsB valueCode (ring x k)
set_option maxHeartbeats 4000000 in
theorem words_ok : ∀ (x : Fin 16) (k : Fin 4), wordOk x.val k.val = true := by decide +kernel
theorem x_ok : ∀ root ∈ rootSet, ∀ k : Fin 4, 0 ≤ xOf root (k.val : Nat) ∧ xOf root (k.val : Nat) < 16 := by decide +kernel
theorem roots_ok : ∀ kinds : Fin 32, ∀ root ∈ rootsOf (kinds.val : Nat), root ∈ rootSet := by decide +kernel
structure KvOk (n : Nat) (kvs : List (Str × Str)) : Prop where
  len : kvs.length ≤ n
  keys : ∀ kv ∈ kvs, kv.1.length ≤ 1000000
theorem KvOk.step {n : Nat} {kvs : List (Str × Str)} (h : KvOk n kvs) {nm val : Str} (hn : nm.length ≤ 1000000) : KvOk (n + 1) (setd kvs nm val) := by
  unfold setd
  split
  · exact ⟨Nat.le_succ_of_le h.len, h.keys⟩
  · refine ⟨by simp; exact h.len, fun kv hkv => ?_⟩
    rcases List.mem_append.mp hkv with hkv | hkv
    · exact h.keys kv hkv
    · rcases List.mem_singleton.mp hkv with rfl
      exact hn
end Mine
end
/-! ### Fn14 -/
section
open PySem PySem.Calls PyProof.Rows PySem.W
namespace Mine
theorem Paired.app {α β : Type} {F : α → β → Prop} : ∀ {l : List α} {l' : List β} {r : List α} {r' : List β}, Paired F l l' → Paired F r r' → Paired F (l ++ r) (l' ++ r')
  | _, _, _, _, .nil, h => h
  | _, _, _, _, .cons a t, h => .cons a (Paired.app t h)
section
variable {prog : Program} {w : World} {A : Around} {g : G} {s : Shared}
theorem op_addL {α : Type} {R : α → MP} {xs ys : List α} {a b : Value} (hz : xs.length + ys.length ≤ sizeLine) (hg : Sub g s) (ha : (Ls R xs).p g a) (hb : (Ls R ys).p g b) : Op prog w A (binaryOp .Add a b) g s (Ls R (xs ++ ys)) := by
  obtain ⟨l, us, n, rfl, hl, hp⟩ := ha
  obtain ⟨l', us', n', rfl, hl', hp'⟩ := hb
  have hn : s.heap.get? s.heap.objs.size = none := fresh_none (Nat.le_refl _)
  have z := Ext.keep hg (push_keeps s { cls := .type "list", data := .seq (us.toArray ++ us'.toArray) })
  have hgn := sub_none hg hn
  refine PySem.P.add_list (n := n) (n2 := n') (hg _ _ hl) (hg _ _ hl') ⟨_, z.put hn hgn (o := lstObj (us ++ us') 0) ?_, s.heap.objs.size, us ++ us', 0, rfl, G.put_self _ _ _, ?_⟩ (by rw [List.size_toArray, List.size_toArray, ← Paired.length hp, ← Paired.length hp']; exact hz)
  · have := Heap.get?_push_size s.heap (o := { cls := .type "list", data := .seq (us.toArray ++ us'.toArray) }) rfl
    rw [List.append_toArray] at this
    rw [List.append_toArray]
    exact this
  · exact Paired.mono (fun x v q => (R x).up (G.put_le hgn) q) (Paired.app hp hp')
end

section
variable {prog : Program} {w : World} {A : Around} {env : Env} {g₀ g : G} {s₀ s : Shared} {m cm : Str → Option Value} {pv : List (Addr × Obj)}
theorem xs_setdefault {x : Str} {xp apos pos spos : Pos} {e₁ e₂ : Expr} {rest : List Stmt} {D : Addr} {ys : List Value} {k : Nat} {kvs : List (Str × Str)} {nm val : Str} {pre post : List (Addr × Obj)} {vb : Value} {Q : Flow → Shared → Prop}
    (hA : Room A 6) (B : Base w s₀.heap) (F : Fs (pre ++ (D, lstObj ys k) :: post) g₀ s₀ env m cm g s) (hpre : ∀ p ∈ pre ++ post, p.1 ≠ D) (hx : m x = some vb) (hb : (BookAt w.params D).p g vb)
    (h₁ : Ev prog w A env g s e₁ (T nm)) (h₂ : Ev prog w A env g s e₂ (T val)) (hr : Paired (fun kv v => (KV kv).p g v) kvs ys) (hok : KvOk 900 kvs) (hnl : nm.length ≤ 1000000)
    (hz1 : searchFails nameCode (Txt.lower nm)) (hz2 : searchFails nameCode nm) (hz3 : searchFails valueCode val)
    (kk : ∀ ys' k' g' s', Fs (pre ++ (D, lstObj ys' k') :: post) g₀ s₀ env m cm g' s' → GLe g g' → Paired (fun kv v => (KV kv).p g' v) (setd kvs nm val) ys' → XS prog w A env rest Q s')
    (hl : env.kindOf x = some .local := by rfl) (hk : env.scope.kind = .function := by rfl) (hd : (x == ("__debug__" : Str)) = false := by decide)
    (he : starEach (e₁ :: [e₂]) env = (false, eval e₁ env) :: starEach [e₂] env := by rfl) (he2 : starEach (e₂ :: []) env = (false, eval e₂ env) :: starEach [] env := by rfl)
    (hbase : attributeBase (.Name x xp) (Str.ofString "setdefault") env (eval (.Name x xp) env) = eval (.Name x xp) env := by rfl)
    (hform : methodCallForm ((e₁ :: [e₂]).length + ([] : List Keyword).length) (backTo pos (starEach (e₁ :: [e₂]) env)) (backToKw pos (keywordEach [] env)) = true := by rfl)
    (hline : (apos.endLine == pos.line) = true := by rfl)
    (hi : interactive env = false := by rfl) (hsw : swapsWith (.Call (.Attribute (.Name x xp) (Str.ofString "setdefault") apos) [e₁, e₂] [] pos) .none spos.line env = pure false := by rfl) :
    XS prog w A env (.Expr (.Call (.Attribute (.Name x xp) (Str.ofString "setdefault") apos) [e₁, e₂] [] pos) spos :: rest) Q s := by
  have hfd : fnAt (KK w.params) 196 = some _ := rfl
  refine wpAny_execs_cons (wpAny_Expr ?_ hi hsw)
  refine methRaw (PO := BookAt w.params D) (Ps := [T nm, T val]) (vals := []) (F.base B) (Ev.nLocal F.ns hx hb hk hl hd) finds_setd (EvL.cons h₁ (EvL.cons h₂ EvL.nil he2) he) EvK.nil (Ext.refl F.sub) (fun g' s' v vs y hv hp => ?_) hfd rfl he hbase hform hline
  obtain ⟨v₁, v₂, rfl, p₁, p₂⟩ := paired2 hp
  have F' := F.step y
  obtain ⟨f1, f2, f3, f4, f5⟩ := F'.held (D, lstObj ys k) (List.mem_append.mpr (.inr List.mem_cons_self))
  have B' : Base w (hid s' D).heap := B.keeps fun b o e => hid_get (by rintro rfl; rw [f5] at e; cases e) (F'.keep b o e)
  refine wpAny_mono (call_setdefault hA B' y.sub f2 f1 hv p₁ p₂ (Paired.mono (fun kv v q => (KV kv).up y.le q) hr) hok.keys hnl (Nat.le_trans hok.len (by decide)) hz1 hz2 hz3) (fun r s'' hq => ?_) fun _ _ f => f
  obtain ⟨hne, g'', ys', k', z, gD, hD, hr'⟩ := hq
  have F'' := F'.turned hpre z gD hD
  have fin := kk ys' k' g'' s'' F'' (fun b o e => z.le b o (y.le b o e)) hr'
  cases r with
  | ref a => exact absurd rfl (hne a)
  | _ => exact fin
end

section
variable {prog : Program} {w : World}
theorem wordOk_parts {x k : Nat} (h : wordOk x k = true) : JoinOk (Str.ofString "") ((octs (ap (16 + (x : Int)).toNat).toArray).map fun o => ⟨#[o.toNat]⟩) = true ∧ (∀ o ∈ octs (ap (16 + (x : Int)).toNat).toArray, 0 ≤ o ∧ o < 128) ∧
    (keyOf x k).length ≤ 100 ∧ (nameOf x).length ≤ 100 ∧ searchFails nameCode (Txt.lower (keyOf x k)) ∧ searchFails nameCode (keyOf x k) ∧ searchFails valueCode (ring x k) := by
  unfold wordOk at h
  simp only [Bool.and_eq_true, decide_eq_true_eq, List.all_eq_true] at h
  obtain ⟨⟨⟨⟨⟨⟨h1, h2⟩, h3⟩, h4⟩, h5⟩, h6⟩, h7⟩ := h
  exact ⟨h1, h2, h3, h4, fails_of h5, fails_of h6, fails_of h7⟩
theorem toldRow_snoc {root : Int} {kvs : List (Str × Str)} {ks : List Int} {k : Int} : toldRow root kvs (ks ++ [k]) = toldStep (toldRow root kvs ks) root k := by simp [toldRow]
theorem bookOf_snoc {roots : List Int} {root : Int} : bookOf (roots ++ [root]) = toldRow root (bookOf roots) (numsFrom 0 4) := by simp [bookOf]
theorem toldRow_ok {root : Int} {kvs : List (Str × Str)} (hr : root ∈ rootSet) : ∀ (ks : List Int) (n : Nat), (∀ k ∈ ks, 0 ≤ k ∧ k < 4) → KvOk n kvs → KvOk (n + ks.length) (toldRow root kvs ks) := by
  intro ks
  induction ks generalizing kvs with
  | nil => intro n _ h; exact h
  | cons k r ih =>
    intro n hk h
    have hk0 := hk k List.mem_cons_self
    have hx := x_ok root hr ⟨k.toNat, by omega⟩
    have hkn : ((k.toNat : Nat) : Int) = k := Int.toNat_of_nonneg hk0.1
    dsimp only at hx
    rw [hkn] at hx
    have hw := wordOk_parts (words_ok ⟨(xOf root k).toNat, by omega⟩ ⟨k.toNat, by omega⟩)
    dsimp only at hw
    rw [Int.toNat_of_nonneg hx.1, hkn] at hw
    have := ih (n + 1) (fun k hk' => hk k (List.mem_cons_of_mem _ hk')) (h.step (val := ring (xOf root k) k) (Nat.le_trans hw.2.2.1 (by decide)))
    rw [List.length_cons, show n + (r.length + 1) = n + 1 + r.length by omega]
    exact this
theorem nums4 : ∀ k ∈ numsFrom 0 4, 0 ≤ k ∧ k < 4 := by decide
theorem bookOf_ok : ∀ roots : List Int, (∀ r ∈ roots, r ∈ rootSet) → KvOk (4 * roots.length) (bookOf roots) := by
  have key : ∀ (roots : List Int) (kvs : List (Str × Str)) (n : Nat), (∀ r ∈ roots, r ∈ rootSet) → KvOk n kvs → KvOk (n + 4 * roots.length) (roots.foldl (fun kvs root => toldRow root kvs (numsFrom 0 4)) kvs) := by
    intro roots
    induction roots with
    | nil => intro kvs n _ h; exact h
    | cons r t ih =>
      intro kvs n hr h
      have h1 := toldRow_ok (hr r List.mem_cons_self) (numsFrom 0 4) n nums4 h
      have h2 := ih _ _ (fun r hr' => hr r (List.mem_cons_of_mem _ hr')) h1
      rw [List.foldl_cons, List.length_cons]
      have e : n + (numsFrom 0 4).length + 4 * t.length = n + 4 * (t.length + 1) := by simp [numsFrom]; omega
      rw [← e]
      exact h2
  intro roots hr
  have := key roots [] 0 hr ⟨Nat.le_refl _, fun _ h => nomatch h⟩
  rw [Nat.zero_add] at this
  exact this
end
end Mine
end
/-! ### Fn15 -/
section
open PySem PySem.Calls PyProof.Rows PySem.W
namespace Mine
section
variable {prog : Program} {w : World}
theorem toldRow_nil {root : Int} {kvs : List (Str × Str)} : toldRow root kvs [] = kvs := rfl
theorem bookOf_nil : bookOf [] = [] := rfl
set_option maxHeartbeats 4000000 in
theorem fn_yes {kinds : Nat} (hkd : kinds < 32) : Fn prog w (Base w) 10 225 [I (kinds : Int)] (Ls T ((bookOf (rootsOf (kinds : Int))).map (·.2))) := by
  have hfd : fnAt (KK w.params) 225 = some _ := rfl
  refine Fn.k (n := 9) (binds := fun vs => [(Str.ofString "kinds", vs[0]!)]) hfd rfl rfl ?_ ?_ ?_
  · intro g vs h
    obtain ⟨v, rfl, _⟩ := paired1 h
    rfl
  · intro g vs L h x hx
    rcases List.mem_singleton.mp hx with rfl
    exact .inr ⟨rfl, rfl⟩
  · intro A g s vs L s₁ hA B B₁ h F
    obtain ⟨v, rfl, p⟩ := paired1 h
    have hroots := roots_ok ⟨kinds, hkd⟩
    dsimp only at hroots
    have hrl : (rootsOf (kinds : Int)).length ≤ 5 := by
      unfold rootsOf
      rw [List.length_append, List.length_map]
      have := List.length_filter_le (fun a : Int × Nat => Builtin.bitAnd ((kinds : Int).fdiv (2 ^ ((a.2 : Int) + 1).toNat)) 1 != 0) rootSeeds.zipIdx
      simp [rootSeeds] at this ⊢
      omega
    refine xs_newBook (n := 6) hA F B₁ fun D k₀ vb g₁ s₂ F₁ le₁ hbook _ => ?_
    have B₂ := F₁.base B
    have hck : s₂.heap.IsCell (L + 1) (some v) := F₁.x.cell (Str.ofString "kinds") _ rfl
    have p₁ := (I (kinds : Int)).up le₁ p
    refine xs_assign (P := Ls I (rootsOf (kinds : Int))) F₁ (Ev.bin (P₁ := Ls I [15 * (kinds : Int).fmod 2]) (P₂ := Ls I ((rootSeeds.zipIdx.filter fun a => Builtin.bitAnd ((kinds : Int).fdiv (2 ^ ((a.2 : Int) + 1).toNat)) 1 != 0).map (·.1)))
      (Ev.lst (xs := [15 * (kinds : Int).fmod 2]) (R := I) (EvL.cons (Ev.bin Ev.cInt (Ev.bin (Ev.nCell rfl hck p₁) Ev.cInt fun g s a b => op_mod (by decide)) fun g s a b => op_mul (IntMulOk.of_left (by decide +kernel))) EvL.nil) (by show 1 ≤ sizeLine; decide))
      (Ev.weak (EvC.ev (EvC.pair (xs := rootSeeds.zipIdx) (p := fun a => Builtin.bitAnd ((kinds : Int).fdiv (2 ^ ((a.2 : Int) + 1).toNat)) 1 != 0) (R := fun a => I a.1) hA.handled (EvI2.enum (xs := rootSeeds) (R := I) hA.handled B₂ (Ev.tup (xs := rootSeeds) (R := I) (EvL.cons Ev.cInt (EvL.cons Ev.cInt (EvL.cons Ev.cInt (EvL.cons Ev.cInt EvL.nil)))) (by decide)))
        (fun C m v₁ v₂ a g' s' ha x hn hm hm' hv hv' => tests_one (EvT.ofI (Ev.bin (Ev.bin (Ev.nCell rfl (hck.keeps (kget x.keeps)) ((I (kinds : Int)).up x.le p₁)) (Ev.bin (Ev.nLocal hn hm hv) Ev.cInt fun g s a b => op_add) fun g s a b => op_shr (by omega)) Ev.cInt fun g s a b => op_and)) x.sub)
        (fun C m v₁ v₂ a g' s' ha hp x hn hm hm' hv hv' => Ev.nLocal hn hm' hv') (by decide))) fun g v q => Ls.map.mp q)
      fun g s a b => op_addL (by
        have : (rootsOf (kinds : Int)).length ≤ 5 := hrl
        unfold rootsOf at this
        rw [List.length_append] at this
        exact Nat.le_trans this (by decide))) fun vr g₂ s₃ F₂ le₂ hrs => ?_
    refine xs_for (It := I) (xs := rootsOf (kinds : Int)) (fun i m cm g pv => ∃ ys n, pv = [(D, lstObj ys n)] ∧ m (Str.ofString "book") = some vb ∧ (BookAt w.params D).p g vb ∧ Paired (fun kv v => (KV kv).p g v) (bookOf ((rootsOf (kinds : Int)).take i)) ys)
      (fun i m cm g g' pv le ⟨ys, n, h1, h2, h3, h4⟩ => ⟨ys, n, h1, h2, (BookAt w.params D).up le h3, Paired.mono (fun kv v q => (KV kv).up le q) h4⟩)
      ⟨[], k₀, rfl, (upd_ne (by decide)).trans upd_eq, (BookAt w.params D).up le₂ hbook, by rw [List.take_zero, bookOf_nil]; exact .nil⟩ F₂ (Ev.iter (Ev.nLocal F₂.ns upd_eq hrs) fun g s v hg hp => Itb.list hA.handled hg hp) ?_ ?_
    · rintro i root vroot m cm g s pv wpv ha hv hw ⟨ys, n, rfl, hmb, hb, hr⟩ F
      have hroot := hroots root (List.mem_of_getElem? ha)
      have hi := (List.getElem?_eq_some_iff.mp ha).1
      have okI := bookOf_ok ((rootsOf (kinds : Int)).take i) fun r hr => hroots r (List.mem_of_mem_take hr)
      have hli : ((rootsOf (kinds : Int)).take i).length ≤ 5 := by rw [List.length_take]; omega
      have BT := F.base B
      refine xs_for (It := I) (xs := numsFrom 0 4) (fun j m cm g' pv => ∃ ys n, pv = wpv ++ [(D, lstObj ys n)] ∧ m (Str.ofString "book") = some vb ∧ m (Str.ofString "root") = some vroot ∧ (BookAt w.params D).p g' vb ∧ (I root).p g' vroot ∧ Paired (fun kv v => (KV kv).p g' v) (toldRow root (bookOf ((rootsOf (kinds : Int)).take i)) ((numsFrom 0 4).take j)) ys ∧ GLe g g')
        (fun i m cm g' g'' pv le ⟨ys, n, h1, h2, h3, h4, h5, h6, h7⟩ => ⟨ys, n, h1, h2, h3, (BookAt w.params D).up le h4, (I root).up le h5, Paired.mono (fun kv v q => (KV kv).up le q) h6, fun b o e => le b o (h7 b o e)⟩)
        ⟨ys, n, rfl, (upd_ne (by decide)).trans hmb, upd_eq, hb, hv, by rw [List.take_zero, toldRow_nil]; exact hr, fun _ _ e => e⟩ F (Ev.iter (P := Rg 0 (0 + (4 : Nat))) (Ev.ty BT (EvL.cons Ev.cInt EvL.nil) (fun g' s' vs x hp => ?_) rfl) fun g s v hg hp => Itb.range hA.handled hg hp (by omega) (by omega)) ?_ ?_
      · obtain ⟨v, rfl, q⟩ := paired1 hp
        exact op_range1 x.sub q
      · rintro j kk vk m cm g s pv wpv' hj hvk hw' ⟨ys, n, rfl, hmb, hmr, hb, hvr, hr, hgl⟩ F
        obtain ⟨rfl, hj4⟩ := nums_nat hj
        have hx := x_ok root hroot ⟨j, hj4⟩
        dsimp only at hx
        have hw0 := wordOk_parts (words_ok ⟨(xOf root (j : Int)).toNat, by omega⟩ ⟨j, hj4⟩)
        dsimp only at hw0
        rw [Int.toNat_of_nonneg hx.1] at hw0
        obtain ⟨w1, w2, w3, w4, w5, w6, w7⟩ := hw0
        have BJ := F.base B
        -- x
        refine xs_assign (P := I (xOf root (j : Int))) F (Ev.fn BJ (hA.less (by omega)) fn_and (EvL.cons (Ev.fn BJ (hA.less (by omega)) (fn_rshift (x := 17 * root) (y := (j : Int)) (by omega)) (EvL.cons (Ev.fn BJ (hA.less (by omega)) (fn_mul (x := 17) (y := root) (IntMulOk.of_left (by decide +kernel))) (EvL.cons Ev.cInt (EvL.cons (Ev.nLocal F.ns ((upd_ne (by decide)).trans hmr) hvr) EvL.nil)))
          (EvL.cons (Ev.nLocal F.ns upd_eq hvk) EvL.nil))) (EvL.cons Ev.cInt EvL.nil))) fun vx g₃ s₃ F₃ le₃ hxv => ?_
        have B₃ := F₃.base B
        have hn16 : 0 ≤ 16 + xOf root (j : Int) := by omega
        -- name
        refine xs_assign (P := T (nameOf (xOf root (j : Int)))) F₃ (Ev.join Ev.cStr (Ev.weak (EvC.ev (EvC.comp0 (xs := octs (ap (16 + xOf root (j : Int)).toNat).toArray) (It := I) (R := fun o => T ⟨#[o.toNat]⟩)
          (Ev.iter (Ev.fn B₃ (hA.less (by omega)) (fn_ap (n := (16 + xOf root (j : Int)).toNat) (by omega)) (EvL.cons (Ev.weak (Ev.bin Ev.cInt (Ev.nLocal F₃.ns upd_eq hxv) fun g s a b => op_add) fun g v q => by rw [Int.toNat_of_nonneg hn16]; exact q) EvL.nil)) fun g s v hg hp => Itb.bytes hA.handled hp)
          (fun C m' vo o g' s' ho x hn hm hvo => Ev.bui (B₃.ext x) (EvL.cons (Ev.nLocal hn hm hvo) EvL.nil) (fun g' s' vs x hp => by
            obtain ⟨v, rfl, q⟩ := paired1 hp
            exact op_chr (w2 o ho).1 (w2 o ho).2 x.sub q) rfl) ?_)) fun g v q => (Ls.map (R := T)).mp q) w1) fun vn g₄ s₄ F₄ le₄ hnm => ?_
        · have := apF_length 8 (16 + xOf root (j : Int)).toNat []
          have e : (octs (ap (16 + xOf root (j : Int)).toNat).toArray).length ≤ 8 := by
            simp only [octs, List.length_map]
            simpa [ap] using this
          exact Nat.le_trans e (by decide)
        have B₄ := F₄.base B
        have up4 : GLe g g₄ := fun b o e => le₄ b o (le₃ b o e)
        have okJ := toldRow_ok hroot ((numsFrom 0 4).take j) _ (fun k hk => nums4 k (List.mem_of_mem_take hk)) okI
        have okK : KvOk 900 (toldRow root (bookOf ((rootsOf (kinds : Int)).take i)) ((numsFrom 0 4).take j)) := by
          refine ⟨Nat.le_trans okJ.len ?_, okJ.keys⟩
          have : ((numsFrom 0 4).take j).length ≤ 4 := Nat.le_trans (List.length_take_le ..) (by omega)
          omega
        rw [← List.append_assoc] at F₄
        have hxk := (I (xOf root (j : Int))).up le₄ hxv
        refine xs_setdefault (pre := wpv' ++ wpv) (post := []) (nm := keyOf (xOf root (j : Int)) (j : Int)) (val := ring (xOf root (j : Int)) (j : Int)) (hA.less (by omega)) B F₄ (fun p hp => ?_)
          ((upd_ne (by decide)).trans ((upd_ne (by decide)).trans ((upd_ne (by decide)).trans hmb))) ((BookAt w.params D).up up4 hb)
          (Ev.ite (c := (j : Int).fmod 2 != 0) (EvT.ofI (Ev.bin (Ev.nLocal F₄.ns ((upd_ne (by decide)).trans ((upd_ne (by decide)).trans upd_eq)) ((I (j : Int)).up up4 hvk)) Ev.cInt fun g s a b => op_mod (by decide)))
            (fun e => Ev.weak (Ev.lower (Ev.nLocal F₄.ns upd_eq hnm) (Nat.le_trans w4 (by decide))) fun g v q => by unfold keyOf; rw [if_pos e]; exact q)
            (fun e => Ev.weak (Ev.nLocal F₄.ns upd_eq hnm) fun g v q => by unfold keyOf; rw [if_neg (by rw [e]; decide)]; exact q))
          (Ev.weak (Ev.fn B₄ (hA.less (by omega)) (fn_ring (x := (xOf root (j : Int)).toNat) (first := j) (by omega) hj4) (EvL.cons (Ev.nLocal F₄.ns ((upd_ne (by decide)).trans upd_eq) (by rw [Int.toNat_of_nonneg hx.1]; exact hxk)) (EvL.cons (Ev.nLocal F₄.ns ((upd_ne (by decide)).trans ((upd_ne (by decide)).trans upd_eq)) ((I (j : Int)).up up4 hvk)) EvL.nil))) fun g v q => by rw [Int.toNat_of_nonneg hx.1] at q; exact q)
          (Paired.mono (fun kv v q => (KV kv).up up4 q) hr) okK (Nat.le_trans w3 (by decide)) w5 w6 w7 fun ys' k' g₅ s₅ F₅ le₅ hr₅ => xs_nil ?_
        · rw [List.append_nil] at hp
          rcases List.mem_append.mp hp with hp | hp
          · exact hw' p hp _ (List.mem_append.mpr (.inr List.mem_cons_self))
          · exact hw p hp _ List.mem_cons_self
        · rw [List.append_assoc] at F₅
          have up5 : GLe g g₅ := fun b o e => le₅ b o (up4 b o e)
          refine ⟨_, _, g₅, _, F₅, up5, ⟨ys', k', rfl, (upd_ne (by decide)).trans ((upd_ne (by decide)).trans ((upd_ne (by decide)).trans hmb)), (upd_ne (by decide)).trans ((upd_ne (by decide)).trans ((upd_ne (by decide)).trans hmr)), (BookAt w.params D).up up5 hb, (I root).up up5 hvr, ?_, fun b o e => up5 b o (hgl b o e)⟩, ?_⟩
          · rw [take_snoc hj, toldRow_snoc]
            exact hr₅
          · simp
      · rintro m cm g₉ s pv ⟨ys, n, rfl, hmb, hmr, hb, hvr, hr, hgl⟩ F
        refine xs_nil ⟨m, cm, g₉, [(D, lstObj ys n)], F, hgl, ⟨ys, n, rfl, hmb, hb, ?_⟩, rfl⟩
        rw [take_snoc ha, bookOf_snoc]
        rw [List.take_length] at hr
        exact hr
    · rintro m cm g s pv ⟨ys, n, rfl, hmb, hb, hr⟩ F
      rw [List.take_length] at hr
      obtain ⟨F', le⟩ := F.publish (by simp)
      have okF := bookOf_ok (rootsOf (kinds : Int)) hroots
      refine xs_ret F' (Ev.meth0 (F'.base B) (hA.less (by omega)) (fn_values (kvs := bookOf (rootsOf (kinds : Int))) (Nat.le_trans okF.len (by omega))) (Ev.nLocal (P := Book w.params (bookOf (rootsOf (kinds : Int)))) F'.ns hmb ⟨D, (BookAt w.params D).up le hb, D, ys, n, rfl, G.put_self _ _ _, Paired.mono (fun kv v q => (KV kv).up le q) hr⟩)
        (Finds.book fun D => finds_vals)) fun v g' s' x q => ⟨v, g', rfl, x, q⟩
end
end Mine
end
/-! ### Law1 -/
section
open PySem PySem.Calls PyProof.Rows PySem.W
namespace Mine
/-! the plain law -/
def toldOf (kinds : Int) : List Str := (bookOf (rootsOf kinds)).map (·.2)
def rowsOf (kinds : Int) : List (List Int) := (toldOf kinds).map sizes
/-! the told rings by their numbers -/
def stepX (l : List (Int × Int)) (root k : Int) : List (Int × Int) := if l.any (fun p => p.1 == xOf root k) = true then l else l ++ [(xOf root k, k)]
def rowX (root : Int) (l : List (Int × Int)) (ks : List Int) : List (Int × Int) := ks.foldl (fun l k => stepX l root k) l
def bookX (roots : List Int) : List (Int × Int) := roots.foldl (fun l root => rowX root l (numsFrom 0 4)) []
def kvX (p : Int × Int) : Str × Str := (keyOf p.1 p.2, ring p.1 p.2)
def rowsX (kinds : Int) : List (List Int) := (bookX (rootsOf kinds)).map fun p => bitsOf p.1
def lk (x : Nat) : Str := ⟨#[98, 97 + x]⟩
def InX (p : Int × Int) : Prop := ∃ (x : Fin 16) (k : Fin 4), p = (((x.val : Nat) : Int), ((k.val : Nat) : Int))
theorem lower_key : ∀ (x : Fin 16) (k : Fin 4), Txt.lower (keyOf (x.val : Nat) (k.val : Nat)) = lk x.val := by decide +kernel
theorem sizes_ring : ∀ (x : Fin 16) (k : Fin 4), sizes (ring (x.val : Nat) (k.val : Nat)) = bitsOf (x.val : Nat) := by decide +kernel
theorem ring_len : ∀ (x : Fin 16) (k : Fin 4), (ring (x.val : Nat) (k.val : Nat)).length ≤ 100 := by decide +kernel
theorem lk_eq : ∀ x y : Fin 16, (lk x.val == lk y.val) = (((x.val : Nat) : Int) == ((y.val : Nat) : Int)) := by decide +kernel
theorem findKv_any (x : Fin 16) (k : Fin 4) : ∀ l : List (Int × Int), (∀ p ∈ l, InX p) → (findKv (l.map kvX) (Txt.lower (keyOf (x.val : Nat) (k.val : Nat)))).isSome = l.any (fun p => p.1 == ((x.val : Nat) : Int))
  | [], _ => rfl
  | p :: r, h => by
    have ih := findKv_any x k r fun q hq => h q (List.mem_cons_of_mem _ hq)
    obtain ⟨y, j, rfl⟩ := h p List.mem_cons_self
    have e : (Txt.lower (kvX (((y.val : Nat) : Int), ((j.val : Nat) : Int))).1 == Txt.lower (keyOf (x.val : Nat) (k.val : Nat))) = (((y.val : Nat) : Int) == ((x.val : Nat) : Int)) := by
      show (Txt.lower (keyOf (y.val : Nat) (j.val : Nat)) == Txt.lower (keyOf (x.val : Nat) (k.val : Nat))) = _
      rw [lower_key, lower_key, lk_eq]
    unfold findKv at ih ⊢
    rw [Option.isSome_map] at ih ⊢
    rw [List.map_cons, List.find?_cons, List.any_cons, e]
    cases q : (((y.val : Nat) : Int) == ((x.val : Nat) : Int)) with
    | true => rfl
    | false => rw [Bool.false_or]; exact ih
theorem setd_some {kvs : List (Str × Str)} {nm val : Str} (h : (findKv kvs (Txt.lower nm)).isSome = true) : setd kvs nm val = kvs := by
  unfold setd
  split
  · rfl
  · rename_i q; rw [q] at h; cases h
theorem setd_none {kvs : List (Str × Str)} {nm val : Str} (h : (findKv kvs (Txt.lower nm)).isSome = false) : setd kvs nm val = kvs ++ [(nm, val)] := by
  unfold setd
  split
  · rename_i q; rw [q] at h; cases h
  · rfl
theorem xOf_in {root k : Int} (hr : root ∈ rootSet) (hk : 0 ≤ k ∧ k < 4) : InX (xOf root k, k) := by
  have hx := x_ok root hr ⟨k.toNat, by omega⟩
  have hkn : ((k.toNat : Nat) : Int) = k := Int.toNat_of_nonneg hk.1
  dsimp only at hx
  rw [hkn] at hx
  exact ⟨⟨(xOf root k).toNat, by omega⟩, ⟨k.toNat, by omega⟩, by dsimp only; rw [Int.toNat_of_nonneg hx.1, hkn]⟩
theorem stepX_ok {l : List (Int × Int)} {root k : Int} (hl : ∀ p ∈ l, InX p) (hr : root ∈ rootSet) (hk : 0 ≤ k ∧ k < 4) : toldStep (l.map kvX) root k = (stepX l root k).map kvX ∧ ∀ p ∈ stepX l root k, InX p := by
  have hin := xOf_in hr hk
  obtain ⟨x, j, e⟩ := id hin
  injection e with e1 e2
  have hf := findKv_any x j l hl
  rw [← e1, ← e2] at hf
  unfold toldStep stepX
  cases q : l.any (fun p => p.1 == xOf root k) with
  | true =>
    rw [q] at hf
    rw [if_pos rfl]
    exact ⟨setd_some hf, hl⟩
  | false =>
    rw [q] at hf
    rw [if_neg (by decide), List.map_append]
    refine ⟨setd_none hf, fun p hp => ?_⟩
    rcases List.mem_append.mp hp with hp | hp
    · exact hl p hp
    · rcases List.mem_singleton.mp hp with rfl
      exact hin
theorem rowX_ok {root : Int} (hr : root ∈ rootSet) : ∀ (ks : List Int) (l : List (Int × Int)), (∀ k ∈ ks, 0 ≤ k ∧ k < 4) → (∀ p ∈ l, InX p) → toldRow root (l.map kvX) ks = (rowX root l ks).map kvX ∧ ∀ p ∈ rowX root l ks, InX p
  | [], _, _, hl => ⟨rfl, hl⟩
  | k :: ks, l, hk, hl => by
    obtain ⟨h1, h2⟩ := stepX_ok hl hr (hk k List.mem_cons_self)
    obtain ⟨h3, h4⟩ := rowX_ok hr ks (stepX l root k) (fun j hj => hk j (List.mem_cons_of_mem _ hj)) h2
    refine ⟨?_, h4⟩
    unfold toldRow rowX at h3 ⊢
    rw [List.foldl_cons, List.foldl_cons, h1]
    exact h3
theorem bookX_ok : ∀ (roots : List Int) (l : List (Int × Int)), (∀ r ∈ roots, r ∈ rootSet) → (∀ p ∈ l, InX p) →
    roots.foldl (fun kvs root => toldRow root kvs (numsFrom 0 4)) (l.map kvX) = (roots.foldl (fun l root => rowX root l (numsFrom 0 4)) l).map kvX ∧ ∀ p ∈ roots.foldl (fun l root => rowX root l (numsFrom 0 4)) l, InX p
  | [], _, _, hl => ⟨rfl, hl⟩
  | r :: rs, l, hr, hl => by
    obtain ⟨h1, h2⟩ := rowX_ok (hr r List.mem_cons_self) (numsFrom 0 4) l nums4 hl
    obtain ⟨h3, h4⟩ := bookX_ok rs _ (fun x hx => hr x (List.mem_cons_of_mem _ hx)) h2
    refine ⟨?_, h4⟩
    rw [List.foldl_cons, List.foldl_cons, h1]
    exact h3
theorem book_eq (kinds : Fin 32) : bookOf (rootsOf (kinds.val : Nat)) = (bookX (rootsOf (kinds.val : Nat))).map kvX ∧ ∀ p ∈ bookX (rootsOf (kinds.val : Nat)), InX p :=
  bookX_ok _ [] (roots_ok kinds) fun _ h => nomatch h
theorem told_eq (kinds : Fin 32) : toldOf (kinds.val : Nat) = (bookX (rootsOf (kinds.val : Nat))).map fun p => ring p.1 p.2 := by
  unfold toldOf
  rw [(book_eq kinds).1, List.map_map]
  rfl
theorem rows_eq (kinds : Fin 32) : rowsOf (kinds.val : Nat) = rowsX (kinds.val : Nat) := by
  unfold rowsOf rowsX
  rw [told_eq, List.map_map]
  refine List.map_congr_left fun p hp => ?_
  obtain ⟨x, k, rfl⟩ := (book_eq kinds).2 p hp
  exact sizes_ring x k
theorem told_short (kinds : Fin 32) : ∀ wd ∈ toldOf (kinds.val : Nat), wd.length ≤ 100 := by
  intro wd h
  rw [told_eq] at h
  obtain ⟨p, hp, rfl⟩ := List.mem_map.mp h
  obtain ⟨x, k, rfl⟩ := (book_eq kinds).2 p hp
  exact ring_len x k
theorem first_ring : ∀ b : Fin 2, Txt.lower (ring (15 * (b.val : Nat)) 0) = abcd := by decide +kernel
theorem first_X : ∀ kinds : Fin 32, (bookX (rootsOf (kinds.val : Nat)))[0]? = some (15 * ((kinds.val % 2 : Nat) : Int), 0) := by decide +kernel
theorem told_first (kinds : Fin 32) : ∃ wd, (toldOf (kinds.val : Nat))[0]? = some wd ∧ Txt.lower wd = abcd := by
  rw [told_eq, List.getElem?_map, first_X]
  exact ⟨_, rfl, first_ring ⟨kinds.val % 2, Nat.mod_lt _ (by decide)⟩⟩
def rowsB (rows : List (List Int)) : Bool := rows.all fun r => decide (r.length = 4) && r.all fun x => x == 0 || x == 1
def lastEven (n : Nat) : Bool := match (ap n).getLast? with
  | some c => c.toNat % 2 == 0
  | none => false
def checkA (rows : List (List Int)) (kinds : Nat) : Bool :=
  rowsB rows && decide (rows.length ≤ 16) && (ordered rows == ordered (plainRows kinds 16)) && (ordered rows).isSome && lastEven (weight rows [0, 1, 2, 3]).toNat
set_option maxHeartbeats 4000000 in
theorem lawA : ∀ kinds : Fin 32, checkA (rowsX (kinds.val : Nat)) kinds.val = true := by decide +kernel
end Mine
end
/-! ### Law2 -/
section
open PySem PySem.Calls PyProof.Rows PySem.W
namespace Mine
def checkTree : Nat → List (List Int) → List Int → Bool
  | 0, rows, _ => rows.length == 1
  | f + 1, rows, free => !free.isEmpty && free.all fun a =>
    !failOf (wordsOf (sumsOf rows free a)) (sumsOf rows free a) (goodOf (wordsOf (sumsOf rows free a))) &&
    (goodOf (wordsOf (sumsOf rows free a))).all fun size => checkTree f ((halvesOf rows a).getD size.toNat []) (freeNext free a)
theorem ask_mem {free : List Int} {order : Int} (h : free ≠ []) : askedOf free order ∈ free := by
  have hl := List.length_pos_iff.mpr h
  have := (wish_ok hl order).2
  unfold askedOf
  rw [List.getD_eq_getElem?_getD, List.getElem?_eq_getElem this]
  exact List.getElem_mem this
theorem tree_game : ∀ (f : Nat) (turn : Nat) (rows : List (List Int)) (order : Int) (free : List Int) (wishes : Int), checkTree f rows free = true → (gameFrom f turn rows order free wishes).length = 1
  | 0, _, rows, _, _, _, h => by
    unfold checkTree at h
    unfold gameFrom
    exact beq_iff_eq.mp h
  | f + 1, turn, rows, order, free, wishes, h => by
    unfold checkTree at h
    rw [Bool.and_eq_true, List.all_eq_true] at h
    have hne : free ≠ [] := by
      intro e
      rw [e] at h
      cases h.1
    have ha := h.2 _ (ask_mem (order := order) hne)
    rw [Bool.and_eq_true, List.all_eq_true] at ha
    obtain ⟨hf, hg⟩ := ha
    have hf' : failOf (wordsOf (sumsOf rows free (askedOf free order))) (sumsOf rows free (askedOf free order)) (goodOf (wordsOf (sumsOf rows free (askedOf free order)))) = false := by
      cases q : failOf (wordsOf (sumsOf rows free (askedOf free order))) (sumsOf rows free (askedOf free order)) (goodOf (wordsOf (sumsOf rows free (askedOf free order)))) with
      | false => rfl
      | true => rw [q] at hf; cases hf
    have hgne : goodOf (wordsOf (sumsOf rows free (askedOf free order))) ≠ [] := by
      intro h0
      unfold failOf at hf'
      rw [h0] at hf'
      simp at hf'
    show (if failOf _ _ _ = true then [] else _ : List (List Int)).length = 1
    rw [if_neg (by rw [hf']; decide)]
    refine tree_game f (turn + 1) _ _ _ _ ?_
    have hi := (wish_ok (List.length_pos_iff.mpr hgne) (wishes.fdiv (2 ^ ((turn : Int)).toNat))).2
    refine hg _ ?_
    rw [List.getD_eq_getElem?_getD, List.getElem?_eq_getElem hi]
    exact List.getElem_mem hi
end Mine
end
/-! ### Law3 -/
section
open PySem PySem.Calls PyProof.Rows PySem.W
namespace Mine
/-- the told rings' sizes, by the kinds -/
def rowsT : List (List (List Int)) := [
  [[0, 0, 0, 0]],
  [[1, 1, 1, 1]],
  [[0, 0, 0, 0], [1, 0, 0, 0], [0, 0, 0, 1], [0, 0, 1, 0], [0, 1, 0, 0]],
  [[1, 1, 1, 1], [1, 0, 0, 0], [0, 0, 0, 1], [0, 0, 1, 0], [0, 1, 0, 0]],
  [[0, 0, 0, 0], [1, 1, 0, 0], [1, 0, 0, 1], [0, 0, 1, 1], [0, 1, 1, 0]],
  [[1, 1, 1, 1], [1, 1, 0, 0], [1, 0, 0, 1], [0, 0, 1, 1], [0, 1, 1, 0]],
  [[0, 0, 0, 0], [1, 0, 0, 0], [0, 0, 0, 1], [0, 0, 1, 0], [0, 1, 0, 0], [1, 1, 0, 0], [1, 0, 0, 1], [0, 0, 1, 1], [0, 1, 1, 0]],
  [[1, 1, 1, 1], [1, 0, 0, 0], [0, 0, 0, 1], [0, 0, 1, 0], [0, 1, 0, 0], [1, 1, 0, 0], [1, 0, 0, 1], [0, 0, 1, 1], [0, 1, 1, 0]],
  [[0, 0, 0, 0], [1, 0, 1, 0], [0, 1, 0, 1]],
  [[1, 1, 1, 1], [1, 0, 1, 0], [0, 1, 0, 1]],
  [[0, 0, 0, 0], [1, 0, 0, 0], [0, 0, 0, 1], [0, 0, 1, 0], [0, 1, 0, 0], [1, 0, 1, 0], [0, 1, 0, 1]],
  [[1, 1, 1, 1], [1, 0, 0, 0], [0, 0, 0, 1], [0, 0, 1, 0], [0, 1, 0, 0], [1, 0, 1, 0], [0, 1, 0, 1]],
  [[0, 0, 0, 0], [1, 1, 0, 0], [1, 0, 0, 1], [0, 0, 1, 1], [0, 1, 1, 0], [1, 0, 1, 0], [0, 1, 0, 1]],
  [[1, 1, 1, 1], [1, 1, 0, 0], [1, 0, 0, 1], [0, 0, 1, 1], [0, 1, 1, 0], [1, 0, 1, 0], [0, 1, 0, 1]],
  [[0, 0, 0, 0], [1, 0, 0, 0], [0, 0, 0, 1], [0, 0, 1, 0], [0, 1, 0, 0], [1, 1, 0, 0], [1, 0, 0, 1], [0, 0, 1, 1], [0, 1, 1, 0], [1, 0, 1, 0], [0, 1, 0, 1]],
  [[1, 1, 1, 1], [1, 0, 0, 0], [0, 0, 0, 1], [0, 0, 1, 0], [0, 1, 0, 0], [1, 1, 0, 0], [1, 0, 0, 1], [0, 0, 1, 1], [0, 1, 1, 0], [1, 0, 1, 0], [0, 1, 0, 1]],
  [[0, 0, 0, 0], [1, 1, 1, 0], [1, 1, 0, 1], [1, 0, 1, 1], [0, 1, 1, 1]],
  [[1, 1, 1, 1], [1, 1, 1, 0], [1, 1, 0, 1], [1, 0, 1, 1], [0, 1, 1, 1]],
  [[0, 0, 0, 0], [1, 0, 0, 0], [0, 0, 0, 1], [0, 0, 1, 0], [0, 1, 0, 0], [1, 1, 1, 0], [1, 1, 0, 1], [1, 0, 1, 1], [0, 1, 1, 1]],
  [[1, 1, 1, 1], [1, 0, 0, 0], [0, 0, 0, 1], [0, 0, 1, 0], [0, 1, 0, 0], [1, 1, 1, 0], [1, 1, 0, 1], [1, 0, 1, 1], [0, 1, 1, 1]],
  [[0, 0, 0, 0], [1, 1, 0, 0], [1, 0, 0, 1], [0, 0, 1, 1], [0, 1, 1, 0], [1, 1, 1, 0], [1, 1, 0, 1], [1, 0, 1, 1], [0, 1, 1, 1]],
  [[1, 1, 1, 1], [1, 1, 0, 0], [1, 0, 0, 1], [0, 0, 1, 1], [0, 1, 1, 0], [1, 1, 1, 0], [1, 1, 0, 1], [1, 0, 1, 1], [0, 1, 1, 1]],
  [[0, 0, 0, 0], [1, 0, 0, 0], [0, 0, 0, 1], [0, 0, 1, 0], [0, 1, 0, 0], [1, 1, 0, 0], [1, 0, 0, 1], [0, 0, 1, 1], [0, 1, 1, 0], [1, 1, 1, 0], [1, 1, 0, 1], [1, 0, 1, 1], [0, 1, 1, 1]],
  [[1, 1, 1, 1], [1, 0, 0, 0], [0, 0, 0, 1], [0, 0, 1, 0], [0, 1, 0, 0], [1, 1, 0, 0], [1, 0, 0, 1], [0, 0, 1, 1], [0, 1, 1, 0], [1, 1, 1, 0], [1, 1, 0, 1], [1, 0, 1, 1], [0, 1, 1, 1]],
  [[0, 0, 0, 0], [1, 0, 1, 0], [0, 1, 0, 1], [1, 1, 1, 0], [1, 1, 0, 1], [1, 0, 1, 1], [0, 1, 1, 1]],
  [[1, 1, 1, 1], [1, 0, 1, 0], [0, 1, 0, 1], [1, 1, 1, 0], [1, 1, 0, 1], [1, 0, 1, 1], [0, 1, 1, 1]],
  [[0, 0, 0, 0], [1, 0, 0, 0], [0, 0, 0, 1], [0, 0, 1, 0], [0, 1, 0, 0], [1, 0, 1, 0], [0, 1, 0, 1], [1, 1, 1, 0], [1, 1, 0, 1], [1, 0, 1, 1], [0, 1, 1, 1]],
  [[1, 1, 1, 1], [1, 0, 0, 0], [0, 0, 0, 1], [0, 0, 1, 0], [0, 1, 0, 0], [1, 0, 1, 0], [0, 1, 0, 1], [1, 1, 1, 0], [1, 1, 0, 1], [1, 0, 1, 1], [0, 1, 1, 1]],
  [[0, 0, 0, 0], [1, 1, 0, 0], [1, 0, 0, 1], [0, 0, 1, 1], [0, 1, 1, 0], [1, 0, 1, 0], [0, 1, 0, 1], [1, 1, 1, 0], [1, 1, 0, 1], [1, 0, 1, 1], [0, 1, 1, 1]],
  [[1, 1, 1, 1], [1, 1, 0, 0], [1, 0, 0, 1], [0, 0, 1, 1], [0, 1, 1, 0], [1, 0, 1, 0], [0, 1, 0, 1], [1, 1, 1, 0], [1, 1, 0, 1], [1, 0, 1, 1], [0, 1, 1, 1]],
  [[0, 0, 0, 0], [1, 0, 0, 0], [0, 0, 0, 1], [0, 0, 1, 0], [0, 1, 0, 0], [1, 1, 0, 0], [1, 0, 0, 1], [0, 0, 1, 1], [0, 1, 1, 0], [1, 0, 1, 0], [0, 1, 0, 1], [1, 1, 1, 0], [1, 1, 0, 1], [1, 0, 1, 1], [0, 1, 1, 1]],
  [[1, 1, 1, 1], [1, 0, 0, 0], [0, 0, 0, 1], [0, 0, 1, 0], [0, 1, 0, 0], [1, 1, 0, 0], [1, 0, 0, 1], [0, 0, 1, 1], [0, 1, 1, 0], [1, 0, 1, 0], [0, 1, 0, 1], [1, 1, 1, 0], [1, 1, 0, 1], [1, 0, 1, 1], [0, 1, 1, 1]]]

/-! a word's last letter, a word's number -/
theorem picked_last (pre : List UInt8) (c : UInt8) : KBy.picked (pre ++ [c]).toArray (some (-1)) none = #[c] := by
  rw [KBc.picked_eq]
  have e : clipAt (pre ++ [c]).toArray.size (-1) = pre.length := by
    unfold clipAt
    rw [if_pos (by decide), List.size_toArray, List.length_append, List.length_singleton]
    omega
  show (List.take ((pre ++ [c]).toArray.size - clipAt (pre ++ [c]).toArray.size (-1)) (List.drop (clipAt (pre ++ [c]).toArray.size (-1)) (pre ++ [c]))).toArray = _
  rw [e, List.drop_left, List.size_toArray, List.length_append, List.length_singleton, show pre.length + 1 - pre.length = 1 by omega]
  rfl
theorem apF_tail : ∀ (f n : Nat) (acc : List UInt8), ∃ pre, apF f n acc = pre ++ acc
  | 0, _, acc => ⟨[], rfl⟩
  | f + 1, n, acc => by
    unfold apF
    split
    · exact ⟨[], rfl⟩
    · obtain ⟨pre, h⟩ := apF_tail f (n / 16) (UInt8.ofNat (65 + n % 16) :: acc)
      exact ⟨pre ++ [UInt8.ofNat (65 + n % 16)], by rw [h, List.append_assoc]; rfl⟩
theorem letter_nat (n : Nat) : (UInt8.ofNat (65 + n % 16)).toNat = 65 + n % 16 := by
  rw [UInt8.toNat_ofNat']
  omega
theorem good_letter : ∀ m : Fin 16, (!ends.any fun y => y.toList == [UInt8.ofNat (65 + m.val)]) = (m.val != 0) := by decide +kernel
theorem good_ap (n : Nat) : goodWord (ap n) = (n % 16 != 0) := by
  by_cases h : n = 0
  · subst h
    decide +kernel
  · obtain ⟨pre, e⟩ := apF_tail 7 (n / 16) [UInt8.ofNat (65 + n % 16)]
    have e' : ap n = pre ++ [UInt8.ofNat (65 + n % 16)] := by
      rw [← e]
      show apF (7 + 1) n [] = _
      unfold apF
      rw [if_neg h]
      rfl
    unfold goodWord
    rw [e', picked_last]
    exact good_letter ⟨n % 16, Nat.mod_lt _ (by decide)⟩
theorem num_apF : ∀ (f n : Nat) (acc : List UInt8), n < 16 ^ f → (octs (apF f n acc).toArray).foldl (fun t o => 16 * t + o - 65) 0 = (octs acc.toArray).foldl (fun t o => 16 * t + o - 65) (n : Int)
  | 0, n, acc, h => by
    have : n = 0 := by simpa using h
    subst this
    rfl
  | f + 1, n, acc, h => by
    unfold apF
    split
    · rename_i h0
      subst h0
      rfl
    · have hd : n / 16 < 16 ^ f := Nat.div_lt_of_lt_mul (by rw [Nat.mul_comm]; rw [Nat.pow_succ] at h; exact h)
      rw [num_apF f (n / 16) _ hd]
      have e : octs (UInt8.ofNat (65 + n % 16) :: acc).toArray = ((UInt8.ofNat (65 + n % 16)).toNat : Int) :: octs acc.toArray := by simp [octs]
      rw [e, List.foldl_cons, letter_nat]
      congr 1
      omega
theorem num_ap {n : Nat} (h : n < 16 ^ 8) : numOf (octs (ap n).toArray) = (n : Int) := num_apF 8 n [] h
def goodN (sums : List Int) : List Int := sizes01.filter fun size => (sums.getD size.toNat 0).toNat % 16 != 0
theorem good_words (sums : List Int) : goodOf (wordsOf sums) = goodN sums := by
  unfold goodOf goodN wordsOf
  congr 1
  funext size
  have : (sums.map fun n => ap n.toNat).getD size.toNat [] = ap (sums.getD size.toNat 0).toNat := by
    rw [List.getD_eq_getElem?_getD, List.getD_eq_getElem?_getD, List.getElem?_map]
    cases sums[size.toNat]? <;> rfl
  rw [this, good_ap]
theorem fail_words {sums : List Int} (h : ∀ n ∈ sums, 0 ≤ n ∧ n < 16 ^ 8) (good : List Int) : failOf (wordsOf sums) sums good = decide (good = []) := by
  have e : ((wordsOf sums).map fun x => numOf (octs x.toArray)) = sums := by
    unfold wordsOf
    rw [List.map_map]
    conv => rhs; rw [← List.map_id sums]
    refine List.map_congr_left fun n hn => ?_
    have := h n hn
    show numOf (octs (ap n.toNat).toArray) = n
    rw [num_ap (by omega), Int.toNat_of_nonneg this.1]
  unfold failOf
  rw [e, decide_eq_true rfl]
  rfl
/-! the tree of answers, by the sums alone -/
def checkFast : Nat → List (List Int) → List Int → Bool
  | 0, rows, _ => rows.length == 1
  | f + 1, rows, free => !free.isEmpty && free.all fun a =>
    !(goodN (sumsOf rows free a)).isEmpty && (goodN (sumsOf rows free a)).all fun size => checkFast f ((halvesOf rows a).getD size.toNat []) (freeNext free a)
theorem fast_tree : ∀ (f : Nat) (rows : List (List Int)) (free : List Int), (∀ r ∈ rows, Row4 r) → rows.length ≤ 16 → Places free → checkFast f rows free = true → checkTree f rows free = true
  | 0, _, _, _, _, _, h => h
  | f + 1, rows, free, hr, hl, hp, h => by
    unfold checkFast at h
    unfold checkTree
    rw [Bool.and_eq_true, List.all_eq_true] at h ⊢
    refine ⟨h.1, fun a ha => ?_⟩
    have h2 := h.2 a ha
    rw [Bool.and_eq_true, List.all_eq_true] at h2
    rw [good_words, fail_words (sums_ok hr hl hp a), Bool.and_eq_true, List.all_eq_true]
    refine ⟨?_, fun size hs => ?_⟩
    · have h3 := h2.1
      cases q : goodN (sumsOf rows free a) with
      | nil => rw [q] at h3; cases h3
      | cons x r => rfl
    · have hm := (get01 (l := halvesOf rows a) [] (by simp [halvesOf, sizes01]) (mem01 (List.mem_filter.mp hs).1)).2
      have hh := half_ok hr a _ (List.mem_of_getElem? hm)
      exact fast_tree f _ _ hh.1 (Nat.le_trans hh.2 hl) (hp.next a) (h2.2 size hs)
theorem rows_tab : ∀ kinds : Fin 32, rowsX (kinds.val : Nat) = rowsT.getD kinds.val [] := by decide +kernel
set_option maxHeartbeats 4000000 in
theorem lawT : ∀ kinds : Fin 32, checkFast 3 (rowsT.getD kinds.val []) [0, 1, 2, 3] = true := by decide +kernel
theorem lawB {rows : List (List Int)} (kinds : Fin 32) (e : rows = rowsX (kinds.val : Nat)) (hr : ∀ r ∈ rows, Row4 r) (hl : rows.length ≤ 16) : checkTree 3 rows [0, 1, 2, 3] = true :=
  fast_tree 3 _ _ hr hl ⟨by decide, by decide⟩ (by rw [e, rows_tab]; exact lawT kinds)
end Mine
end
/-! ### Law4 -/
section
open PySem PySem.Calls PyProof.Rows PySem.W
namespace Mine
def dat (ns : List Int) : PyData := .list (ns.map PyData.int)
theorem dat_can : ∀ xss : List (List Int), PyData.canLayAll0 (xss.map dat) = true
  | [] => rfl
  | x :: r => by simp [PyData.canLayAll0, PyData.canLay0, dat, ke_canLayAll0, dat_can r]
theorem dat_depth : ∀ xss : List (List Int), PyData.depthAll (xss.map dat) ≤ 1
  | [] => by simp [PyData.depthAll]
  | x :: r => by
    have := dat_depth r
    simp [PyData.depthAll, PyData.depth, dat, ke_depthAll]
    omega
theorem dat_shaped (xss : List (List Int)) : SeqAt.shaped (.list (xss.map dat)) = true := by
  have := dat_depth xss
  simp [SeqAt.shaped, PyData.canLay0, PyData.depth, dat_can]
  omega
theorem dat_same : ∀ xss : List (List Int), PyData.eqvAll (xss.map dat) (xss.map dat) = true
  | [] => by simp [PyData.eqvAll]
  | x :: r => by simp [PyData.eqvAll, PyData.eqv, dat, ked_eqvAll, dat_same r]
section
variable {prog : Program} {w : World} {A : Around} {env : Env} {g : G} {s : Shared}
theorem reads_ints {ns : List Int} : ∀ {vs : List Value}, Paired (fun n v => (I n).p g v) ns vs → ∃ as, ReadsAll s.heap vs (ns.map PyData.int) as
  | _, .nil => ⟨_, .nil⟩
  | _, .cons ⟨t, e⟩ r => by
    obtain ⟨as, h⟩ := reads_ints r
    rw [e]
    exact ⟨_, .cons (.int _ t) h⟩
theorem reads_rows (hg : Sub g s) {xss : List (List Int)} : ∀ {vs : List Value}, Paired (fun r v => (Ls I r).p g v) xss vs → ∃ as, ReadsAll s.heap vs (xss.map dat) as
  | _, .nil => ⟨_, .nil⟩
  | _, .cons ⟨a, us, n, e, ha, hp⟩ r => by
    obtain ⟨as, h⟩ := reads_rows hg r
    obtain ⟨bs, hb⟩ := reads_ints (s := s) hp
    rw [e]
    exact ⟨_, .cons (.list (hg _ _ ha) rfl rfl hb) h⟩
theorem op_neLL {xss : List (List Int)} {a b : Value} (hu : A.units + 64 < cLine) (hg : Sub g s) (ha : (Ls (Ls I) xss).p g a) (hb : (Ls (Ls I) xss).p g b) : Op prog w A (compareOp .NotEq a b) g s (Bo false) := by
  obtain ⟨l, us, n, rfl, hl, hp⟩ := ha
  obtain ⟨l', us', n', rfl, hl', hp'⟩ := hb
  obtain ⟨as, ra⟩ := reads_rows hg hp
  obtain ⟨bs, rb⟩ := reads_rows hg hp'
  refine ne_dataH (Reads.list (hg _ _ hl) rfl rfl ra) (Reads.list (hg _ _ hl') rfl rfl rb) (dat_shaped xss) (dat_shaped xss) hu ⟨g, Ext.refl hg, ?_⟩
  show Value.bool (!PyData.eqvAll (xss.map dat) (xss.map dat)) = .bool false
  rw [dat_same]
  rfl
theorem Ev.and2 {l r : Expr} {pos : Pos} {b : Bool} (h1 : Ev prog w A env g s l (Bo true)) (h2 : Ev prog w A env g s r (Bo b)) : Ev prog w A env g s (.BoolOp .And [l, r] pos) (Bo b) :=
  fun g₁ s₁ x => BoolOp_and (wpAny_mono (h1 g₁ s₁ x) (fun v s₂ ⟨g₂, y, hv⟩ => by
    have hv' : v = .bool true := hv
    subst hv'
    exact wpAny_truthy_bool (BoolOp_one (wpAny_mono (h2 g₂ s₂ (x.tr y)) (fun v s₃ ⟨g₃, z, q⟩ => ⟨g₃, y.tr z, q⟩) fun _ _ f => f))) fun _ _ f => f)
end
theorem last_item {xs : List UInt8} {c : UInt8} (h : xs.getLast? = some c) : (seqIndex? (-1) xs.toArray.size).bind (xs.toArray[·]?) = some c := by
  have hl : 0 < xs.length := by
    cases xs with
    | nil => cases h
    | cons a r => simp
  unfold seqIndex?
  have e : (if (-1 : Int) < 0 then (-1 : Int) + (xs.toArray.size : Nat) else -1) = ((xs.length - 1 : Nat) : Int) := by
    rw [if_pos (by decide), List.size_toArray]; omega
  rw [e]
  dsimp only
  rw [if_pos (by rw [List.size_toArray]; simp; omega)]
  show xs.toArray[(((xs.length - 1 : Nat) : Int)).toNat]? = some c
  rw [Int.toNat_natCast, List.getElem?_toArray, ← List.getLast?_eq_getElem?]
  exact h
end Mine
end
/-! ### Law5 -/
section
open PySem PySem.Calls PyProof.Rows PySem.W
namespace Mine
structure LawOk (kinds : Nat) : Prop where
  short : ∀ wd ∈ toldOf kinds, wd.length ≤ 100
  rows4 : ∀ r ∈ rowsOf kinds, Row4 r
  len : (rowsOf kinds).length ≤ 16
  tlen : (toldOf kinds).length ≤ 16
  ord : ∃ yss, ordered (rowsOf kinds) = some yss ∧ ordered (plainRows kinds 16) = some yss
  first : ∃ wd, (toldOf kinds)[0]? = some wd ∧ Txt.lower wd = abcd
  last : ∃ c, (ap (weight (rowsOf kinds) [0, 1, 2, 3]).toNat).getLast? = some c ∧ c.toNat % 2 = 0
theorem rowsB_ok {rows : List (List Int)} (h : rowsB rows = true) : ∀ r ∈ rows, Row4 r := by
  intro r hr
  unfold rowsB at h
  have h1 := List.all_eq_true.mp h r hr
  rw [Bool.and_eq_true, decide_eq_true_eq, List.all_eq_true] at h1
  refine ⟨h1.1, fun x hx => ?_⟩
  have h2 := h1.2 x hx
  rw [Bool.or_eq_true, beq_iff_eq, beq_iff_eq] at h2
  exact h2
theorem law_ok {kinds : Nat} (hk : kinds < 32) : LawOk kinds := by
  have h := lawA ⟨kinds, hk⟩
  have hr := rows_eq ⟨kinds, hk⟩
  have ht := told_short ⟨kinds, hk⟩
  have hf := told_first ⟨kinds, hk⟩
  dsimp only at h hr ht hf
  unfold checkA at h
  rw [← hr] at h
  simp only [Bool.and_eq_true, decide_eq_true_eq] at h
  obtain ⟨⟨⟨⟨h2, h3⟩, h5⟩, h6⟩, h8⟩ := h
  refine ⟨ht, rowsB_ok h2, h3, ?_, ?_, hf, ?_⟩
  · have : (rowsOf kinds).length = (toldOf kinds).length := by unfold rowsOf; rw [List.length_map]
    omega
  · cases q : ordered (rowsOf kinds) with
    | none => rw [q] at h6; cases h6
    | some yss =>
      rw [q] at h5
      exact ⟨yss, rfl, (eq_of_beq h5).symm⟩
  · unfold lastEven at h8
    split at h8
    · rename_i c hc
      exact ⟨c, hc, eq_of_beq h8⟩
    · cases h8
theorem drawn_at (script : List Int) {i : Int} (h0 : 0 ≤ i) (h3 : i < 3) : (drawn script)[i.toNat]? = some ((drawn script).getD i.toNat 0) := by
  have hl : (drawn script).length = 3 := by simp [drawn, starts]
  have : i.toNat < (drawn script).length := by omega
  rw [List.getD_eq_getElem?_getD, List.getElem?_eq_getElem this]; rfl
theorem fmod_nat {x m : Int} (hm : 0 < m) : ((x.fmod m).toNat : Int) = x.fmod m ∧ (x.fmod m).toNat < m.toNat := by
  have e := Int.fmod_eq_emod_of_nonneg x (show (0 : Int) ≤ m by omega)
  have h1 : 0 ≤ x.fmod m := by rw [e]; exact Int.emod_nonneg _ (by omega)
  have h2 : x.fmod m < m := by rw [e]; exact Int.emod_lt_of_pos _ hm
  omega
theorem places4 : Places [0, 1, 2, 3] := ⟨by decide, by decide⟩
theorem even_fmod {c : UInt8} (h : c.toNat % 2 = 0) : (((c.toNat : Int).fmod 2) == 0) = true := by
  rw [Int.fmod_eq_emod_of_nonneg _ (by decide)]
  have : ((c.toNat : Int)) % 2 = 0 := by omega
  rw [this]; rfl
section
variable {prog : Program} {w : World}
set_option maxHeartbeats 4000000 in
theorem fn_law {script : List Int} (hl : script.length ≤ 63) : Fn prog w (Base w) 26 257 [Ls I script] (Bo true) := by
  have hfd : fnAt (KK w.params) 257 = some _ := rfl
  refine Fn.k (n := 25) (binds := fun vs => [(Str.ofString "script", vs[0]!)]) hfd rfl rfl ?_ ?_ ?_
  · intro g vs h
    obtain ⟨v, rfl, _⟩ := paired1 h
    rfl
  · intro g vs L h x hx
    rcases List.mem_singleton.mp hx with rfl
    exact .inl rfl
  · intro A g s vs L s₁ hA B B₁ h F
    obtain ⟨v, rfl, p⟩ := paired1 h
    have hu := hA.units
    have hdl : (drawn script).length < 2 ^ 62 := by simp [drawn, starts]
    obtain ⟨hkn, hk32⟩ := fmod_nat (x := (drawn script).getD (0 : Int).toNat 0) (m := 32) (by decide)
    generalize hkd : ((drawn script).getD (0 : Int).toNat 0).fmod 32 = kd at hkn hk32
    generalize hkk : kd.toNat = kinds at hkn hk32
    have ok := law_ok (kinds := kinds) hk32
    have hgame := tree_game 3 0 (rowsOf kinds) (((drawn script).getD (1 : Int).toNat 0).fmod 24) [0, 1, 2, 3] (((drawn script).getD (2 : Int).toNat 0).fmod 8) (lawB ⟨kinds, hk32⟩ (rows_eq ⟨kinds, hk32⟩) ok.rows4 ok.len)
    -- draws
    refine xs_assign F (Ev.fn B₁ (hA.less (by omega)) (fn_drawn hl) (EvL.cons (Ev.nLocal F.ns rfl p) EvL.nil)) fun vd g₁ s₂ F₁ le₁ hd => ?_
    have B₂ := F₁.base B
    -- told
    refine xs_assign (P := Ls T (toldOf kinds)) F₁ (Ev.fn B₂ (hA.less (by omega)) (fn_yes (kinds := kinds) hk32) (EvL.cons (Ev.weak (Ev.bin (Ev.sub (Ev.nLocal F₁.ns upd_eq hd) Ev.cInt (fun g s a b hg pa pb => list_tail pa hg (op_item (by decide) (drawn_at script (by decide) (by decide)) hdl hg pa pb) rfl)) Ev.cInt fun g s a b => op_mod (by decide)) fun g v q => by
      rw [hkd, ← hkn] at q; exact q) EvL.nil)) fun vt g₂ s₃ F₂ le₂ ht => ?_
    have B₃ := F₂.base B
    -- rows
    refine xs_assignComp (P := Ls (Ls I) (rowsOf kinds)) F₂ (EvC.weak (EvC.comp0 (xs := toldOf kinds) (It := T) (R := fun wd => Ls I (sizes wd)) (Ev.iter (Ev.nLocal F₂.ns upd_eq ht) fun g s v hg hp => Itb.list hA.handled hg hp)
      (fun C m' vk wd g' s' hk x hn hmk hvk => Ev.fn (B₃.ext x) (hA.less (by omega)) (fn_sizes (ok.short _ hk)) (EvL.cons (Ev.nLocal hn hmk hvk) EvL.nil)) (Nat.le_trans ok.tlen (by decide))) fun g v q => Ls.map.mp q) fun vr g₃ s₄ F₃ le₃ hr => ?_
    have B₄ := F₃.base B
    have hw := weight_ok ok.rows4 places4
    have hlen := ok.len
    -- whole
    refine xs_assign (P := By (ap (weight (rowsOf kinds) [0, 1, 2, 3]).toNat).toArray) F₃ (Ev.fn B₄ (hA.less (by omega)) (fn_ap (n := (weight (rowsOf kinds) [0, 1, 2, 3]).toNat) (by omega)) (EvL.cons (Ev.weak (Ev.fn B₄ (hA.less (by omega)) (fn_weight ok.rows4 places4 ok.len)
      (EvL.cons (Ev.nLocal F₃.ns upd_eq hr) (EvL.cons (Ev.lst (xs := ([0, 1, 2, 3] : List Int)) (R := I) (EvL.cons Ev.cInt (EvL.cons Ev.cInt (EvL.cons Ev.cInt (EvL.cons Ev.cInt EvL.nil)))) (by decide)) EvL.nil))) fun g v q => by rw [Int.toNat_of_nonneg hw.1]; exact q) EvL.nil)) fun vw g₄ s₅ F₄ le₄ hwh => ?_
    have B₅ := F₄.base B
    have up13 : GLe g₁ g₃ := fun b o e => le₃ b o (le₂ b o e)
    have up14 : GLe g₁ g₄ := fun b o e => le₄ b o (up13 b o e)
    -- left
    refine xs_assign (P := Ls (Ls I) (game (rowsOf kinds) (((drawn script).getD (1 : Int).toNat 0).fmod 24) (((drawn script).getD (2 : Int).toNat 0).fmod 8))) F₄ (Ev.fn B₅ (hA.less (by omega)) (fn_game ok.rows4 ok.len)
      (EvL.cons (Ev.nLocal F₄.ns ((upd_ne (by decide)).trans upd_eq) ((Ls (Ls I) (rowsOf kinds)).up le₄ hr)) (EvL.cons
        (Ev.bin (Ev.sub (Ev.nLocal F₄.ns ((upd_ne (by decide)).trans ((upd_ne (by decide)).trans ((upd_ne (by decide)).trans upd_eq))) ((Ls I (drawn script)).up up14 hd)) Ev.cInt (fun g s a b hg pa pb => list_tail pa hg (op_item (by decide) (drawn_at script (by decide) (by decide)) hdl hg pa pb) rfl)) Ev.cInt fun g s a b => op_mod (by decide)) (EvL.cons
        (Ev.bin (Ev.sub (Ev.nLocal F₄.ns ((upd_ne (by decide)).trans ((upd_ne (by decide)).trans ((upd_ne (by decide)).trans upd_eq))) ((Ls I (drawn script)).up up14 hd)) Ev.cInt (fun g s a b hg pa pb => list_tail pa hg (op_item (by decide) (drawn_at script (by decide) (by decide)) hdl hg pa pb) rfl)) Ev.cInt fun g s a b => op_mod (by decide)) EvL.nil)))) fun vl g₅ s₆ F₅ le₅ hlf => ?_
    have B₆ := F₅.base B
    have up35 : GLe g₃ g₅ := fun b o e => le₅ b o (le₄ b o e)
    have up25 : GLe g₂ g₅ := fun b o e => up35 b o (le₃ b o e)
    have up15 : GLe g₁ g₅ := fun b o e => up25 b o (le₂ b o e)
    obtain ⟨yss, ho1, ho2⟩ := ok.ord
    obtain ⟨wd, hw1, hw2⟩ := ok.first
    obtain ⟨c, hc1, hc2⟩ := ok.last
    have htl := ok.tlen
    have hws : wd.length ≤ 1000000 := Nat.le_trans (ok.short wd (List.mem_of_getElem? hw1)) (by decide)
    -- the test
    refine xs_if (t := false || false) F₅ (EvT.or2
      (EvT.cmp (P₁ := Ls (Ls I) yss) (P₂ := Ls (Ls I) yss) (Ev.bui B₆ (EvL.cons (Ev.nLocal F₅.ns ((upd_ne (by decide)).trans ((upd_ne (by decide)).trans upd_eq)) ((Ls (Ls I) (rowsOf kinds)).up up35 hr)) EvL.nil) (fun g' s' vs x hp => ?_) rfl)
        (Ev.fn B₆ (hA.less (by omega)) (fn_plain (kinds := kinds) ho2) (EvL.cons (Ev.weak (Ev.bin (Ev.sub (Ev.nLocal F₅.ns ((upd_ne (by decide)).trans ((upd_ne (by decide)).trans ((upd_ne (by decide)).trans ((upd_ne (by decide)).trans upd_eq)))) ((Ls I (drawn script)).up up15 hd)) Ev.cInt (fun g s a b hg pa pb => list_tail pa hg (op_item (by decide) (drawn_at script (by decide) (by decide)) hdl hg pa pb) rfl)) Ev.cInt fun g s a b => op_mod (by decide)) fun g v q => by
          rw [hkd, ← hkn] at q; exact q) EvL.nil)) fun g s a b => op_neLL (by omega))
      (fun _ => EvT.cmp (P₁ := T abcd) (P₂ := T abcd) (Ev.weak (Ev.lower (Ev.sub (Ev.nLocal F₅.ns ((upd_ne (by decide)).trans ((upd_ne (by decide)).trans ((upd_ne (by decide)).trans upd_eq))) ((Ls T (toldOf kinds)).up up25 ht)) Ev.cInt (fun g s a b hg pa pb => list_tail pa hg (op_item (by decide) (c := wd) hw1 (by omega) hg pa pb) rfl)) hws) fun g v q => by rw [hw2] at q; exact q)
        Ev.cStr fun g s a b => op_neT))
      (fun e => by cases e) (fun _ g₆ s₇ F₆ le₆ => xs_nil ?_)
    · obtain ⟨v, rfl, q⟩ := paired1 hp
      exact op_sorted ho1 (fun x hx => (ok.rows4 x hx).len) (by omega) (by omega) x.sub q
    · have B₇ := F₆.base B
      refine xs_ret (P := Bo true) F₆ (Ev.and2
        (Ev.cmp (P₁ := I ((c.toNat : Int).fmod 2)) (P₂ := I 0) (Ev.bin (Ev.sub (Ev.nLocal F₆.ns ((upd_ne (by decide)).trans upd_eq) ((By _).up (fun b o e => le₆ b o (le₅ b o e)) hwh)) (Ev.neg Ev.cInt) (fun g s a b hg pa pb => bytes_tail pa (bytes_item (by decide) (by decide) (last_item hc1) hg pa pb) rfl)) Ev.cInt fun g s a b => op_mod (by decide))
          Ev.cInt fun g s a b hg pa pb => ?_)
        (Ev.cmp (P₁ := I 1) (P₂ := I 1) (Ev.bui B₇ (EvL.cons (Ev.nLocal F₆.ns upd_eq ((Ls (Ls I) _).up le₆ hlf)) EvL.nil) (fun g' s' vs x hp => ?_) rfl) Ev.cInt fun g s a b => op_eq)) fun v g' s' x q => ⟨v, g', rfl, x, q⟩
      · have := op_eq (prog := prog) (w := w) (A := A) hg pa pb
        rwa [even_fmod hc2] at this
      · obtain ⟨v, rfl, q⟩ := paired1 hp
        have := op_len (prog := prog) (w := w) (A := A) (by rw [show game _ _ _ = gameFrom 3 0 _ _ _ _ from rfl, hgame]; decide) x.sub q
        rwa [show game _ _ _ = gameFrom 3 0 _ _ _ _ from rfl, hgame] at this
end
end Mine
end
/-! ### Law6 -/
open PySem PySem.Calls PyProof.Rows PySem.W
namespace Mine
theorem paired_ints {g : G} {ns : List Int} {vs : List Value} (h : IntsAre vs ns) : Paired (fun n v => (I n).p g v) ns vs := by
  induction h with
  | nil => exact .nil
  | cons n t _ ih => exact .cons ⟨t, rfl⟩ ih
theorem law_addr {P : Params} {h : Heap} {mg : Str → Option Value} {a : Addr} (X : (KK P).In h) (g : h.Ns mainGlobals mg) (e : mg (Str.ofString "law") = some (.ref a)) : a = 257 := by
  have q : mg (Str.ofString "law") = some (.ref 257) := mg_of X g rfl
  rw [e] at q
  injection q with q
  injection q
end Mine
set_option maxHeartbeats 4000000 in
theorem PySem.Challenge.cw_wj0038_01_holds : PySem.Challenge.rw_wj0038_01.Holds := by
  refine Mine.hd ?_
  intro w s₀ s₁ mg mb G Y fa o pm cd doc dV kV ho hdd hcd hD hmg hg args vals as hpre hlay hrd hwl hlo
  have KX := kIn_of Y
  have TT := G.T
  have e := Mine.law_addr KX TT.g hmg
  clear hdd hcd hD ho hmg
  subst e
  wrow_args hpre hlay hrd hwl hlo
  rename_i ns hs hlay0 hL1 hr1 hl2 as4 as3 a vs as0 hL ra w1 r0 hI hr hc hc0
  have hl : ns.length ≤ 63 := by omega
  have hobj : s₁.heap.get? a = some (Mine.lstObj vs 0) := by
    have w2 : Well w.params s₁.heap (.ref a) (.list (ofPys (ns.map PyData.int))) := w1
    cases w2 with
    | list ha _ =>
      obtain ⟨o', ho', _, n', hn'⟩ := hL
      rw [ha] at ho'
      cases ho'
      injection hn' with e1 e2
      rw [ha, e1]
      rfl
  have hsub : Mine.Sub (Mine.G.put (fun _ => none) a (Mine.lstObj vs 0)) s₁ := by
    intro b o' e
    unfold Mine.G.put at e
    split at e
    · rename_i hb
      subst hb
      cases e
      exact hobj
    · cases e
  have hroom : Mine.Room callerA 26 := ⟨rfl, by decide +kernel, by decide +kernel⟩
  have hbase : Mine.Base w s₁.heap := ⟨KX, _, _, _, TT⟩
  refine wpAny_mono (Mine.fn_law hl callerA _ s₁ [.ref a] hroom hbase hsub (.cons ⟨a, vs, 0, rfl, Mine.G.put_self _ _ _, Mine.paired_ints hI⟩ .nil)) (fun v s' h => ?_) fun _ _ f => f.elim
  obtain ⟨g', x, hv⟩ := h
  have hv' : v = .bool true := hv
  subst hv'
  obtain ⟨h', t', rfl, k⟩ := x.keeps
  exact ⟨.inl ⟨.bool true, .bool true, [], rfl, fun _ => rfl, .bool true, postW_of rfl rfl (by first | decide +kernel | simp [same]), unshared_nil⟩, OldK.of_keep k, rfl, AllBare.of_eq hg⟩
