import PyProof.Rows.All
import Wide.All
import OpenK.AllK
import Wide.FinOn
import Lean
import PySem.Challenge.RW_dm0136_02
set_option Elab.async false
set_option maxHeartbeats 8000000

/-! part F1 -/
set_option autoImplicit false
set_option maxRecDepth 100000
open PySem PySem.W PyProof.Rows
namespace Mine

/-- plain values: what a program's value is, without tokens and addresses; a list is a place in the store -/
inductive V where
  | none
  | bool (b : Bool)
  | int (i : Int)
  | str (x : Str)
  | tup (vs : List V)
  | obj (l : Nat)
  | fn (x : String)
  | rng (a b c : Int)
  deriving Inhabited

inductive Cel where
  | lst (vs : List V)
  deriving Inhabited

abbrev Store := List Cel

structure Exc where
  cls : String
  msg : Str

/-- the state that a frame's code sees: the store and the frame's names -/
structure S where
  st : Store
  lo : String → Option V

inductive Res (σ α : Type) where
  | ok (a : α) (s : σ)
  | exc (e : Exc) (s : σ)
  | stuck

abbrev M (α : Type) := S → Res S α

namespace M
variable {α β : Type}
@[simp] def pure (a : α) : M α := fun σ => .ok a σ
@[simp] def bind (m : M α) (f : α → M β) : M β := fun σ => match m σ with
  | .ok a σ' => f a σ'
  | .exc e σ' => .exc e σ'
  | .stuck => .stuck
instance : Monad M where
  pure := M.pure
  bind := M.bind
theorem bind_def (m : M α) (f : α → M β) (σ : S) : (m >>= f) σ = (match m σ with
  | .ok a σ' => f a σ'
  | .exc e σ' => .exc e σ'
  | .stuck => .stuck) := rfl
theorem bind_ok {m : M α} {f : α → M β} {σ σ' : S} {a : α} (h : m σ = .ok a σ') : (m >>= f) σ = f a σ' := by rw [bind_def, h]
end M
def stuck {α : Type} : M α := fun _ => .stuck

/-- what stands around all frames -/
structure Glo where
  prog : Program
  w : World
  p : Program
  loose : List Str
  mean : ExcName → Option Value
  mg : Str → Option Value
  mb : Str → Option Value
  base : Heap
  os : OsState
  top : Top p loose mean mg mb base

mutual
def Rep (K : Glo) (h : Heap) (ρ : List Addr) : V → Value → Prop
  | .none, w => w = .none
  | .bool b, w => w = .bool b
  | .int i, w => ∃ t, w = .int i t
  | .str x, w => ∃ t, w = .str x t
  | .tup vs, w => vs.length ≤ 1000000 ∧ ∃ a ws, w = .ref a ∧ IsTup h a ws.toArray ∧ RepL K h ρ vs ws
  | .obj l, w => ∃ a, ρ[l]? = some a ∧ w = .ref a
  | .fn x, w => K.mg (Str.ofString x) = some w ∧ ∃ a, w = .ref a
  | .rng a b c, w => ∃ r t u v, w = .ref r ∧ IsRange h r a b c t u v
def RepL (K : Glo) (h : Heap) (ρ : List Addr) : List V → List Value → Prop
  | [], ws => ws = []
  | v :: vs, ws => ∃ x r, ws = x :: r ∧ Rep K h ρ v x ∧ RepL K h ρ vs r
end

def CelRep (K : Glo) (h : Heap) (ρ : List Addr) : Cel → Addr → Prop
  | .lst vs, a => vs.length ≤ 1000000 ∧ ∃ ws n, IsL h a ws.toArray n ∧ RepL K h ρ vs ws

structure GRel (K : Glo) (st : Store) (ρ : List Addr) (s : Shared) : Prop where
  gens : s.gens = #[]
  os : s.os = K.os
  base : ∀ b o, K.base.get? b = some o → s.heap.get? b = some o
  len : ρ.length = st.length
  cell : ∀ (l : Nat) (a : Addr) (c : Cel), ρ[l]? = some a → st[l]? = some c → CelRep K s.heap ρ c a
  nodup : ρ.Nodup
  above : ∀ (l : Nat) (a : Addr), ρ[l]? = some a → l ≠ 0 → K.base.get? a = none

/-- what a frame's object may become: a namespace (a frame) may get slots, nothing else turns -/
def Like (o o' : Obj) : Prop := o' = o ∨ (∃ es n, o.data = .dict es n) ∧ ∃ sl, o' = { o with slots := sl }
theorem Like.refl (o : Obj) : Like o o := .inl rfl
theorem Like.trans {o o₁ o₂ : Obj} (x : Like o o₁) (y : Like o₁ o₂) : Like o o₂ := by
  rcases x with rfl | ⟨d, sl, rfl⟩
  · exact y
  · rcases y with rfl | ⟨_, sl', rfl⟩
    · exact .inr ⟨d, sl, rfl⟩
    · exact .inr ⟨d, sl', rfl⟩
theorem Like.same {o o' : Obj} (x : Like o o') (hd : ∀ es n, o.data ≠ .dict es n) : o' = o := by
  rcases x with rfl | ⟨⟨es, n, d⟩, _⟩
  · rfl
  · exact absurd d (hd es n)
theorem Like.data {o o' : Obj} (x : Like o o') : o'.data = o.data ∧ o'.cls = o.cls ∧ o'.dict = o.dict := by
  rcases x with rfl | ⟨_, sl, rfl⟩ <;> exact ⟨rfl, rfl, rfl⟩
def Froz (o : Obj) : Prop := (o.cls = .type "tuple" ∧ ∃ xs n, o.data = .seq xs n) ∨ (o.cls = .type "range" ∧ ∃ vs, o.data = .fields vs)

structure Ext (mine ρ ρ' : List Addr) (h h' : Heap) : Prop where
  pre : ρ <+: ρ'
  alive : ∀ b o, h.get? b = some o → ∃ o', h'.get? b = some o'
  new : ∀ a ∈ ρ', a ∈ ρ ∨ h.get? a = none
  keep : ∀ b o, h.get? b = some o → b ∉ ρ → b ∉ mine → ∃ o', h'.get? b = some o' ∧ Like o o'
  froz : ∀ b o, h.get? b = some o → Froz o → h'.get? b = some o

structure Frm where
  env : Env
  A : Around
  mine : List Addr

def VarAt (env : Env) (h : Heap) (x : Str) (w : Value) : Prop :=
  (env.kindOf x = some .local ∧ ∃ m, h.Ns env.locals m ∧ m x = some w) ∨
  ((env.kindOf x = some .cell ∨ env.kindOf x = some .free) ∧ ∃ c, env.cells.lookup x = some c ∧ h.IsCell c (some w))

structure Rel (K : Glo) (F : Frm) (σ : S) (ρ : List Addr) (s : Shared) : Prop extends GRel K σ.st ρ s where
  vars : ∀ x v, σ.lo x = some v → ∃ w, VarAt F.env s.heap (Str.ofString x) w ∧ Rep K s.heap ρ v w
  loc : ∃ m, s.heap.Ns F.env.locals m
  cels : ∀ x c, F.env.cells.lookup x = some c → ∃ v, s.heap.IsCell c v
  mineAbove : ∀ a ∈ F.mine, K.base.get? a = none ∧ ∃ o, s.heap.get? a = some o
  mineApart : ∀ a ∈ F.mine, a ∉ ρ
  mineLoc : F.env.locals ∈ F.mine

/-- an exception on its way, seen from frame F -/
def XRep (_K : Glo) (_F : Frm) (_e : Exc) (_ρ : List Addr) (_v : Value) (_s : Shared) : Prop := False

/-- from s, t does what the outcome tells -/
def Run {α β : Type} (K : Glo) (F : Frm) (t : Sem α) (R : Heap → List Addr → β → α → Prop) (out : Res S β) (ρ : List Addr) (s : Shared) : Prop :=
  match out with
  | .stuck => True
  | .ok b σ' => wpAny (model K.prog K.w) F.A t (fun a s' => ∃ ρ', Rel K F σ' ρ' s' ∧ Ext F.mine ρ ρ' s.heap s'.heap ∧ R s'.heap ρ' b a) (fun _ _ => False) s
  | .exc e σ' => wpAny (model K.prog K.w) F.A t (fun _ _ => False) (fun v s' => ∃ ρ', Rel K F σ' ρ' s' ∧ Ext F.mine ρ ρ' s.heap s'.heap ∧ XRep K F e ρ' v s') s

/-! ### Rep and Ext -/

theorem Ext.refl (mine ρ : List Addr) (h : Heap) : Ext mine ρ ρ h h :=
  ⟨List.prefix_refl _, fun _ o e => ⟨o, e⟩, fun _ ha => .inl ha, fun _ o e _ _ => ⟨o, e, .refl _⟩, fun _ _ e _ => e⟩

theorem Ext.trans {mine ρ ρ₁ ρ₂ : List Addr} {h h₁ h₂ : Heap} (x : Ext mine ρ ρ₁ h h₁) (y : Ext mine ρ₁ ρ₂ h₁ h₂) : Ext mine ρ ρ₂ h h₂ where
  pre := x.pre.trans y.pre
  alive := fun b o e => by
    obtain ⟨o1, e1⟩ := x.alive b o e
    exact y.alive b o1 e1
  new := fun a ha => by
    rcases y.new a ha with h1 | h1
    · exact x.new a h1
    · refine .inr ?_
      cases e : h.get? a with
      | none => rfl
      | some o =>
        obtain ⟨o1, e1⟩ := x.alive a o e
        rw [h1] at e1; cases e1
  keep := fun b o e n1 n2 => by
    obtain ⟨o1, e1, l1⟩ := x.keep b o e n1 n2
    have hn : b ∉ ρ₁ := fun hb => by
      rcases x.new b hb with h1 | h1
      · exact n1 h1
      · rw [e] at h1; cases h1
    obtain ⟨o2, e2, l2⟩ := y.keep b _ e1 hn n2
    exact ⟨o2, e2, l1.trans l2⟩
  froz := fun b o e f => y.froz b o (x.froz b o e f) f

theorem getElem?_prefix {α : Type} {l l' : List α} {i : Nat} {a : α} (h : l <+: l') (e : l[i]? = some a) : l'[i]? = some a := by
  obtain ⟨t, rfl⟩ := h
  rw [List.getElem?_append_left]
  · exact e
  · exact (List.getElem?_eq_some_iff.mp e).1

mutual
theorem Rep.mono' {K : Glo} {ρ ρ' : List Addr} {h h' : Heap} (hp : ρ <+: ρ') (ht : ∀ b o, h.get? b = some o → Froz o → h'.get? b = some o) : ∀ {v : V} {w : Value}, Rep K h ρ v w → Rep K h' ρ' v w
  | .none, _, r => by simpa only [Rep] using r
  | .bool _, _, r => by simpa only [Rep] using r
  | .int _, _, r => by simpa only [Rep] using r
  | .str _, _, r => by simpa only [Rep] using r
  | .tup vs, w, r => by
    simp only [Rep] at r ⊢
    obtain ⟨hl, a, ws, e, t, r⟩ := r
    obtain ⟨o, e1, c, n, d⟩ := t
    exact ⟨hl, a, ws, e, ⟨o, ht _ _ e1 (.inl ⟨c, _, n, d⟩), c, n, d⟩, RepL.mono' hp ht r⟩
  | .obj l, w, r => by
    simp only [Rep] at r ⊢
    obtain ⟨a, e, e2⟩ := r
    exact ⟨a, getElem?_prefix hp e, e2⟩
  | .fn _, _, r => by simpa only [Rep] using r
  | .rng _ _ _, _, r => by
    simp only [Rep] at r ⊢
    obtain ⟨a, t, u, v, e, i⟩ := r
    exact ⟨a, t, u, v, e, ht _ _ i (.inr ⟨rfl, _, rfl⟩)⟩
theorem RepL.mono' {K : Glo} {ρ ρ' : List Addr} {h h' : Heap} (hp : ρ <+: ρ') (ht : ∀ b o, h.get? b = some o → Froz o → h'.get? b = some o) : ∀ {vs : List V} {ws : List Value}, RepL K h ρ vs ws → RepL K h' ρ' vs ws
  | [], _, r => by simpa only [RepL] using r
  | v :: vs, ws, r => by
    simp only [RepL] at r ⊢
    obtain ⟨x, r', e, r1, r2⟩ := r
    exact ⟨x, r', e, Rep.mono' hp ht r1, RepL.mono' hp ht r2⟩
end
theorem Rep.mono {K : Glo} {mine ρ ρ' : List Addr} {h h' : Heap} {v : V} {w : Value} (r : Rep K h ρ v w) (x : Ext mine ρ ρ' h h') : Rep K h' ρ' v w := Rep.mono' x.pre x.froz r
theorem RepL.mono {K : Glo} {mine ρ ρ' : List Addr} {h h' : Heap} {vs : List V} {ws : List Value} (r : RepL K h ρ vs ws) (x : Ext mine ρ ρ' h h') : RepL K h' ρ' vs ws := RepL.mono' x.pre x.froz r

section
variable {K : Glo} {h : Heap} {ρ : List Addr}
theorem Rep.none_iff {w : Value} : Rep K h ρ .none w ↔ w = .none := by simp only [Rep]
theorem Rep.bool_iff {b : Bool} {w : Value} : Rep K h ρ (.bool b) w ↔ w = .bool b := by simp only [Rep]
theorem Rep.int_iff {i : Int} {w : Value} : Rep K h ρ (.int i) w ↔ ∃ t, w = .int i t := by simp only [Rep]
theorem Rep.str_iff {x : Str} {w : Value} : Rep K h ρ (.str x) w ↔ ∃ t, w = .str x t := by simp only [Rep]
theorem Rep.tup_iff {vs : List V} {w : Value} : Rep K h ρ (.tup vs) w ↔ vs.length ≤ 1000000 ∧ ∃ a ws, w = .ref a ∧ IsTup h a ws.toArray ∧ RepL K h ρ vs ws := by simp only [Rep]
theorem Rep.obj_iff {l : Nat} {w : Value} : Rep K h ρ (.obj l) w ↔ ∃ a, ρ[l]? = some a ∧ w = .ref a := by simp only [Rep]
theorem Rep.rng_iff {a b c : Int} {w : Value} : Rep K h ρ (.rng a b c) w ↔ ∃ r t u v, w = .ref r ∧ IsRange h r a b c t u v := by simp only [Rep]
theorem Rep.int (i : Int) (t : Tok) : Rep K h ρ (.int i) (.int i t) := Rep.int_iff.mpr ⟨t, rfl⟩
theorem Rep.str (x : Str) (t : Tok) : Rep K h ρ (.str x) (.str x t) := Rep.str_iff.mpr ⟨t, rfl⟩
theorem Rep.bool (b : Bool) : Rep K h ρ (.bool b) (.bool b) := Rep.bool_iff.mpr rfl
theorem Rep.none : Rep K h ρ .none .none := Rep.none_iff.mpr rfl
theorem RepL.nil_iff {ws : List Value} : RepL K h ρ [] ws ↔ ws = [] := by simp only [RepL]
theorem RepL.cons_iff {v : V} {vs : List V} {ws : List Value} : RepL K h ρ (v :: vs) ws ↔ ∃ x r, ws = x :: r ∧ Rep K h ρ v x ∧ RepL K h ρ vs r := by simp only [RepL]
theorem RepL.nil : RepL K h ρ [] [] := RepL.nil_iff.mpr rfl
theorem RepL.cons {v : V} {vs : List V} {w : Value} {ws : List Value} (r1 : Rep K h ρ v w) (r2 : RepL K h ρ vs ws) : RepL K h ρ (v :: vs) (w :: ws) := RepL.cons_iff.mpr ⟨w, ws, rfl, r1, r2⟩
theorem RepL.length : ∀ {vs : List V} {ws : List Value}, RepL K h ρ vs ws → ws.length = vs.length
  | [], _, r => by rw [RepL.nil_iff.mp r]; rfl
  | v :: vs, ws, r => by
    obtain ⟨x, r', rfl, _, r2⟩ := RepL.cons_iff.mp r
    simp [RepL.length r2]
theorem RepL.append : ∀ {vs us : List V} {ws xs : List Value}, RepL K h ρ vs ws → RepL K h ρ us xs → RepL K h ρ (vs ++ us) (ws ++ xs)
  | [], _, _, _, r, q => by rw [RepL.nil_iff.mp r]; exact q
  | v :: vs, us, ws, xs, r, q => by
    obtain ⟨x, r', rfl, r1, r2⟩ := RepL.cons_iff.mp r
    exact RepL.cons r1 (RepL.append r2 q)
theorem RepL.get? : ∀ {vs : List V} {ws : List Value}, RepL K h ρ vs ws → ∀ {i : Nat} {v : V}, vs[i]? = some v → ∃ w, ws[i]? = some w ∧ Rep K h ρ v w
  | [], _, _, i, v, e => by simp at e
  | u :: vs, ws, r, i, v, e => by
    obtain ⟨x, r', rfl, r1, r2⟩ := RepL.cons_iff.mp r
    cases i with
    | zero => simp only [List.getElem?_cons_zero, Option.some.injEq] at e; subst e; exact ⟨x, by simp, r1⟩
    | succ i => simp only [List.getElem?_cons_succ] at e ⊢; exact RepL.get? r2 e
theorem RepL.getW : ∀ {vs : List V} {ws : List Value}, RepL K h ρ vs ws → ∀ {i : Nat} {w : Value}, ws[i]? = some w → ∃ v, vs[i]? = some v ∧ Rep K h ρ v w
  | [], ws, r, i, w, e => by rw [RepL.nil_iff.mp r] at e; simp at e
  | u :: vs, ws, r, i, w, e => by
    obtain ⟨x, r', rfl, r1, r2⟩ := RepL.cons_iff.mp r
    cases i with
    | zero => simp only [List.getElem?_cons_zero, Option.some.injEq] at e; subst e; exact ⟨u, by simp, r1⟩
    | succ i => simp only [List.getElem?_cons_succ] at e ⊢; exact RepL.getW r2 e
theorem RepL.set : ∀ {vs : List V} {ws : List Value}, RepL K h ρ vs ws → ∀ (i : Nat) {v : V} {w : Value}, Rep K h ρ v w → RepL K h ρ (vs.set i v) (ws.set i w)
  | [], _, r, i, v, w, _ => by rw [RepL.nil_iff.mp r]; exact RepL.nil
  | u :: vs, ws, r, i, v, w, q => by
    obtain ⟨x, r', rfl, r1, r2⟩ := RepL.cons_iff.mp r
    cases i with
    | zero => exact RepL.cons q r2
    | succ i => exact RepL.cons r1 (RepL.set r2 i q)
theorem RepL.take : ∀ {vs : List V} {ws : List Value}, RepL K h ρ vs ws → ∀ (i : Nat), RepL K h ρ (vs.take i) (ws.take i)
  | [], _, r, i => by rw [RepL.nil_iff.mp r]; simp [RepL.nil]
  | u :: vs, ws, r, i => by
    obtain ⟨x, r', rfl, r1, r2⟩ := RepL.cons_iff.mp r
    cases i with
    | zero => exact RepL.nil
    | succ i => exact RepL.cons r1 (RepL.take r2 i)
theorem RepL.eraseIdx : ∀ {vs : List V} {ws : List Value}, RepL K h ρ vs ws → ∀ (i : Nat), RepL K h ρ (vs.eraseIdx i) (ws.eraseIdx i)
  | [], _, r, i => by rw [RepL.nil_iff.mp r]; simp [RepL.nil]
  | u :: vs, ws, r, i => by
    obtain ⟨x, r', rfl, r1, r2⟩ := RepL.cons_iff.mp r
    cases i with
    | zero => exact r2
    | succ i => exact RepL.cons r1 (RepL.eraseIdx r2 i)
end

/-! ### Run -/
section
variable {K : Glo} {F : Frm} {α β γ δ : Type}

theorem Run.stuck {t : Sem α} {R : Heap → List Addr → β → α → Prop} {ρ : List Addr} {s : Shared} : Run K F t R (.stuck : Res S β) ρ s := trivial

theorem Run.pure {a : α} {b : β} {σ : S} {R : Heap → List Addr → β → α → Prop} {ρ : List Addr} {s : Shared} (rel : Rel K F σ ρ s) (r : R s.heap ρ b a) :
    Run K F (Pure.pure a) R (.ok b σ) ρ s := wpAny_pure ⟨ρ, rel, Ext.refl .., r⟩

theorem Run.bind {t : Sem α} {f : α → Sem γ} {R : Heap → List Addr → β → α → Prop} {R' : Heap → List Addr → δ → γ → Prop} {m : M β} {k : β → M δ} {σ : S} {ρ : List Addr} {s : Shared}
    (h1 : Run K F t R (m σ) ρ s)
    (h2 : ∀ b σ' ρ' s' a, m σ = .ok b σ' → Rel K F σ' ρ' s' → Ext F.mine ρ ρ' s.heap s'.heap → R s'.heap ρ' b a → Run K F (f a) R' (k b σ') ρ' s') :
    Run K F (t >>= f) R' ((m >>= k) σ) ρ s := by
  rw [M.bind_def]
  cases e : m σ with
  | stuck => trivial
  | exc x σ' =>
    rw [e] at h1
    exact wpAny_bind (wpAny_mono h1 (fun _ _ h => h.elim) fun _ _ h => h)
  | ok b σ' =>
    rw [e] at h1
    dsimp only
    have key : ∀ {P : Prop} {b' : Res S δ}, k b σ' = b' → P → P := fun _ p => p
    cases e2 : k b σ' with
    | stuck => trivial
    | ok d σ'' =>
      refine wpAny_bind (wpAny_mono h1 (fun a s' h => ?_) fun _ _ h => h.elim)
      obtain ⟨ρ', rel, x, r⟩ := h
      have := h2 b σ' ρ' s' a e rel x r
      rw [e2] at this
      exact wpAny_mono this (fun c s'' h => by obtain ⟨ρ'', rel', x', r'⟩ := h; exact ⟨ρ'', rel', x.trans x', r'⟩) fun _ _ h => h
    | exc y σ'' =>
      refine wpAny_bind (wpAny_mono h1 (fun a s' h => ?_) fun _ _ h => h.elim)
      obtain ⟨ρ', rel, x, r⟩ := h
      have := h2 b σ' ρ' s' a e rel x r
      rw [e2] at this
      exact wpAny_mono this (fun _ _ h => h) fun c s'' h => by obtain ⟨ρ'', rel', x', r'⟩ := h; exact ⟨ρ'', rel', x.trans x', r'⟩

/-- the same with the first part's outcome told by a plain command that leaves the frame's state as it is -/
theorem Run.step {t : Sem α} {f : α → Sem γ} {R' : Heap → List Addr → δ → γ → Prop} {out : Res S δ} {ρ : List Addr} {s : Shared}
    (h : ∀ (Q : α → Shared → Prop) (E : Value → Shared → Prop), (∀ a, Q a s) → wpAny (model K.prog K.w) F.A t Q E s)
    (h2 : ∀ a, Run K F (f a) R' out ρ s) : Run K F (t >>= f) R' out ρ s := by
  cases out with
  | stuck => trivial
  | ok d σ' => exact wpAny_bind (h _ _ fun a => h2 a)
  | exc y σ' => exact wpAny_bind (h _ _ fun a => h2 a)

theorem Run.standAt {p : Pos} {f : Unit → Sem γ} {R' : Heap → List Addr → δ → γ → Prop} {out : Res S δ} {ρ : List Addr} {s : Shared} (h2 : Run K F (f ()) R' out ρ s) :
    Run K F (PySem.standAt p >>= f) R' out ρ s := Run.step (fun _ _ h => wpAny_standAt (h ())) fun _ => h2

theorem Run.holding {vs : List Value} {t : Sem α} {R : Heap → List Addr → β → α → Prop} {out : Res S β} {ρ : List Addr} {s : Shared} (h : Run K F t R out ρ s) : Run K F (PySem.holding vs t) R out ρ s := by
  cases out with
  | stuck => trivial
  | ok d σ' => exact wpAny_holding h
  | exc y σ' => exact wpAny_holding h

theorem Run.operate {vs : List Value} {t : Sem Value} {R : Heap → List Addr → β → Value → Prop} {out : Res S β} {ρ : List Addr} {s : Shared} (h : Run K F t R out ρ s) : Run K F (PySem.operate vs t) R out ρ s := by
  cases out with
  | stuck => trivial
  | ok d σ' => exact wpAny_operating h
  | exc y σ' => exact wpAny_operating h
end

end Mine


/-! part F2 -/
set_option autoImplicit false
set_option maxRecDepth 100000
open PySem PySem.W PyProof.Rows
namespace Mine

theorem ofString_inj {a b : String} (h : Str.ofString a = Str.ofString b) : a = b := by
  have h1 : (cpsOfBytes 0 0 a.toByteArray.data.toList).toArray = (cpsOfBytes 0 0 b.toByteArray.data.toList).toArray := congrArg Str.cps h
  have h2 := congrArg Array.toList h1
  rw [cpsOfBytes_string, cpsOfBytes_string] at h2
  have h3 : a.toList.map Char.toNat = b.toList.map Char.toNat := by simpa using h2
  have h4 : a.toList = b.toList := List.map_inj_right (fun x y e => Char.toNat_inj.mp e) |>.mp h3
  exact String.toList_inj.mp h4

theorem CelRep.mono {K : Glo} {h h' : Heap} {ρ ρ' : List Addr} {c : Cel} {a : Addr} (x : CelRep K h ρ c a) (hp : ρ <+: ρ') (ht : ∀ b o, h.get? b = some o → Froz o → h'.get? b = some o)
    (hl : ∀ items n, IsL h a items n → IsL h' a items n) : CelRep K h' ρ' c a := by
  cases c with
  | lst vs => obtain ⟨h0, ws, n, h1, h2⟩ := x; exact ⟨h0, ws, n, hl _ _ h1, RepL.mono' hp ht h2⟩

theorem VarAt.mono {env : Env} {h h' : Heap} {x : Str} {w : Value} (v : VarAt env h x w) (hn : ∀ m, h.Ns env.locals m → h'.Ns env.locals m)
    (hc : ∀ c u, env.cells.lookup x = some c → h.IsCell c (some u) → h'.IsCell c (some u)) : VarAt env h' x w := by
  rcases v with ⟨k, m, n, e⟩ | ⟨k, c, e, n⟩
  · exact .inl ⟨k, m, hn m n, e⟩
  · exact .inr ⟨k, c, e, hc c w e n⟩

section
variable {K : Glo} {F : Frm} {σ : S} {ρ ρ' : List Addr} {s s' : Shared} {mine : List Addr} {h h' : Heap}

theorem kept_tup (hk : ∀ b o, h.get? b = some o → h'.get? b = some o) : ∀ b o, h.get? b = some o → Froz o → h'.get? b = some o := fun _ _ e _ => hk _ _ e

theorem Ext.kept (hk : ∀ b o, h.get? b = some o → h'.get? b = some o) : Ext mine ρ ρ h h' :=
  ⟨List.prefix_refl _, fun _ o e => ⟨o, hk _ _ e⟩, fun _ ha => .inl ha, fun _ o e _ _ => ⟨o, hk _ _ e, .refl _⟩, kept_tup hk⟩

theorem GRel.kept {st : Store} (rel : GRel K st ρ s) (hk : ∀ b o, s.heap.get? b = some o → s'.heap.get? b = some o) (hg : s'.gens = s.gens) (ho : s'.os = s.os) : GRel K st ρ s' where
  gens := hg.trans rel.gens
  os := ho.trans rel.os
  base := fun b o e => hk _ _ (rel.base b o e)
  len := rel.len
  cell := fun l a c h1 h2 => (rel.cell l a c h1 h2).mono (List.prefix_refl _) (kept_tup hk) fun _ _ x => hk _ _ x
  nodup := rel.nodup
  above := rel.above

theorem Rel.kept (rel : Rel K F σ ρ s) (hk : ∀ b o, s.heap.get? b = some o → s'.heap.get? b = some o) (hg : s'.gens = s.gens) (ho : s'.os = s.os) : Rel K F σ ρ s' where
  toGRel := rel.toGRel.kept hk hg ho
  vars := fun x v e => by
    obtain ⟨w, h1, h2⟩ := rel.vars x v e
    exact ⟨w, h1.mono (fun m n => n.keeps hk) (fun c u _ n => n.keeps hk), Rep.mono' (List.prefix_refl _) (kept_tup hk) h2⟩
  loc := let ⟨m, n⟩ := rel.loc; ⟨m, n.keeps hk⟩
  cels := fun x c e => let ⟨v, n⟩ := rel.cels x c e; ⟨v, n.keeps hk⟩
  mineAbove := fun a ha => let ⟨h1, o, h2⟩ := rel.mineAbove a ha; ⟨h1, o, hk _ _ h2⟩
  mineApart := rel.mineApart
  mineLoc := rel.mineLoc

theorem Rel.tok (rel : Rel K F σ ρ s) (t : Nat) : Rel K F σ ρ { s with toks := t } := rel.kept (fun _ _ e => e) rfl rfl
theorem Rel.push (rel : Rel K F σ ρ s) (o : Obj) (t : Nat) : Rel K F σ ρ { s with heap := s.heap.push o, toks := t } := rel.kept (fun _ _ e => Heap.get?_push_of_some o e) rfl rfl
theorem Ext.push (o : Obj) : Ext mine ρ ρ h (h.push o) := Ext.kept fun _ _ e => Heap.get?_push_of_some o e

theorem GRel.alive {st : Store} (rel : GRel K st ρ s) {a : Addr} (ha : a ∈ ρ) : ∃ items, s.heap.IsList a items := by
  obtain ⟨l, hl⟩ := List.mem_iff_getElem?.mp ha
  have h1 : l < ρ.length := (List.getElem?_eq_some_iff.mp hl).1
  rw [rel.len] at h1
  have h2 : st[l]? = some st[l] := List.getElem?_eq_getElem h1
  have h3 := rel.cell l a _ hl h2
  cases hc : st[l] with
  | lst vs => rw [hc] at h3; obtain ⟨_, ws, n, h4, _⟩ := h3; exact ⟨_, h4.isList⟩

theorem list_ne_tup {a b : Addr} {i : Array Value} {o' : Obj} (h1 : h.IsList a i) (e' : h.get? b = some o') (f : Froz o') : b ≠ a := by
  rintro rfl
  obtain ⟨o, e, c, _⟩ := h1
  rw [e] at e'; cases e'
  rcases f with ⟨f, _⟩ | ⟨f, _⟩
  · rw [c] at f; exact absurd f (by decide)
  · rw [c] at f; exact absurd f (by decide)
theorem froz_ne_dict {o : Obj} (f : Froz o) : ∀ es n, o.data ≠ .dict es n := by
  rintro es n d
  rcases f with ⟨_, _, _, f⟩ | ⟨_, _, f⟩ <;> (rw [d] at f; cases f)
theorem froz_ne_cell {o : Obj} (f : Froz o) : ∀ v, o.data ≠ .cell v := by
  rintro v d
  rcases f with ⟨_, _, _, f⟩ | ⟨_, _, f⟩ <;> (rw [d] at f; cases f)
theorem list_ne_ns {a b : Addr} {i : Array Value} {m : Str → Option Value} (h1 : h.IsList a i) (h2 : h.Ns b m) : b ≠ a := by
  rintro rfl
  obtain ⟨o, e, _, n, d⟩ := h1
  obtain ⟨o', es, ep, e', d', _⟩ := h2
  rw [e] at e'; cases e'; rw [d] at d'; cases d'
theorem list_ne_cell {a b : Addr} {i : Array Value} {v : Option Value} (h1 : h.IsList a i) (h2 : h.IsCell b v) : b ≠ a := by
  rintro rfl
  obtain ⟨o, e, _, n, d⟩ := h1
  obtain ⟨o', e', d'⟩ := h2
  rw [e] at e'; cases e'; rw [d] at d'; cases d'
theorem ns_ne_tup {a b : Addr} {o' : Obj} {m : Str → Option Value} (h1 : h.Ns a m) (e' : h.get? b = some o') (f : Froz o') : b ≠ a := by
  rintro rfl
  obtain ⟨o, es, ep, e, d', _⟩ := h1
  rw [e] at e'; cases e'; exact froz_ne_dict f _ _ d'
theorem cell_ne_tup {a b : Addr} {o' : Obj} {v : Option Value} (h1 : h.IsCell a v) (e' : h.get? b = some o') (f : Froz o') : b ≠ a := by
  rintro rfl
  obtain ⟨o, e, d'⟩ := h1
  rw [e] at e'; cases e'; exact froz_ne_cell f _ d'
theorem cell_ne_ns {a b : Addr} {v : Option Value} {m : Str → Option Value} (h1 : h.IsCell a v) (h2 : h.Ns b m) : b ≠ a := by
  rintro rfl
  obtain ⟨o', es, ep, e', d', _⟩ := h2
  obtain ⟨o, e, d⟩ := h1
  rw [e] at e'; cases e'; rw [d] at d'; cases d'

theorem nodup_get {α : Type} : ∀ {l : List α}, l.Nodup → ∀ {i j : Nat} {a : α}, l[i]? = some a → l[j]? = some a → i = j
  | [], _, i, j, a, h1, _ => by simp at h1
  | x :: l, n, i, j, a, h1, h2 => by
    obtain ⟨n1, n2⟩ := List.nodup_cons.mp n
    cases i with
    | zero =>
      cases j with
      | zero => rfl
      | succ j =>
        simp only [List.getElem?_cons_zero, Option.some.injEq] at h1; subst h1
        exact absurd (List.mem_of_getElem? (by simpa using h2)) n1
    | succ i =>
      cases j with
      | zero =>
        simp only [List.getElem?_cons_zero, Option.some.injEq] at h2; subst h2
        exact absurd (List.mem_of_getElem? (by simpa using h1)) n1
      | succ j => exact congrArg (· + 1) (nodup_get n2 (by simpa using h1) (by simpa using h2))

/-- a list of the store is replaced -/
theorem GRel.upd {st : Store} {l n : Nat} {a : Addr} {vs : List V} {ws : List Value} (rel : GRel K st ρ s) (hl : ρ[l]? = some a) (hl0 : l ≠ 0) (hs : Heap.SameBut a s.heap s'.heap)
    (hL : IsL s'.heap a ws.toArray n) (hr : RepL K s.heap ρ vs ws) (hln : vs.length ≤ 1000000) (hg : s'.gens = s.gens) (ho : s'.os = s.os) :
    GRel K (st.set l (.lst vs)) ρ s' ∧ Ext mine ρ ρ s.heap s'.heap := by
  have ha : a ∈ ρ := List.mem_of_getElem? hl
  obtain ⟨items, hold⟩ := rel.alive ha
  have ht : ∀ b o, s.heap.get? b = some o → Froz o → s'.heap.get? b = some o := fun b o e f => (hs.2 b (list_ne_tup hold e f)).trans e
  refine ⟨⟨hg.trans rel.gens, ho.trans rel.os, ?_, ?_, ?_, rel.nodup, rel.above⟩, ?_⟩
  · intro b o e
    have hne : b ≠ a := by rintro rfl; rw [rel.above l _ hl hl0] at e; cases e
    exact (hs.2 b hne).trans (rel.base b o e)
  · rw [rel.len, List.length_set]
  · intro k b c h1 h2
    by_cases hk : k = l
    · subst hk
      rw [hl] at h1; cases h1
      have h3 : k < st.length := by rw [← rel.len]; exact (List.getElem?_eq_some_iff.mp hl).1
      rw [List.getElem?_set_self h3] at h2; cases h2
      exact ⟨hln, ws, n, hL, RepL.mono' (List.prefix_refl _) ht hr⟩
    · rw [List.getElem?_set_ne (Ne.symm hk)] at h2
      have hne : b ≠ a := fun e => hk (nodup_get rel.nodup (e ▸ h1) hl)
      exact (rel.cell k b c h1 h2).mono (List.prefix_refl _) ht fun it n' x => (hs.2 b hne).trans x
  · refine ⟨List.prefix_refl _, fun b o e => ?_, fun _ hb => .inl hb, fun b o e n1 _ => ⟨o, (hs.2 b (fun x => n1 (x ▸ ha))).trans e, .refl _⟩, ht⟩
    by_cases hb : b = a
    · subst hb; exact ⟨_, hL⟩
    · exact ⟨o, (hs.2 b hb).trans e⟩

theorem Rel.upd {l n : Nat} {a : Addr} {vs : List V} {ws : List Value} (rel : Rel K F σ ρ s) (hl : ρ[l]? = some a) (hl0 : l ≠ 0) (hs : Heap.SameBut a s.heap s'.heap)
    (hL : IsL s'.heap a ws.toArray n) (hr : RepL K s.heap ρ vs ws) (hln : vs.length ≤ 1000000) (hg : s'.gens = s.gens) (ho : s'.os = s.os) :
    Rel K F { σ with st := σ.st.set l (.lst vs) } ρ s' ∧ Ext F.mine ρ ρ s.heap s'.heap := by
  obtain ⟨g, x⟩ := rel.toGRel.upd (mine := F.mine) hl hl0 hs hL hr hln hg ho
  have ha : a ∈ ρ := List.mem_of_getElem? hl
  obtain ⟨items, hold⟩ := rel.toGRel.alive ha
  refine ⟨{ toGRel := g, vars := ?_, loc := ?_, cels := ?_, mineAbove := ?_, mineApart := rel.mineApart, mineLoc := rel.mineLoc }, x⟩
  · intro y v e
    obtain ⟨w, h1, h2⟩ := rel.vars y v e
    exact ⟨w, h1.mono (fun m n => n.sameBut hs (list_ne_ns hold n)) (fun c u _ n => n.sameBut hs (list_ne_cell hold n)), h2.mono x⟩
  · obtain ⟨m, n⟩ := rel.loc; exact ⟨m, n.sameBut hs (list_ne_ns hold n)⟩
  · intro y c e
    obtain ⟨v, n⟩ := rel.cels y c e; exact ⟨v, n.sameBut hs (list_ne_cell hold n)⟩
  · intro b hb
    obtain ⟨h1, o, h2⟩ := rel.mineAbove b hb
    obtain ⟨o', h3⟩ := x.alive b o h2
    exact ⟨h1, o', h3⟩

/-- a new list -/
theorem GRel.newList {st : Store} {vs : List V} {ws : List Value} {o : Obj} (rel : GRel K st ρ s) (ho : o = { cls := .type "list", data := .seq ws.toArray }) (hr : RepL K s.heap ρ vs ws) (hln : vs.length ≤ 1000000) (t : Nat) :
    GRel K (st ++ [.lst vs]) (ρ ++ [s.heap.objs.size]) { s with heap := s.heap.push o, toks := t } ∧ Ext mine ρ (ρ ++ [s.heap.objs.size]) s.heap (s.heap.push o) := by
  have hk : ∀ b o', s.heap.get? b = some o' → (s.heap.push o).get? b = some o' := fun _ _ e => Heap.get?_push_of_some o e
  have hpre : ρ <+: ρ ++ [s.heap.objs.size] := List.prefix_append _ _
  have hnew : s.heap.get? s.heap.objs.size = none := Heap.get?_none_of_le (Nat.le_refl _)
  have hL : IsL (s.heap.push o) s.heap.objs.size ws.toArray 0 := by
    subst ho; exact Heap.get?_push_size _ rfl
  refine ⟨⟨rel.gens, rel.os, fun b o' e => hk _ _ (rel.base b o' e), ?_, ?_, ?_, ?_⟩, ⟨hpre, fun b o' e => ⟨o', hk _ _ e⟩, ?_, fun b o' e _ _ => ⟨o', hk _ _ e, .refl _⟩, kept_tup hk⟩⟩
  · simp [rel.len]
  · intro l a c h1 h2
    by_cases hl : l < st.length
    · rw [List.getElem?_append_left (by rw [rel.len]; exact hl)] at h1
      rw [List.getElem?_append_left hl] at h2
      exact (rel.cell l a c h1 h2).mono hpre (kept_tup hk) fun _ _ x => hk _ _ x
    · have hl' : l = st.length := by
        rcases List.getElem?_eq_some_iff.mp h2 with ⟨h3, _⟩
        simp at h3; (first | lia | omega)
      subst hl'
      rw [← rel.len, List.getElem?_concat_length] at h1; cases h1
      rw [List.getElem?_concat_length] at h2; cases h2
      exact ⟨hln, ws, 0, hL, RepL.mono' hpre (kept_tup hk) hr⟩
  · refine List.nodup_append.mpr ⟨rel.nodup, by simp, ?_⟩
    intro a ha b hb
    simp only [List.mem_singleton] at hb; subst hb
    rintro rfl
    obtain ⟨_, o', e, _⟩ := rel.alive ha
    rw [hnew] at e; cases e
  · intro l a hla hl0
    by_cases hlt : l < ρ.length
    · rw [List.getElem?_append_left hlt] at hla
      exact rel.above l a hla hl0
    · have ha : a = s.heap.objs.size := by
        have hm := List.mem_of_getElem? hla
        rw [List.getElem?_append_right (by (first | lia | omega))] at hla
        have := List.mem_of_getElem? hla
        simpa using this
      subst ha
      cases e : K.base.get? s.heap.objs.size with
      | none => rfl
      | some o' => have := rel.base _ _ e; rw [hnew] at this; cases this
  · intro a ha
    rcases List.mem_append.mp ha with ha | ha
    · exact .inl ha
    · simp only [List.mem_singleton] at ha; subst ha; exact .inr hnew

theorem Rel.newList {vs : List V} {ws : List Value} {o : Obj} (rel : Rel K F σ ρ s) (ho : o = { cls := .type "list", data := .seq ws.toArray }) (hr : RepL K s.heap ρ vs ws) (hln : vs.length ≤ 1000000) (t : Nat) :
    Rel K F { σ with st := σ.st ++ [.lst vs] } (ρ ++ [s.heap.objs.size]) { s with heap := s.heap.push o, toks := t } ∧ Ext F.mine ρ (ρ ++ [s.heap.objs.size]) s.heap (s.heap.push o) := by
  obtain ⟨g, x⟩ := rel.toGRel.newList (mine := F.mine) ho hr hln t
  have hk : ∀ b o', s.heap.get? b = some o' → (s.heap.push o).get? b = some o' := fun _ _ e => Heap.get?_push_of_some o e
  have r := rel.push o t
  refine ⟨{ toGRel := g, vars := ?_, loc := r.loc, cels := r.cels, mineAbove := r.mineAbove, mineApart := ?_, mineLoc := r.mineLoc }, x⟩
  · intro y v e
    obtain ⟨w, h1, h2⟩ := rel.vars y v e
    exact ⟨w, h1.mono (fun m n => n.keeps hk) (fun c u _ n => n.keeps hk), h2.mono x⟩
  · intro a ha hb
    rcases List.mem_append.mp hb with hb | hb
    · exact rel.mineApart a ha hb
    · simp only [List.mem_singleton] at hb; subst hb
      obtain ⟨_, o', e⟩ := rel.mineAbove _ ha
      rw [Heap.get?_none_of_le (Nat.le_refl _)] at e; cases e

/-- a name is bound -/
def S.put (σ : S) (x : String) (v : V) : S := { σ with lo := fun y => if y = x then some v else σ.lo y }

theorem Ext.mineBut {a : Addr} (ha : a ∈ mine) (hs : Heap.SameBut a h h') (hal : ∃ o, h'.get? a = some o) (ht : ∀ b o, h.get? b = some o → Froz o → b ≠ a) : Ext mine ρ ρ h h' where
  pre := List.prefix_refl _
  alive := fun b o e => by
    by_cases hb : b = a
    · subst hb; exact hal
    · exact ⟨o, (hs.2 b hb).trans e⟩
  new := fun _ hb => .inl hb
  keep := fun b o e _ n => ⟨o, (hs.2 b (fun x => n (x ▸ ha))).trans e, .refl _⟩
  froz := fun b o e f => (hs.2 b (ht b o e f)).trans e

theorem GRel.mineBut {st : Store} {a : Addr} (rel : GRel K st ρ s) (hb : K.base.get? a = none) (hnl : a ∉ ρ) (hs : Heap.SameBut a s.heap s'.heap) (ht : ∀ b o, s.heap.get? b = some o → Froz o → b ≠ a)
    (hg : s'.gens = s.gens) (ho : s'.os = s.os) : GRel K st ρ s' where
  gens := hg.trans rel.gens
  os := ho.trans rel.os
  base := fun b o e => (hs.2 b (by rintro rfl; rw [hb] at e; cases e)).trans (rel.base b o e)
  len := rel.len
  cell := fun l b c h1 h2 => by
    have hne : b ≠ a := fun e => hnl (e ▸ List.mem_of_getElem? h1)
    refine (rel.cell l b c h1 h2).mono (List.prefix_refl _) (fun d o e f => (hs.2 d (ht d o e f)).trans e) fun it n' x => ?_
    · exact (hs.2 b hne).trans x
  nodup := rel.nodup
  above := rel.above

theorem Rel.setLocal {x : String} {v : V} {w : Value} {m : Str → Option Value} (rel : Rel K F σ ρ s) (hk : F.env.kindOf (Str.ofString x) = some .local) (hm : s.heap.Ns F.env.locals m)
    (hn : s'.heap.Ns F.env.locals (fun y => if y = Str.ofString x then some w else m y)) (hs : Heap.SameBut F.env.locals s.heap s'.heap) (hr : Rep K s.heap ρ v w)
    (hg : s'.gens = s.gens) (ho : s'.os = s.os) : Rel K F (σ.put x v) ρ s' ∧ Ext F.mine ρ ρ s.heap s'.heap := by
  have ht : ∀ b o, s.heap.get? b = some o → Froz o → b ≠ F.env.locals := fun b o e f => ns_ne_tup hm e f
  have hal : ∃ o, s'.heap.get? F.env.locals = some o := by obtain ⟨o, _, _, e, _⟩ := hn; exact ⟨o, e⟩
  have ext : Ext F.mine ρ ρ s.heap s'.heap := Ext.mineBut rel.mineLoc hs hal ht
  refine ⟨{ toGRel := rel.toGRel.mineBut (rel.mineAbove _ rel.mineLoc).1 (rel.mineApart _ rel.mineLoc) hs ht hg ho, vars := ?_, loc := ⟨_, hn⟩, cels := ?_, mineAbove := ?_, mineApart := rel.mineApart, mineLoc := rel.mineLoc }, ext⟩
  · intro y u e
    by_cases hy : y = x
    · subst hy
      simp only [S.put, if_true, Option.some.injEq] at e
      subst e
      exact ⟨w, .inl ⟨hk, _, hn, by simp⟩, hr.mono ext⟩
    · simp only [S.put, if_neg hy] at e
      obtain ⟨w', h1, h2⟩ := rel.vars y u e
      refine ⟨w', ?_, h2.mono ext⟩
      rcases h1 with ⟨k1, m1, n1, e1⟩ | ⟨k1, c, e1, n1⟩
      · refine .inl ⟨k1, _, hn, ?_⟩
        have hne : ¬ Str.ofString y = Str.ofString x := fun q => hy (ofString_inj q)
        rw [if_neg hne]
        obtain ⟨o1, es1, ep1, g1, d1, _, f1⟩ := n1
        obtain ⟨o2, es2, ep2, g2, d2, _, f2⟩ := hm
        rw [g1] at g2; cases g2; rw [d1] at d2; cases d2
        rw [← f2, f1]; exact e1
      · exact .inr ⟨k1, c, e1, n1.sameBut hs (fun q => cell_ne_ns n1 hm q.symm)⟩
  · intro y c e
    obtain ⟨v', n⟩ := rel.cels y c e
    exact ⟨v', n.sameBut hs (fun q => cell_ne_ns n hm q.symm)⟩
  · intro b hb
    obtain ⟨h1, o, h2⟩ := rel.mineAbove b hb
    obtain ⟨o', h3⟩ := ext.alive b o h2
    exact ⟨h1, o', h3⟩

theorem Rel.setCell {x : String} {v : V} {w : Value} {c : Addr} {v₀ : Option Value} (rel : Rel K F σ ρ s) (hk : F.env.kindOf (Str.ofString x) = some .cell) (hc : F.env.cells.lookup (Str.ofString x) = some c) (hmine : c ∈ F.mine)
    (hinj : ∀ y, F.env.cells.lookup y = some c → y = Str.ofString x) (h0 : s.heap.IsCell c v₀)
    (hn : s'.heap.IsCell c (some w)) (hs : Heap.SameBut c s.heap s'.heap) (hr : Rep K s.heap ρ v w)
    (hg : s'.gens = s.gens) (ho : s'.os = s.os) : Rel K F (σ.put x v) ρ s' ∧ Ext F.mine ρ ρ s.heap s'.heap := by
  have ht : ∀ b o, s.heap.get? b = some o → Froz o → b ≠ c := fun b o e f => cell_ne_tup h0 e f
  have hal : ∃ o, s'.heap.get? c = some o := by obtain ⟨o, e, _⟩ := hn; exact ⟨o, e⟩
  have ext : Ext F.mine ρ ρ s.heap s'.heap := Ext.mineBut hmine hs hal ht
  refine ⟨{ toGRel := rel.toGRel.mineBut (rel.mineAbove _ hmine).1 (rel.mineApart _ hmine) hs ht hg ho, vars := ?_, loc := ?_, cels := ?_, mineAbove := ?_, mineApart := rel.mineApart, mineLoc := rel.mineLoc }, ext⟩
  · intro y u e
    by_cases hy : y = x
    · subst hy
      simp only [S.put, if_true, Option.some.injEq] at e
      subst e
      exact ⟨w, .inr ⟨.inl hk, c, hc, hn⟩, hr.mono ext⟩
    · simp only [S.put, if_neg hy] at e
      obtain ⟨w', h1, h2⟩ := rel.vars y u e
      refine ⟨w', ?_, h2.mono ext⟩
      rcases h1 with ⟨k1, m1, n1, e1⟩ | ⟨k1, c', e1, n1⟩
      · exact .inl ⟨k1, m1, n1.sameBut hs (cell_ne_ns h0 n1), e1⟩
      · have hne : c' ≠ c := by rintro rfl; exact hy (ofString_inj (hinj _ e1))
        exact .inr ⟨k1, c', e1, n1.sameBut hs hne⟩
  · obtain ⟨m, n⟩ := rel.loc; exact ⟨m, n.sameBut hs (cell_ne_ns h0 n)⟩
  · intro y c' e
    obtain ⟨v', n⟩ := rel.cels y c' e
    by_cases hcc : c' = c
    · subst hcc; exact ⟨_, hn⟩
    · exact ⟨v', n.sameBut hs hcc⟩
  · intro b hb
    obtain ⟨h1, o, h2⟩ := rel.mineAbove b hb
    obtain ⟨o', h3⟩ := ext.alive b o h2
    exact ⟨h1, o', h3⟩
end

end Mine


/-! part F3 -/
set_option autoImplicit false
set_option maxRecDepth 100000
open PySem PySem.W PyProof.Rows
namespace Mine

inductive Fl where
  | next | brk | cont
  | ret (v : V)

def FlRep (K : Glo) (h : Heap) (ρ : List Addr) : Fl → Flow → Prop
  | .next, f => f = .next
  | .brk, f => f = .brk
  | .cont, f => f = .cont
  | .ret v, f => ∃ w, f = .ret w ∧ Rep K h ρ v w

def SimE (K : Glo) (F : Frm) (e : Expr) (m : M V) : Prop := ∀ σ ρ s, Rel K F σ ρ s → Run K F (eval e F.env) (Rep K) (m σ) ρ s
def BRep (_ : Heap) (_ : List Addr) (b : Bool) (a : Bool) : Prop := a = b
def SimB (K : Glo) (F : Frm) (e : Expr) (m : M Bool) : Prop := ∀ σ ρ s, Rel K F σ ρ s → Run K F (isTrue e F.env (eval e F.env)) BRep (m σ) ρ s
def SimS (K : Glo) (F : Frm) (st : Stmt) (m : M Fl) : Prop := ∀ σ ρ s, Rel K F σ ρ s → Run K F (exec st F.env) (FlRep K) (m σ) ρ s
def SimSs (K : Glo) (F : Frm) (st : List Stmt) (m : M Fl) : Prop := ∀ σ ρ s, Rel K F σ ρ s → Run K F (execs st F.env) (FlRep K) (m σ) ρ s
def URep (_ : Heap) (_ : List Addr) (_ : Unit) (_ : Unit) : Prop := True
def SimT (K : Glo) (F : Frm) (e : Expr) (m : V → M Unit) : Prop := ∀ σ ρ s v w, Rel K F σ ρ s → Rep K s.heap ρ v w → Run K F (assign e F.env w) URep (m v σ) ρ s

structure FOk (F : Frm) : Prop where
  kind : F.env.scope.kind = .function
  glob : F.env.globals = mainGlobals
  blt : F.env.builtins = builtinsNs
  hd : F.A.handled = none
  units : F.A.units + 1000 < cLine

def getv (x : String) : M V := fun σ => match σ.lo x with | some v => .ok v σ | none => .stuck
def setv (x : String) (v : V) : M Unit := fun σ => .ok () (σ.put x v)

variable {K : Glo} {F : Frm}

theorem Run.ok {α β : Type} {t : Sem α} {R : Heap → List Addr → β → α → Prop} {b : β} {σ' : S} {ρ : List Addr} {s : Shared}
    (h : wpAny (model K.prog K.w) F.A t (fun a s' => ∃ ρ', Rel K F σ' ρ' s' ∧ Ext F.mine ρ ρ' s.heap s'.heap ∧ R s'.heap ρ' b a) (fun _ _ => False) s) : Run K F t R (.ok b σ') ρ s := h

/-! ### names and constants -/
theorem simE_name (fk : FOk F) (x : String) (pos : Pos) (hd : (Str.ofString x == ("__debug__" : Str)) = false := by decide) (hc : (Str.ofString x == ("__classdict__" : Str)) = false := by decide) :
    SimE K F (.Name (Str.ofString x) pos) (getv x) := by
  intro σ ρ s rel
  unfold getv
  cases e : σ.lo x with
  | none => exact Run.stuck
  | some v =>
    dsimp only
    obtain ⟨w, h1, h2⟩ := rel.vars x v e
    refine Run.ok (wpAny_Name ?_ hd)
    have fin : ∃ ρ', Rel K F σ ρ' s ∧ Ext F.mine ρ ρ' s.heap s.heap ∧ Rep K s.heap ρ' v w := ⟨ρ, rel, Ext.refl .., h2⟩
    rcases h1 with ⟨k, m, n, em⟩ | ⟨k | k, c, ec, n⟩
    · exact wpAny_loadName_local fk.kind k n em fin
    · exact wpAny_loadName_cell fk.kind k ec n fin
    · exact wpAny_loadName_free fk.kind k ec n fin hc

theorem simE_none (k : Nat) (pos : Pos) : SimE K F (.Constant .none k pos) (pure .none) := fun _ ρ _ rel => Run.ok (wpAny_Constant_none ⟨ρ, rel, Ext.refl .., Rep.none⟩)
theorem simE_bool (b : Bool) (k : Nat) (pos : Pos) : SimE K F (.Constant (.bool b) k pos) (pure (.bool b)) := fun _ ρ _ rel => Run.ok (wpAny_Constant_bool ⟨ρ, rel, Ext.refl .., Rep.bool b⟩)
theorem simE_int (i : Int) (k : Nat) (pos : Pos) : SimE K F (.Constant (.int i) k pos) (pure (.int i)) := fun _ ρ _ rel => Run.ok (wpAny_Constant_int ⟨ρ, rel.tok _, Ext.refl .., Rep.int ..⟩)
/-! ### operators -/
def BinOk (K : Glo) (op : Operator) (f : V → V → M V) : Prop :=
  ∀ F : Frm, FOk F → ∀ σ ρ s a b wa wb, Rel K F σ ρ s → Rep K s.heap ρ a wa → Rep K s.heap ρ b wb → Run K F (binaryOp op wa wb) (Rep K) (f a b σ) ρ s
def CmpOk (K : Glo) (op : CmpOp) (f : V → V → M V) : Prop :=
  ∀ F : Frm, FOk F → ∀ σ ρ s a b wa wb, Rel K F σ ρ s → Rep K s.heap ρ a wa → Rep K s.heap ρ b wb → Run K F (compareOp op wa wb) (Rep K) (f a b σ) ρ s
def UnOk (K : Glo) (op : UnaryOp) (f : V → M V) : Prop :=
  ∀ F : Frm, FOk F → ∀ σ ρ s a wa, Rel K F σ ρ s → Rep K s.heap ρ a wa → Run K F (unaryOp op wa) (Rep K) (f a σ) ρ s
def TruOk (K : Glo) (f : V → M Bool) : Prop :=
  ∀ F : Frm, FOk F → ∀ σ ρ s a wa, Rel K F σ ρ s → Rep K s.heap ρ a wa → Run K F (truthy wa) BRep (f a σ) ρ s

theorem simE_bin (fk : FOk F) {op : Operator} {f : V → V → M V} (ho : BinOk K op f) {l r : Expr} {ml mr : M V} (pos : Pos) (hl : SimE K F l ml) (hr : SimE K F r mr) :
    SimE K F (.BinOp l op r pos) (do let a ← ml; let b ← mr; f a b) := by
  intro σ ρ s rel
  rw [eval_BinOp]
  refine Run.bind (hl σ ρ s rel) fun a σ₁ ρ₁ s₁ wa _ rel₁ x₁ ra => ?_
  refine Run.bind (Run.holding (hr σ₁ ρ₁ s₁ rel₁)) fun b σ₂ ρ₂ s₂ wb _ rel₂ x₂ rb => ?_
  exact Run.standAt (Run.operate (ho F fk σ₂ ρ₂ s₂ a b wa wb rel₂ (ra.mono x₂) rb))

theorem simE_un (fk : FOk F) {op : UnaryOp} {f : V → M V} (ho : UnOk K op f) {l : Expr} {ml : M V} (pos : Pos) (hl : SimE K F l ml) :
    SimE K F (.UnaryOp op l pos) (do let a ← ml; f a) := by
  intro σ ρ s rel
  show Run K F (do let v ← eval l F.env; standAt pos; holding [v] (unaryOp op v)) (Rep K) _ ρ s
  refine Run.bind (hl σ ρ s rel) fun a σ₁ ρ₁ s₁ wa _ rel₁ x₁ ra => ?_
  exact Run.standAt (Run.holding (ho F fk σ₁ ρ₁ s₁ a wa rel₁ ra))

theorem simE_cmp (fk : FOk F) {op : CmpOp} {f : V → V → M V} (ho : CmpOk K op f) {l r : Expr} {ml mr : M V} (pos : Pos) (hl : SimE K F l ml) (hr : SimE K F r mr)
    (hm : behindInMarks op r = false := by rfl) :
    SimE K F (.Compare l [op] [r] pos) (do let a ← ml; let b ← mr; f a b) := by
  intro σ ρ s rel
  have e : eval (.Compare l [op] [r] pos) F.env = (do let left ← eval l F.env; let rv ← holding [left] (eval r F.env); standAt pos; operate [left, rv] (compareOp op left rv)) := by
    rw [eval_Compare1]
    simp only [markedBehindIn_of_false hm]
  rw [e]
  refine Run.bind (hl σ ρ s rel) fun a σ₁ ρ₁ s₁ wa _ rel₁ x₁ ra => ?_
  refine Run.bind (Run.holding (hr σ₁ ρ₁ s₁ rel₁)) fun b σ₂ ρ₂ s₂ wb _ rel₂ x₂ rb => ?_
  exact Run.standAt (Run.operate (ho F fk σ₂ ρ₂ s₂ a b wa wb rel₂ (ra.mono x₂) rb))

theorem simB_cmp (fk : FOk F) {op : CmpOp} {f : V → V → M V} (ho : CmpOk K op f) {tr : V → M Bool} (ht : TruOk K tr) {l r : Expr} {ml mr : M V} (pos : Pos) (hl : SimE K F l ml) (hr : SimE K F r mr)
    (hm : behindInMarks op r = false := by rfl) :
    SimB K F (.Compare l [op] [r] pos) (do let a ← ml; let b ← mr; let c ← f a b; tr c) := by
  intro σ ρ s rel
  have e : isTrue (.Compare l [op] [r] pos) F.env (eval (.Compare l [op] [r] pos) F.env) = (do let left ← eval l F.env; let rv ← holding [left] (eval r F.env); standAt pos; let c ← operate [left, rv] (compareOp op left rv); holding [c] (truthy c)) := by
    rw [isTrue_Compare1]
    simp only [markedBehindIn_of_false hm]
  rw [e]
  refine Run.bind (hl σ ρ s rel) fun a σ₁ ρ₁ s₁ wa _ rel₁ x₁ ra => ?_
  refine Run.bind (Run.holding (hr σ₁ ρ₁ s₁ rel₁)) fun b σ₂ ρ₂ s₂ wb _ rel₂ x₂ rb => ?_
  refine Run.standAt (Run.bind (Run.operate (ho F fk σ₂ ρ₂ s₂ a b wa wb rel₂ (ra.mono x₂) rb)) fun c σ₃ ρ₃ s₃ wc _ rel₃ x₃ rc => ?_)
  exact Run.holding (ht F fk σ₃ ρ₃ s₃ c wc rel₃ rc)

theorem simB_val (fk : FOk F) {tr : V → M Bool} (ht : TruOk K tr) {e : Expr} {m : M V} (he : SimE K F e m)
    (hi : isTrue e F.env (eval e F.env) = (do let v ← eval e F.env; standAt e.pos; holding [v] (truthy v)) := by rfl) :
    SimB K F e (do let v ← m; tr v) := by
  intro σ ρ s rel
  rw [hi]
  refine Run.bind (he σ ρ s rel) fun a σ₁ ρ₁ s₁ wa _ rel₁ x₁ ra => ?_
  exact Run.standAt (Run.holding (ht F fk σ₁ ρ₁ s₁ a wa rel₁ ra))

theorem simB_not {e : Expr} {m : M Bool} (pos : Pos) (he : SimB K F e m) : SimB K F (.UnaryOp .Not e pos) (do let b ← m; pure (!b)) := by
  intro σ ρ s rel
  show Run K F (do return !(← isTrue e F.env (eval e F.env))) BRep _ ρ s
  refine Run.bind (he σ ρ s rel) fun b σ₁ ρ₁ s₁ wb _ rel₁ x₁ rb => ?_
  have : wb = b := rb
  subst this
  exact Run.pure rel₁ rfl

def SimAll (K : Glo) (F : Frm) (op : BoolOp) (es : List Expr) (m : M Bool) : Prop := ∀ σ ρ s, Rel K F σ ρ s → Run K F (allTrue op es F.env) BRep (m σ) ρ s
theorem simAll_and_nil : SimAll K F .And [] (pure true) := fun _ _ _ rel => Run.pure rel rfl
theorem simAll_and {e : Expr} {es : List Expr} {m ms : M Bool} (he : SimB K F e m) (hs : SimAll K F .And es ms) : SimAll K F .And (e :: es) (do if (← m) = true then ms else pure false) := by
  intro σ ρ s rel
  show Run K F (do match BoolOp.And, ← isTrue e F.env (eval e F.env) with
    | .And, false => pure false
    | .Or, true => pure true
    | _, _ => allTrue .And es F.env) BRep _ ρ s
  refine Run.bind (he σ ρ s rel) fun b σ₁ ρ₁ s₁ wb _ rel₁ x₁ rb => ?_
  have : wb = b := rb
  subst this
  cases wb with
  | false => simp only [Bool.false_eq_true, if_false]; exact Run.pure rel₁ rfl
  | true => simp only [if_true]; exact hs σ₁ ρ₁ s₁ rel₁
theorem simB_boolop {op : BoolOp} {es : List Expr} {m : M Bool} (pos : Pos) (h : SimAll K F op es m) : SimB K F (.BoolOp op es pos) m := fun σ ρ s rel => h σ ρ s rel

/-! ### several expressions -/
def SimEs (K : Glo) (F : Frm) (es : List Expr) (m : M (List V)) : Prop := ∀ (pos : Pos) σ ρ s, Rel K F σ ρ s → Run K F (spliced (backTo pos (starEach es F.env))) (RepL K) (m σ) ρ s
theorem simEs_nil : SimEs K F [] (pure []) := fun _ _ _ _ rel => Run.pure rel RepL.nil
theorem spliced_cons_eq (x : Sem Value) (rest : List (Bool × Sem Value)) : spliced ((false, x) :: rest) = (do let v ← x; let vs ← holding [v] (spliced rest); pure ([v] ++ vs)) := by
  rfl
theorem simEs_cons {e : Expr} {es : List Expr} {m : M V} {ms : M (List V)} (he : SimE K F e m) (hs : SimEs K F es ms)
    (hst : starEach (e :: es) F.env = (false, eval e F.env) :: starEach es F.env := by rfl) : SimEs K F (e :: es) (do let v ← m; let vs ← ms; pure (v :: vs)) := by
  intro pos σ ρ s rel
  rw [hst]
  show Run K F (spliced ((false, eval e F.env) :: backTo pos (starEach es F.env))) _ _ ρ s
  rw [spliced_cons_eq]
  refine Run.bind (he σ ρ s rel) fun a σ₁ ρ₁ s₁ wa _ rel₁ x₁ ra => ?_
  refine Run.bind (Run.holding (hs pos σ₁ ρ₁ s₁ rel₁)) fun b σ₂ ρ₂ s₂ wb _ rel₂ x₂ rb => ?_
  exact Run.pure rel₂ (RepL.cons (ra.mono x₂) rb)

/-! ### displays -/
def newL (vs : List V) : M V := fun σ => if vs.length ≤ 1000000 then .ok (.obj σ.st.length) { σ with st := σ.st ++ [.lst vs] } else .stuck
theorem sizeLine_ge {n : Nat} (h : n ≤ 1000000) : n ≤ sizeLine := by rw [sizeLine_eq]; (first | lia | omega)

theorem run_newList {σ : S} {ρ : List Addr} {s : Shared} {vs : List V} {ws : List Value} (rel : Rel K F σ ρ s) (r : RepL K s.heap ρ vs ws) : Run K F (newList ws) (Rep K) (newL vs σ) ρ s := by
  unfold newL
  by_cases hn : vs.length ≤ 1000000
  · rw [if_pos hn]
    obtain ⟨rel', x⟩ := rel.newList (o := { cls := .type "list", data := .seq ws.toArray }) rfl r hn s.toks
    refine Run.ok (wpAny_newList ⟨_, rel', x, ?_⟩ (sizeLine_ge (by rw [r.length]; exact hn)))
    refine Rep.obj_iff.mpr ⟨_, ?_, rfl⟩
    rw [← rel.len, List.getElem?_concat_length]
  · rw [if_neg hn]; exact Run.stuck

theorem simE_list {es : List Expr} {ms : M (List V)} (pos : Pos) (hs : SimEs K F es ms) : SimE K F (.List es pos) (do let vs ← ms; newL vs) := by
  intro σ ρ s rel
  show Run K F (do standAt pos; newList (← spliced (backTo pos (starEach es F.env)))) (Rep K) _ ρ s
  refine Run.standAt (Run.bind (hs pos σ ρ s rel) fun a σ₁ ρ₁ s₁ wa _ rel₁ x₁ ra => ?_)
  exact run_newList rel₁ ra

theorem run_newTuple {σ : S} {ρ : List Addr} {s : Shared} {vs : List V} {ws : List Value} (rel : Rel K F σ ρ s) (r : RepL K s.heap ρ vs ws) (hn : vs.length ≤ 1000000) : Run K F (newTuple ws) (Rep K) (.ok (.tup vs) σ) ρ s := by
  have x : Ext F.mine ρ ρ s.heap (s.heap.push { cls := .type "tuple", data := .seq ws.toArray }) := Ext.push _
  refine Run.ok (wpAny_newTuple ⟨ρ, rel.push _ s.toks, x, ?_⟩ (sizeLine_ge (by rw [r.length]; exact hn)))
  exact Rep.tup_iff.mpr ⟨hn, _, ws, rfl, IsTup.new _ _, r.mono x⟩

def mkT (vs : List V) : M V := fun σ => if vs.length ≤ 1000000 then .ok (.tup vs) σ else .stuck
theorem simE_tuple {es : List Expr} {ms : M (List V)} (k : Nat) (pos : Pos) (hs : SimEs K F es ms) : SimE K F (.Tuple es k pos) (do let vs ← ms; mkT vs) := by
  intro σ ρ s rel
  show Run K F (do standAt pos; newTuple (← spliced (backTo pos (starEach es F.env)))) (Rep K) _ ρ s
  refine Run.standAt (Run.bind (hs pos σ ρ s rel) fun a σ₁ ρ₁ s₁ wa _ rel₁ x₁ ra => ?_)
  unfold mkT
  split
  · exact run_newTuple rel₁ ra ‹_›
  · exact Run.stuck

/-! ### statements -/
theorem simSs_nil : SimSs K F [] (pure .next) := fun _ _ _ rel => Run.pure rel rfl
def seqM (a b : M Fl) : M Fl := do
  match ← a with
  | .next => b
  | f => pure f
theorem simSs_cons {st : Stmt} {sts : List Stmt} {m ms : M Fl} (h : SimS K F st m) (hs : SimSs K F sts ms) : SimSs K F (st :: sts) (seqM m ms) := by
  intro σ ρ s rel
  show Run K F (do match ← exec st F.env with | .next => execs sts F.env | f => pure f) _ _ ρ s
  refine Run.bind (h σ ρ s rel) fun f σ₁ ρ₁ s₁ wf _ rel₁ x₁ rf => ?_
  cases f with
  | next => have : wf = .next := rf; subst this; exact hs σ₁ ρ₁ s₁ rel₁
  | brk => have : wf = .brk := rf; subst this; exact Run.pure rel₁ rfl
  | cont => have : wf = .cont := rf; subst this; exact Run.pure rel₁ rfl
  | ret v => obtain ⟨w, e, r⟩ := rf; subst e; exact Run.pure rel₁ ⟨w, rfl, r⟩
theorem simSs_one {st : Stmt} {m : M Fl} (h : SimS K F st m) : SimSs K F [st] m := by
  intro σ ρ s rel
  have := simSs_cons h simSs_nil σ ρ s rel
  have e : seqM m (pure .next) σ = m σ := by
    unfold seqM
    rw [M.bind_def]
    cases m σ with
    | stuck => rfl
    | exc x y => rfl
    | ok f y => cases f <;> rfl
  rw [e] at this; exact this

theorem simS_break (pos : Pos) : SimS K F (.Break pos) (pure .brk) := fun _ _ _ rel => Run.standAt (Run.pure rel rfl)
theorem simS_continue (pos : Pos) : SimS K F (.Continue pos) (pure .cont) := fun _ _ _ rel => Run.standAt (Run.pure rel rfl)
theorem simS_return {e : Expr} {m : M V} (pos : Pos) (h : SimE K F e m) : SimS K F (.Return (some e) pos) (do let v ← m; pure (.ret v)) := by
  intro σ ρ s rel
  rw [exec_Return_some]
  exact Run.standAt (Run.bind (h σ ρ s rel) fun v σ₁ ρ₁ s₁ w _ rel₁ x₁ r => Run.pure rel₁ ⟨w, rfl, r⟩)
theorem simS_if {test : Expr} {body orelse : List Stmt} {mt : M Bool} {mb mo : M Fl} (pos : Pos) (ht : SimB K F test mt) (hb : SimSs K F body mb) (ho : SimSs K F orelse mo) :
    SimS K F (.If test body orelse pos) (do if (← mt) = true then mb else mo) := by
  intro σ ρ s rel
  rw [exec_If]
  refine Run.standAt (Run.bind (ht σ ρ s rel) fun b σ₁ ρ₁ s₁ wb _ rel₁ x₁ rb => ?_)
  have : wb = b := rb
  subst this
  cases wb with
  | false => simp only [Bool.false_eq_true, if_false]; exact ho σ₁ ρ₁ s₁ rel₁
  | true => simp only [if_true]; exact hb σ₁ ρ₁ s₁ rel₁

theorem interactive_of (fk : FOk F) : interactive F.env = false := by
  unfold interactive; rw [fk.kind]; rfl
theorem run_dropValue {e : Expr} {pos : Pos} {v : Value} {σ : S} {ρ : List Addr} {s : Shared} (rel : Rel K F σ ρ s) : Run K F (dropValue e pos v) (FlRep K) (.ok .next σ) ρ s :=
  Run.ok (wpAny_dropValue ⟨ρ, rel, Ext.refl .., rfl⟩)
theorem simS_expr (fk : FOk F) {e : Expr} {m : M V} (pos : Pos) (h : SimE K F e m) (hs : swapsWith e none pos.line F.env = pure false := by rfl) :
    SimS K F (.Expr e pos) (do let _ ← m; pure .next) := by
  intro σ ρ s rel
  rw [exec_Expr F.env e pos (interactive_of fk) hs]
  exact Run.standAt (Run.bind (h σ ρ s rel) fun v σ₁ ρ₁ s₁ w _ rel₁ x₁ r => run_dropValue rel₁)

theorem simT_local (x : String) (pos : Pos) (fk : FOk F) (hk : F.env.kindOf (Str.ofString x) = some .local) : SimT K F (.Name (Str.ofString x) pos) (fun v => setv x v) := by
  intro σ ρ s v w rel r
  refine Run.ok (wpAny_assign_Name ?_)
  obtain ⟨m, hm⟩ := rel.loc
  refine wpAny_storeName_local hk hm (fun h' hn hs => ?_) (by rw [fk.kind]; rfl)
  obtain ⟨rel', x'⟩ := rel.setLocal (s' := { s with heap := h', toks := s.toks + 1 }) hk hm hn hs r rfl rfl
  exact ⟨ρ, rel', x', trivial⟩
theorem simT_cell (x : String) (pos : Pos) (fk : FOk F) {c : Addr} (hk : F.env.kindOf (Str.ofString x) = some .cell) (hc : F.env.cells.lookup (Str.ofString x) = some c) (hm : c ∈ F.mine)
    (hinj : ∀ y, F.env.cells.lookup y = some c → y = Str.ofString x) : SimT K F (.Name (Str.ofString x) pos) (fun v => setv x v) := by
  intro σ ρ s v w rel r
  refine Run.ok (wpAny_assign_Name ?_)
  obtain ⟨v₀, h0⟩ := rel.cels _ _ hc
  refine wpAny_storeName_cell fk.kind hk hc h0 (fun h' hn hs => ?_)
  obtain ⟨rel', x'⟩ := rel.setCell (s' := { s with heap := h' }) hk hc hm hinj h0 hn hs r rfl rfl
  exact ⟨ρ, rel', x', trivial⟩

theorem exec_Assign1 (env : Env) (targets : List Expr) (value : Expr) (pos : Pos) : exec (.Assign targets value pos) env = (do
    standAt pos
    if ← swapsWithSole targets value pos.line env then do
      evalThenUse value env fun v => assignAll v ((assignEach targets env).map (·.2))
      pure .next
    else do
      let v ← eval value env
      assignStores env v (← swappedStores targets value env) ((assignEach targets env).map (·.2))) := by rfl
theorem pureBind {α β : Type} (a : α) (f : α → Sem β) : (pure a >>= f) = f a := rfl

/-- target = value, the target no tuple -/
theorem simS_assign {t e : Expr} {mt : V → M Unit} {m : M V} (pos : Pos) (ht : SimT K F t mt) (h : SimE K F e m)
    (hs : swapsWith e (some t) pos.line F.env = pure false := by rfl) (hsw : swappedStores [t] e F.env = pure none := by rfl)
    (hst : assignEach [t] F.env = [(false, assign t F.env)] := by rfl) :
    SimS K F (.Assign [t] e pos) (do let v ← m; mt v; pure .next) := by
  intro σ ρ s rel
  rw [exec_Assign1]
  refine Run.standAt ?_
  rw [show swapsWithSole [t] e pos.line F.env = pure false from hs, pureBind, if_neg Bool.false_ne_true]
  refine Run.bind (h σ ρ s rel) fun v σ₁ ρ₁ s₁ w _ rel₁ x₁ r => ?_
  rw [hsw, hst, pureBind]
  show Run K F (do assign t F.env w; (pure Flow.next : Sem Flow)) _ _ ρ₁ s₁
  exact Run.bind (ht σ₁ ρ₁ s₁ v w rel₁ r) fun _ σ₂ ρ₂ s₂ _ _ rel₂ _ _ => Run.pure rel₂ rfl

end Mine


/-! part F4 -/
set_option autoImplicit false
set_option maxRecDepth 100000
open PySem PySem.W PyProof.Rows
namespace Mine

variable {K : Glo} {F : Frm}

def QO {α β : Type} (K : Glo) (F : Frm) (R : Heap → List Addr → β → α → Prop) (out : Res S β) (ρ : List Addr) (h : Heap) : α → Shared → Prop :=
  fun a s' => ∃ b σ' ρ', out = .ok b σ' ∧ Rel K F σ' ρ' s' ∧ Ext F.mine ρ ρ' h s'.heap ∧ R s'.heap ρ' b a
def EO {β : Type} (K : Glo) (F : Frm) (out : Res S β) (ρ : List Addr) (h : Heap) : Value → Shared → Prop :=
  fun v s' => ∃ e σ' ρ', out = .exc e σ' ∧ Rel K F σ' ρ' s' ∧ Ext F.mine ρ ρ' h s'.heap ∧ XRep K F e ρ' v s'

theorem Run.wp {α β : Type} {t : Sem α} {R : Heap → List Addr → β → α → Prop} {out : Res S β} {ρ : List Addr} {s : Shared} (h : Run K F t R out ρ s) (hne : out ≠ .stuck) :
    wpAny (model K.prog K.w) F.A t (QO K F R out ρ s.heap) (EO K F out ρ s.heap) s := by
  cases out with
  | stuck => exact absurd rfl hne
  | ok b σ' => exact wpAny_mono h (fun a s' ⟨ρ', h1, h2, h3⟩ => ⟨b, σ', ρ', rfl, h1, h2, h3⟩) fun _ _ h => h.elim
  | exc e σ' => exact wpAny_mono h (fun _ _ h => h.elim) fun a s' ⟨ρ', h1, h2, h3⟩ => ⟨e, σ', ρ', rfl, h1, h2, h3⟩
theorem Run.of_wp {α β : Type} {t : Sem α} {R : Heap → List Addr → β → α → Prop} {out : Res S β} {ρ : List Addr} {s : Shared}
    (h : out ≠ .stuck → wpAny (model K.prog K.w) F.A t (QO K F R out ρ s.heap) (EO K F out ρ s.heap) s) : Run K F t R out ρ s := by
  cases out with
  | stuck => trivial
  | ok b σ' =>
    refine wpAny_mono (h (by simp)) (fun a s' hq => ?_) fun a s' he => ?_
    · obtain ⟨b', σ'', ρ', e, h1, h2, h3⟩ := hq; cases e; exact ⟨ρ', h1, h2, h3⟩
    · obtain ⟨_, _, _, e, _⟩ := he; cases e
  | exc x σ' =>
    refine wpAny_mono (h (by simp)) (fun a s' hq => ?_) fun a s' he => ?_
    · obtain ⟨_, _, _, e, _⟩ := hq; cases e
    · obtain ⟨b', σ'', ρ', e, h1, h2, h3⟩ := he; cases e; exact ⟨ρ', h1, h2, h3⟩

/-- the frame notes an exception that goes through one of its blocks -/
theorem XRep.noted {e : Exc} {ρ : List Addr} {v : Value} {s : Shared} {σ : S} {Q : Unit → Shared → Prop} {E : Value → Shared → Prop} (x : XRep K F e ρ v s) (_rel : Rel K F σ ρ s)
    (_h : ∀ s', Rel K F σ ρ s' → Ext F.mine ρ ρ s.heap s'.heap → XRep K F e ρ v s' → Q () s') : wpAny (model K.prog K.w) F.A (noteFrame v F.env) Q E s := x.elim
theorem XRep.back {e : Exc} {ρ : List Addr} {v : Value} {s : Shared} {σ : S} {Q : Unit → Shared → Prop} {E : Value → Shared → Prop} (x : XRep K F e ρ v s) (_rel : Rel K F σ ρ s)
    (_h : ∀ s', Rel K F σ ρ s' → Ext F.mine ρ ρ s.heap s'.heap → XRep K F e ρ v s' → Q () s') : wpAny (model K.prog K.w) F.A (do
    if (← field v 1) == .none then unsupported "frame.own-activation:exception-without-traceback"
    setFlight v F.env.frame) Q E s := x.elim

theorem EO.noted {β : Type} {out : Res S β} {ρ : List Addr} {h : Heap} {v : Value} {s' : Shared} (x : EO K F out ρ h v s') :
    notedBy (model K.prog K.w) F.A F.env (EO K F out ρ h) v s' := by
  obtain ⟨e, σ', ρ', e1, rel, ext, x⟩ := x
  exact x.noted rel fun s'' rel' ext' x' => ⟨e, σ', ρ', e1, rel', ext.trans ext', x'⟩
theorem EO.back {β : Type} {out : Res S β} {ρ : List Addr} {h : Heap} {v : Value} {s' : Shared} (x : EO K F out ρ h v s') :
    cameBackBy (model K.prog K.w) F.A F.env (EO K F out ρ h) v s' := by
  obtain ⟨e, σ', ρ', e1, rel, ext, x⟩ := x
  exact x.back rel fun s'' rel' ext' x' => ⟨e, σ', ρ', e1, rel', ext.trans ext', x'⟩

/-! ### while -/
def whileM (c : M Bool) (b : M Fl) : Nat → M Fl
  | 0 => stuck
  | n + 1 => do
    if (← c) = true then
      match ← b with
      | .next => whileM c b n
      | .cont => whileM c b n
      | .brk => pure .next
      | .ret v => pure (.ret v)
    else pure .next

theorem simS_while {test : Expr} {body : List Stmt} {mt : M Bool} {mb : M Fl} (pos : Pos) (n : Nat) (ht : SimB K F test mt) (hb : SimSs K F body mb) : SimS K F (.While test body [] pos) (whileM mt mb n) := by
  intro σ ρ s rel
  refine Run.of_wp fun hne => ?_
  refine wpAny_While ?_
  refine codeAny_whileLoop (R := fun r s' => match r with | .ok f => QO K F (FlRep K) (whileM mt mb n σ) ρ s.heap f s' | .error e => cameBackBy (model K.prog K.w) F.A F.env (EO K F (whileM mt mb n σ) ρ s.heap) e s')
    (fun k s' => ∃ σ₁ ρ₁, Rel K F σ₁ ρ₁ s' ∧ whileM mt mb k σ₁ = whileM mt mb n σ ∧ Ext F.mine ρ ρ₁ s.heap s'.heap) ?_ n ⟨σ, ρ, rel, rfl, Ext.refl ..⟩
  generalize whileM mt mb n σ = out at hne ⊢
  rintro k s₁ ⟨σ₁, ρ₁, rel₁, e₁, x₁⟩
  have note : ∀ {v : Value} {s' : Shared}, EO K F out ρ s.heap v s' → notedBy (model K.prog K.w) F.A F.env (fun e s' => cameBackBy (model K.prog K.w) F.A F.env (EO K F out ρ s.heap) e s') v s' := by
    intro v s' hx
    obtain ⟨e, σ', ρ', e1, rel, ext, x⟩ := hx
    exact x.noted rel fun s'' rel' ext' x' => EO.back ⟨e, σ', ρ', e1, rel', ext.trans ext', x'⟩
  cases k with
  | zero => exact absurd e₁.symm hne
  | succ k =>
    have hc := ht σ₁ ρ₁ s₁ rel₁
    have e₂ : whileM mt mb (k + 1) σ₁ = (match mt σ₁ with
      | .ok true σ₂ => (match mb σ₂ with
        | .ok .next σ₃ => whileM mt mb k σ₃
        | .ok .cont σ₃ => whileM mt mb k σ₃
        | .ok .brk σ₃ => .ok .next σ₃
        | .ok (.ret v) σ₃ => .ok (.ret v) σ₃
        | .exc e σ₃ => .exc e σ₃
        | .stuck => .stuck)
      | .ok false σ₂ => .ok .next σ₂
      | .exc e σ₂ => .exc e σ₂
      | .stuck => .stuck) := by
      show (mt >>= _) σ₁ = _
      rw [M.bind_def]
      cases mt σ₁ with
      | stuck => rfl
      | exc e y => rfl
      | ok b y =>
        cases b with
        | false => rfl
        | true =>
          dsimp only
          rw [if_pos rfl, M.bind_def]
          cases mb y with
          | stuck => rfl
          | exc e z => rfl
          | ok f z => cases f <;> rfl
    rw [e₂] at e₁
    cases em : mt σ₁ with
    | stuck => rw [em] at e₁; exact absurd e₁.symm hne
    | exc e σ₂ =>
      rw [em] at hc e₁
      refine wpAny_mono (hc.wp (by simp)) (fun a s' hq => ?_) fun v s' he => ?_
      · obtain ⟨_, _, _, e, _⟩ := hq; cases e
      · obtain ⟨e', σ', ρ', e2, r1, r2, r3⟩ := he
        cases e2
        exact note ⟨e, σ₂, ρ', e₁.symm, r1, x₁.trans r2, r3⟩
    | ok b σ₂ =>
      rw [em] at hc e₁
      refine wpAny_mono (hc.wp (by simp)) (fun a s₂ hq => ?_) fun v s' he => ?_
      · obtain ⟨b', σ', ρ₂, e2, rel₂, x₂, rb⟩ := hq
        cases e2
        have : a = b := rb
        subst this
        have x02 := x₁.trans x₂
        cases a with
        | false =>
          simp only [Bool.false_eq_true, if_false]
          exact wpAny_execs_nil ⟨.next, σ₂, ρ₂, e₁.symm, rel₂, x02, rfl⟩
        | true =>
          simp only [if_true]
          dsimp only at e₁
          have hb' := hb σ₂ ρ₂ s₂ rel₂
          cases eb : mb σ₂ with
          | stuck => rw [eb] at e₁; exact absurd e₁.symm hne
          | exc e σ₃ =>
            rw [eb] at hb' e₁
            refine wpAny_mono (hb'.wp (by simp)) (fun a s' hq => ?_) fun v s' he => ?_
            · obtain ⟨_, _, _, e, _⟩ := hq; cases e
            · obtain ⟨e', σ', ρ', e2, r1, r2, r3⟩ := he
              cases e2
              exact note ⟨e, σ₃, ρ', e₁.symm, r1, x02.trans r2, r3⟩
          | ok f σ₃ =>
            rw [eb] at hb' e₁
            refine wpAny_mono (hb'.wp (by simp)) (fun wf s₃ hq => ?_) fun v s' he => ?_
            · obtain ⟨f', σ', ρ₃, e3, rel₃, x₃, rf⟩ := hq
              cases e3
              have x03 := x02.trans x₃
              cases f with
              | next => have : wf = .next := rf; subst this; exact ⟨k, Nat.lt_succ_self _, σ₃, ρ₃, rel₃, e₁, x03⟩
              | cont => have : wf = .cont := rf; subst this; exact ⟨k, Nat.lt_succ_self _, σ₃, ρ₃, rel₃, e₁, x03⟩
              | brk => have : wf = .brk := rf; subst this; exact ⟨.next, σ₃, ρ₃, e₁.symm, rel₃, x03, rfl⟩
              | ret v => obtain ⟨w, e, r⟩ := rf; subst e; exact ⟨.ret v, σ₃, ρ₃, e₁.symm, rel₃, x03, w, rfl, r⟩
            · obtain ⟨_, _, _, e, _⟩ := he; cases e
      · obtain ⟨_, _, _, e, _⟩ := he; cases e

/-! ### targets that are tuples -/
theorem kept_of_extBut {h h' : Heap} (x : Heap.ExtBut h.objs.size h h') : ∀ b o, h.get? b = some o → h'.get? b = some o :=
  fun b o e => x b o (Nat.ne_of_lt (Heap.lt_size e)) e

def SimTs (K : Glo) (F : Frm) (es : List Expr) (m : List V → M Unit) : Prop :=
  (∃ n, (assignEach es F.env).length = n ∧ n = es.length ∧ (assignEach es F.env).findIdx? (·.1) = none) ∧
  ∀ σ ρ s vs ws, Rel K F σ ρ s → RepL K s.heap ρ vs ws → vs.length = es.length → Run K F (assignInOrder ((assignEach es F.env).map (·.2)) ws) URep (m vs σ) ρ s
theorem simTs_nil : SimTs K F [] (fun _ => pure ()) := ⟨⟨0, rfl, rfl, rfl⟩, fun _ _ _ _ _ rel _ _ => Run.pure rel trivial⟩
def consT (m : V → M Unit) (ms : List V → M Unit) : List V → M Unit
  | v :: vs => do m v; ms vs
  | [] => stuck
theorem simTs_cons {e : Expr} {es : List Expr} {m : V → M Unit} {ms : List V → M Unit} (h : SimT K F e m) (hs : SimTs K F es ms)
    (hst : assignEach (e :: es) F.env = (false, assign e F.env) :: assignEach es F.env := by rfl) : SimTs K F (e :: es) (consT m ms) := by
  obtain ⟨⟨n, h1, h2, h3⟩, h4⟩ := hs
  refine ⟨⟨n + 1, by rw [hst]; simp [h1], by simp [h2], by rw [hst, List.findIdx?_cons]; simp [h3]⟩, ?_⟩
  intro σ ρ s vs ws rel r hl
  rw [hst]
  cases vs with
  | nil => exact Run.stuck
  | cons v vs =>
    obtain ⟨x, ws', rfl, r1, r2⟩ := RepL.cons_iff.mp r
    show Run K F (do holding ws' (assign e F.env x); assignInOrder ((assignEach es F.env).map (·.2)) ws') URep ((do m v; ms vs) σ) ρ s
    refine Run.bind (Run.holding (h σ ρ s v x rel r1)) fun _ σ₁ ρ₁ s₁ _ _ rel₁ x₁ _ => ?_
    exact h4 σ₁ ρ₁ s₁ vs ws' rel₁ (r2.mono x₁) (by simpa using hl)

def unpackT (n : Nat) (m : List V → M Unit) : V → M Unit
  | .tup vs => if vs.length = n then m vs else stuck
  | _ => stuck
theorem simT_tuple (fk : FOk F) {es : List Expr} {m : List V → M Unit} (k : Nat) (pos : Pos) (hs : SimTs K F es m) : SimT K F (.Tuple es k pos) (unpackT es.length m) := by
  obtain ⟨⟨n, h1, h2, h3⟩, h4⟩ := hs
  intro σ ρ s v w rel r
  cases v with
  | tup vs =>
    unfold unpackT
    dsimp only
    by_cases hl : vs.length = es.length
    · rw [if_pos hl]
      obtain ⟨_, a, ws, rfl, ht, rl⟩ := Rep.tup_iff.mp r
      refine Run.of_wp fun hne => ?_
      refine wpAny_assign_Tuple fk.hd (items := ws.toArray) ht (by rw [h1, h2, List.size_toArray, rl.length, hl]) h3 fun h' hx => ?_
      have hk := kept_of_extBut hx
      have rel' : Rel K F σ ρ { s with heap := h' } := rel.kept hk rfl rfl
      have x' : Ext F.mine ρ ρ s.heap h' := Ext.kept hk
      refine wpAny_mono ((h4 σ ρ { s with heap := h' } vs ws rel' (rl.mono x') hl).wp hne) ?_ ?_
      · rintro b s'' ⟨b', σ'', ρ', e, q1, q2, q3⟩; exact ⟨b', σ'', ρ', e, q1, x'.trans q2, q3⟩
      · rintro b s'' ⟨b', σ'', ρ', e, q1, q2, q3⟩; exact ⟨b', σ'', ρ', e, q1, x'.trans q2, q3⟩
    · rw [if_neg hl]; exact Run.stuck
  | _ => exact Run.stuck

end Mine


/-! part F5 -/
set_option autoImplicit false
set_option maxRecDepth 100000
set_option linter.unusedVariables false
open PySem PySem.W PyProof.Rows
namespace Mine

variable {K : Glo} {F : Frm}

section
variable {σ : S} {ρ ρ₀ : List Addr} {s s' : Shared} {mine : List Addr} {h h₀ h' : Heap} {a : Addr} {o : Obj}

/-- all stays but one hidden object (an iterator) -/
theorem Ext.but {vs : Array Value} (x : Ext mine ρ₀ ρ h₀ h) (h0 : h₀.get? a = none) (ho : h.get? a = some o) (hd : o.data = .fields vs) (hc : o.cls ≠ .type "range") (hx : Heap.ExtBut a h h') : Ext mine ρ₀ ρ h₀ h' where
  pre := x.pre
  alive := fun b o' e => by
    obtain ⟨o1, e1⟩ := x.alive b o' e
    exact ⟨o1, hx b o1 (by rintro rfl; rw [h0] at e; cases e) e1⟩
  new := x.new
  keep := fun b o' e n1 n2 => by
    obtain ⟨o1, e1, l1⟩ := x.keep b o' e n1 n2
    exact ⟨o1, hx b o1 (by rintro rfl; rw [h0] at e; cases e) e1, l1⟩
  froz := fun b o' e f => hx b o' (by rintro rfl; rw [h0] at e; cases e) (x.froz b o' e f)

theorem hid_ne_froz {vs : Array Value} {b : Addr} {o' : Obj} (ho : h.get? a = some o) (hd : o.data = .fields vs) (hc : o.cls ≠ .type "range") (e : h.get? b = some o') (f : Froz o') : b ≠ a := by
  rintro rfl
  rw [ho] at e; cases e
  rcases f with ⟨_, _, _, f⟩ | ⟨f, _⟩
  · rw [hd] at f; cases f
  · exact hc f
theorem hid_ne_list {vs : Array Value} {b : Addr} {it : Array Value} (ho : h.get? a = some o) (hd : o.data = .fields vs) (e : h.IsList b it) : b ≠ a := by
  rintro rfl
  obtain ⟨o', e', _, n, d⟩ := e
  rw [ho] at e'; cases e'; rw [hd] at d; cases d
theorem hid_ne_ns {vs : Array Value} {b : Addr} {m : Str → Option Value} (ho : h.get? a = some o) (hd : o.data = .fields vs) (e : h.Ns b m) : b ≠ a := by
  rintro rfl
  obtain ⟨o', es, ep, e', d, _⟩ := e
  rw [ho] at e'; cases e'; rw [hd] at d; cases d
theorem hid_ne_cell {vs : Array Value} {b : Addr} {v : Option Value} (ho : h.get? a = some o) (hd : o.data = .fields vs) (e : h.IsCell b v) : b ≠ a := by
  rintro rfl
  obtain ⟨o', e', d⟩ := e
  rw [ho] at e'; cases e'; rw [hd] at d; cases d

theorem GRel.but {st : Store} {vs : Array Value} (rel : GRel K st ρ s) (hb : K.base.get? a = none) (ho : s.heap.get? a = some o) (hd : o.data = .fields vs) (hc : o.cls ≠ .type "range") (hx : Heap.ExtBut a s.heap s'.heap)
    (hg : s'.gens = s.gens) (hos : s'.os = s.os) : GRel K st ρ s' where
  gens := hg.trans rel.gens
  os := hos.trans rel.os
  base := fun b o' e => hx b o' (by rintro rfl; rw [hb] at e; cases e) (rel.base b o' e)
  len := rel.len
  cell := fun l b c h1 h2 => by
    refine (rel.cell l b c h1 h2).mono (List.prefix_refl _) (fun d o' e f => hx d o' (hid_ne_froz ho hd hc e f) e) fun it n x => ?_
    have hne := hid_ne_list ho hd x.isList
    exact hx b _ hne x
  nodup := rel.nodup
  above := rel.above

theorem Rel.but {vs : Array Value} (rel : Rel K F σ ρ s) (hb : K.base.get? a = none) (hm : a ∉ F.mine) (ho : s.heap.get? a = some o) (hd : o.data = .fields vs) (hc : o.cls ≠ .type "range") (hx : Heap.ExtBut a s.heap s'.heap)
    (hg : s'.gens = s.gens) (hos : s'.os = s.os) : Rel K F σ ρ s' where
  toGRel := rel.toGRel.but hb ho hd hc hx hg hos
  vars := fun y u e => by
    obtain ⟨w, h1, h2⟩ := rel.vars y u e
    refine ⟨w, h1.mono (fun m n => ?_) (fun c u _ n => ?_), Rep.mono' (List.prefix_refl _) (fun d o' e f => hx d o' (hid_ne_froz ho hd hc e f) e) h2⟩
    · have hne := hid_ne_ns ho hd n
      obtain ⟨o', es, ep, e', r⟩ := n
      exact ⟨o', es, ep, hx _ _ hne e', r⟩
    · have hne := hid_ne_cell ho hd n
      obtain ⟨o', e', r⟩ := n
      exact ⟨o', hx _ _ hne e', r⟩
  loc := by
    obtain ⟨m, n⟩ := rel.loc
    have hne := hid_ne_ns ho hd n
    obtain ⟨o', es, ep, e', r⟩ := n
    exact ⟨m, o', es, ep, hx _ _ hne e', r⟩
  cels := fun y c e => by
    obtain ⟨v, n⟩ := rel.cels y c e
    have hne := hid_ne_cell ho hd n
    obtain ⟨o', e', r⟩ := n
    exact ⟨v, o', hx _ _ hne e', r⟩
  mineAbove := fun b hb' => by
    obtain ⟨h1, o', h2⟩ := rel.mineAbove b hb'
    exact ⟨h1, o', hx b o' (by rintro rfl; exact hm hb') h2⟩
  mineApart := rel.mineApart
  mineLoc := rel.mineLoc
end

/-! ### for -/
def ownedKinds : List String := ["enumerate", "zip", "dict_itemiterator", "dict_reverseitemiterator", "odict_iterator", "itertools.zip_longest", "itertools.pairwise"]
theorem owned_skip {target : Expr} {I : Addr} {v : Value} {s : Shared} {o : Obj} {T : String} {Q : Unit → Shared → Prop} {E : Value → Shared → Prop} (ho : s.heap.get? I = some o) (hc : o.cls = .type T)
    (hT : ownedKinds.contains T = false) (h : Q () s) : wpAny (model K.prog K.w) F.A (letOwnedTupleGo target (.ref I) v) Q E s := by
  have key : ∀ {vs : Array Value} {a : Addr}, o.data = .fields vs → (ownedKinds.contains T && vs[0]? == some (rawInt a)) = false := by
    intro vs a _; rw [hT]; rfl
  have main : wpAny (model K.prog K.w) F.A (do
    let (.ref r, .ref a) := (Value.ref I, v) | return
    let o ← load r
    match o.cls, o.data with
    | .type n, .fields vs =>
      if ownedKinds.contains n && vs[0]? == some (rawInt a) then
        rule "for.unpacks-the-owned-tuple"
        updateField r 0 .none
    | _, _ => pure ()) Q E s := by
    cases v with
    | ref b =>
      refine wpAny_bind (wpAny_load ho ?_)
      rw [hc]
      cases hd : o.data <;> first | exact wpAny_pure h | skip
      rename_i vs
      dsimp only
      rw [hT]
      exact wpAny_pure h
    | _ => exact wpAny_pure h
  cases target <;> first | exact main | exact wpAny_pure h

def forG (nxt : S → Nat → Option (Option V)) (t : V → M Unit) (b : M Fl) : Nat → Nat → M Fl
  | 0, _ => stuck
  | n + 1, i => fun σ => match nxt σ i with
    | none => .stuck
    | some none => .ok .next σ
    | some (some v) => (do
      t v
      match ← b with
      | .next => forG nxt t b n (i + 1)
      | .cont => forG nxt t b n (i + 1)
      | .brk => pure .next
      | .ret v => pure (.ret v)) σ

/-- what an iterator object does: Src i o says that o stands before its item i -/
def Iter (K : Glo) (F : Frm) (I : Addr) (Src : Nat → Obj → Prop) (nxt : S → Nat → Option (Option V)) (ρ₁ : List Addr) (h₁ : Heap) : Prop :=
  (∀ i o, Src i o → ∃ vs T, o.data = .fields vs ∧ o.cls = .type T ∧ ownedKinds.contains T = false ∧ T ≠ "range") ∧
  (∀ i o (s : Shared) (A : Around) (Q : Value → Shared → Prop) (E : Value → Shared → Prop), s.heap.get? I = some o → Src i o → Q (.ref I) s → wpAny (model K.prog K.w) A (pyIter (.ref I)) Q E s) ∧
  ∀ σ ρ s i o, Rel K F σ ρ s → Ext F.mine ρ₁ ρ h₁ s.heap → s.heap.get? I = some o → Src i o →
    match nxt σ i with
    | none => True
    | some none => wpAny (model K.prog K.w) F.A (pyNext (.ref I)) (fun r s' => r = none ∧ Heap.ExtBut I s.heap s'.heap ∧ s'.gens = s.gens ∧ s'.os = s.os) (fun _ _ => False) s
    | some (some v) => wpAny (model K.prog K.w) F.A (pyNext (.ref I)) (fun r s' => ∃ w, r = some w ∧ Heap.ExtBut I s.heap s'.heap ∧ s'.gens = s.gens ∧ s'.os = s.os ∧ (∃ o', s'.heap.get? I = some o' ∧ Src (i + 1) o') ∧ Rep K s'.heap ρ v w) (fun _ _ => False) s

theorem codeAny_forLoopT {prog : Program} {w : World} {A : Around} {s : Shared} {R : Result → Shared → Prop} {target : Expr} {it : Value} {body : List Stmt} {env : Env} (I : Nat → Shared → Prop)
    (turn : ∀ n s, I n s → wpAny (model prog w) A (pyNext it) (fun r s₁ => match r with
      | none => R (.ok .next) s₁
      | some v => wpAny (model prog w) A (letOwnedTupleGo target it v) (fun _ s₁' => wpAny (model prog w) A (assign target env v) (fun _ s₂ => wpAny (model prog w) A (execs body env) (fun f s₃ => match f with
          | .next | .cont => ∃ m, m < n ∧ I m s₃
          | .brk => R (.ok .next) s₃
          | .ret v => R (.ok (.ret v)) s₃) (notedBy (model prog w) A env fun e s' => R (.error e) s') s₂) (notedBy (model prog w) A env fun e s' => R (.error e) s') s₁') (notedBy (model prog w) A env fun e s' => R (.error e) s') s₁)
      (notedBy (model prog w) A env fun e s' => R (.error e) s') s)
    (n : Nat) (h : I n s) : codeAny (model prog w) A (.forLoop target it body [] env) R s := by
  refine codeAny_loop' rfl I (fun n s hI => ?_) n h
  show wpAny _ _ ((forTurn target it body [] env).onRaise (fun x => do noteFrame x env; theTreesLotGoes x)) _ _ s
  refine wpAny_noted ?_
  unfold forTurn
  refine wpAny_bind (wpAny_standAt (wpAny_bind (wpAny_onRaise (wpAny_mono (turn n s hI) (fun r s₁ h₁ => ?_) fun _ _ h' => wpAny_standAt h'))))
  cases r with
  | none => exact wpAny_pure (.inr ⟨rfl, codeAny_block (wpAny_execs_nil h₁)⟩)
  | some v =>
    refine wpAny_bind (wpAny_mono h₁ (fun _ s₁' h₁' => ?_) fun _ _ h' => h')
    refine wpAny_bind (wpAny_mono h₁' (fun _ s₂ h₂ => wpAny_bind (wpAny_mono h₂ (fun f s₃ h₃ => ?_) fun _ _ h' => h')) fun _ _ h' => h')
    cases f with
    | next => exact wpAny_pure (.inl ⟨rfl, h₃⟩)
    | cont => exact wpAny_pure (.inl ⟨rfl, h₃⟩)
    | brk => exact wpAny_pure h₃
    | ret v => exact wpAny_pure h₃

theorem forG_succ (nxt : S → Nat → Option (Option V)) (t : V → M Unit) (b : M Fl) (n i : Nat) (σ : S) : forG nxt t b (n + 1) i σ = (match nxt σ i with
    | none => .stuck
    | some none => .ok .next σ
    | some (some v) => match t v σ with
      | .stuck => .stuck
      | .exc e σ₂ => .exc e σ₂
      | .ok _ σ₂ => match b σ₂ with
        | .ok .next σ₃ => forG nxt t b n (i + 1) σ₃
        | .ok .cont σ₃ => forG nxt t b n (i + 1) σ₃
        | .ok .brk σ₃ => .ok .next σ₃
        | .ok (.ret v) σ₃ => .ok (.ret v) σ₃
        | .exc e σ₃ => .exc e σ₃
        | .stuck => .stuck) := by
  rw [forG]
  dsimp only
  cases nxt σ i with
  | none => rfl
  | some x =>
    cases x with
    | none => rfl
    | some v =>
      dsimp only
      rw [M.bind_def]
      cases t v σ with
      | stuck => rfl
      | exc e y => rfl
      | ok u y =>
        dsimp only
        rw [M.bind_def]
        cases b y with
        | stuck => rfl
        | exc e z => rfl
        | ok f z => cases f <;> rfl

theorem run_forLoop {target : Expr} {body : List Stmt} {t : V → M Unit} {b : M Fl} (ht : SimT K F target t) (hb : SimSs K F body b) {I : Addr} {Src : Nat → Obj → Prop} {nxt : S → Nat → Option (Option V)}
    {σ : S} {ρ ρ₀ : List Addr} {s : Shared} {h₀ : Heap} {o : Obj} (hI : Iter K F I Src nxt ρ₀ h₀) (rel : Rel K F σ ρ s) (x₀ : Ext F.mine ρ₀ ρ h₀ s.heap) (h0 : h₀.get? I = none) (hbase : K.base.get? I = none)
    (hmi : I ∉ F.mine) (hρ : I ∉ ρ) (ho : s.heap.get? I = some o) (hs : Src 0 o) (n : Nat) (hne : forG nxt t b n 0 σ ≠ .stuck) :
    wpAny (model K.prog K.w) F.A (runOwn (.forLoop target (.ref I) body [] F.env) F.env) (QO K F (FlRep K) (forG nxt t b n 0 σ) ρ₀ h₀) (EO K F (forG nxt t b n 0 σ) ρ₀ h₀) s := by
  refine wpAny_runOwn ?_
  refine codeAny_forLoopT (R := fun r s' => match r with | .ok f => QO K F (FlRep K) (forG nxt t b n 0 σ) ρ₀ h₀ f s' | .error e => cameBackBy (model K.prog K.w) F.A F.env (EO K F (forG nxt t b n 0 σ) ρ₀ h₀) e s')
    (fun k s' => ∃ σ₁ ρ' i o, Rel K F σ₁ ρ' s' ∧ forG nxt t b k i σ₁ = forG nxt t b n 0 σ ∧ Ext F.mine ρ₀ ρ' h₀ s'.heap ∧ I ∉ ρ' ∧ s'.heap.get? I = some o ∧ Src i o) ?_ n
    ⟨σ, ρ, 0, o, rel, rfl, x₀, hρ, ho, hs⟩
  generalize forG nxt t b n 0 σ = out at hne ⊢
  rintro k s₁ ⟨σ₁, ρ', i, o₁, rel₁, e₁, x₁, hρ₁, ho₁, hs₁⟩
  have note : ∀ {v : Value} {s' : Shared}, EO K F out ρ₀ h₀ v s' → notedBy (model K.prog K.w) F.A F.env (fun e s' => cameBackBy (model K.prog K.w) F.A F.env (EO K F out ρ₀ h₀) e s') v s' := by
    intro v s' hx
    obtain ⟨e, σ', ρ', e1, rel, ext, x⟩ := hx
    exact x.noted rel fun s'' rel' ext' x' => EO.back ⟨e, σ', ρ', e1, rel', ext.trans ext', x'⟩
  cases k with
  | zero => exact absurd e₁.symm hne
  | succ k =>
    rw [forG_succ] at e₁
    obtain ⟨vs₁, T₁, hd₁, hc₁, hT₁, hr₁⟩ := hI.1 i o₁ hs₁
    have hc₁' : o₁.cls ≠ .type "range" := by rw [hc₁]; exact fun e => hr₁ (by cases e; rfl)
    have hstep := hI.2.2 σ₁ ρ' s₁ i o₁ rel₁ x₁ ho₁ hs₁
    cases en : nxt σ₁ i with
    | none => rw [en] at e₁; exact absurd e₁.symm hne
    | some ov =>
      rw [en] at hstep e₁
      cases ov with
      | none =>
        refine wpAny_mono hstep (fun r s₂ h => ?_) fun _ _ h => h.elim
        obtain ⟨rfl, hx, hg, hos⟩ := h
        exact ⟨.next, σ₁, ρ', e₁.symm, rel₁.but hbase hmi ho₁ hd₁ hc₁' hx hg hos, x₁.but h0 ho₁ hd₁ hc₁' hx, rfl⟩
      | some v =>
        refine wpAny_mono hstep (fun r s₂ h => ?_) fun _ _ h => h.elim
        obtain ⟨w, rfl, hx, hg, hos, ⟨o₂, ho₂, hs₂⟩, rv⟩ := h
        have rel₂ := rel₁.but hbase hmi ho₁ hd₁ hc₁' hx hg hos
        have x₂ := x₁.but h0 ho₁ hd₁ hc₁' hx
        obtain ⟨vs₂, T₂, hd₂, hc₂, hT₂, hr₂⟩ := hI.1 (i + 1) o₂ hs₂
        refine owned_skip ho₂ hc₂ hT₂ ?_
        have hta := ht σ₁ ρ' s₂ v w rel₂ rv
        dsimp only at e₁
        cases et : t v σ₁ with
        | stuck => rw [et] at e₁; exact absurd e₁.symm hne
        | exc e σ₃ =>
          rw [et] at hta e₁
          refine wpAny_mono (hta.wp (by simp)) (fun a s' hq => ?_) fun v s' he => ?_
          · obtain ⟨_, _, _, e, _⟩ := hq; cases e
          · obtain ⟨e', σ', ρ'', e2, r1, r2, r3⟩ := he
            cases e2
            exact note ⟨e, σ₃, ρ'', e₁.symm, r1, x₂.trans r2, r3⟩
        | ok u σ₃ =>
          rw [et] at hta e₁
          refine wpAny_mono (hta.wp (by simp)) (fun a s₃ hq => ?_) fun v s' he => by obtain ⟨_, _, _, e, _⟩ := he; cases e
          obtain ⟨_, σ', ρ₃, e2, rel₃, x₃, _⟩ := hq
          cases e2
          dsimp only at e₁
          have hb' := hb σ₃ ρ₃ s₃ rel₃
          have x03 := x₂.trans x₃
          have hold : ∀ {ρ₂ ρ₃ : List Addr} {g g' : Heap} {oo : Obj}, Ext F.mine ρ₂ ρ₃ g g' → I ∉ ρ₂ → g.get? I = some oo → (∃ vs, oo.data = .fields vs) → g'.get? I = some oo ∧ I ∉ ρ₃ := by
            intro ρ₂ ρ₃ g g' oo x hn e ⟨vs, d⟩
            obtain ⟨o', e', l⟩ := x.keep I oo e hn hmi
            refine ⟨by rw [e', l.same (fun es n q => by rw [d] at q; cases q)], fun hin => ?_⟩
            rcases x.new I hin with q | q
            · exact hn q
            · rw [e] at q; cases q
          obtain ⟨ho₃, hρ₃⟩ := hold x₃ hρ₁ ho₂ ⟨_, hd₂⟩
          cases eb : b σ₃ with
          | stuck => rw [eb] at e₁; exact absurd e₁.symm hne
          | exc e σ₄ =>
            rw [eb] at hb' e₁
            refine wpAny_mono (hb'.wp (by simp)) (fun a s' hq => ?_) fun v s' he => ?_
            · obtain ⟨_, _, _, e, _⟩ := hq; cases e
            · obtain ⟨e', σ', ρ'', e2, r1, r2, r3⟩ := he
              cases e2
              exact note ⟨e, σ₄, ρ'', e₁.symm, r1, x03.trans r2, r3⟩
          | ok f σ₄ =>
            rw [eb] at hb' e₁
            refine wpAny_mono (hb'.wp (by simp)) (fun wf s₄ hq => ?_) fun v s' he => by obtain ⟨_, _, _, e, _⟩ := he; cases e
            obtain ⟨f', σ', ρ₄, e3, rel₄, x₄, rf⟩ := hq
            cases e3
            have x04 := x03.trans x₄
            obtain ⟨ho₄, hρ₄⟩ := hold x₄ hρ₃ ho₃ ⟨_, hd₂⟩
            cases f with
            | next => have : wf = .next := rf; subst this; exact ⟨k, Nat.lt_succ_self _, σ₄, ρ₄, i + 1, o₂, rel₄, e₁, x04, hρ₄, ho₄, hs₂⟩
            | cont => have : wf = .cont := rf; subst this; exact ⟨k, Nat.lt_succ_self _, σ₄, ρ₄, i + 1, o₂, rel₄, e₁, x04, hρ₄, ho₄, hs₂⟩
            | brk => have : wf = .brk := rf; subst this; exact ⟨.next, σ₄, ρ₄, e₁.symm, rel₄, x04, rfl⟩
            | ret v => obtain ⟨w, e, r⟩ := rf; subst e; exact ⟨.ret v, σ₄, ρ₄, e₁.symm, rel₄, x04, w, rfl, r⟩

end Mine


/-! part F6 -/
set_option autoImplicit false
set_option maxRecDepth 100000
set_option linter.unusedVariables false
open PySem PySem.W PyProof.Rows
namespace Mine

variable {K : Glo} {F : Frm}

theorem QO.up {α β : Type} {R : Heap → List Addr → β → α → Prop} {out : Res S β} {ρ ρ' : List Addr} {h h' : Heap} {a : α} {s : Shared} (x : Ext F.mine ρ ρ' h h') (q : QO K F R out ρ' h' a s) : QO K F R out ρ h a s := by
  obtain ⟨b, σ, ρ'', e, r1, r2, r3⟩ := q; exact ⟨b, σ, ρ'', e, r1, x.trans r2, r3⟩
theorem EO.up {β : Type} {out : Res S β} {ρ ρ' : List Addr} {h h' : Heap} {a : Value} {s : Shared} (x : Ext F.mine ρ ρ' h h') (q : EO K F out ρ' h' a s) : EO K F out ρ h a s := by
  obtain ⟨b, σ, ρ'', e, r1, r2, r3⟩ := q; exact ⟨b, σ, ρ'', e, r1, x.trans r2, r3⟩

theorem Run.bindWp {α β δ : Type} {t : Sem α} {R : Heap → List Addr → β → α → Prop} {m : M β} {k : β → M δ} {σ : S} {ρ : List Addr} {s : Shared} {P : α → Shared → Prop}
    (h1 : Run K F t R (m σ) ρ s) (hne : (m >>= k) σ ≠ .stuck)
    (h2 : ∀ b σ' ρ' s' a, m σ = .ok b σ' → (m >>= k) σ = k b σ' → Rel K F σ' ρ' s' → Ext F.mine ρ ρ' s.heap s'.heap → R s'.heap ρ' b a → P a s') :
    wpAny (model K.prog K.w) F.A t P (EO K F ((m >>= k) σ) ρ s.heap) s := by
  cases e : m σ with
  | stuck => exact absurd (by rw [M.bind_def, e]) hne
  | ok b σ' =>
    rw [e] at h1
    have e2 : (m >>= k) σ = k b σ' := M.bind_ok e
    exact wpAny_mono h1 (fun a s' ⟨ρ', r1, r2, r3⟩ => h2 b σ' ρ' s' a e e2 r1 r2 r3) fun _ _ h => h.elim
  | exc x σ' =>
    rw [e] at h1
    have e2 : (m >>= k) σ = .exc x σ' := by rw [M.bind_def, e]
    exact wpAny_mono h1 (fun _ _ h => h.elim) fun v s' ⟨ρ', r1, r2, r3⟩ => ⟨x, σ', ρ', e2, r1, r2, r3⟩

/-! ### what a call of a def does -/
def Room (A : Around) (n : Nat) : Prop := A.handled = none ∧ A.depth + n < recursionLimit ∧ A.units + 1000 + 10 * n < cLine
theorem Room.deeper {A : Around} {n : Nat} (r : Room A (n + 1)) (env : Env) : Room (A.deeper env) n := by
  obtain ⟨h1, h2, h3⟩ := r
  refine ⟨h1, ?_, ?_⟩
  · show A.depth + 1 + n < _; (first | lia | omega)
  · show A.units + 3 + 1000 + 10 * n < _; (first | lia | omega)
theorem Room.le {A : Around} {n k : Nat} (r : Room A n) (h : k ≤ n) : Room A k := ⟨r.1, by have := r.2.1; (first | lia | omega), by have := r.2.2; (first | lia | omega)⟩

abbrev Fun := List V → Store → Res Store V

/-- an exception that has left a frame -/
def XOut (_K : Glo) (_A : Around) (_e : Exc) (_ρ : List Addr) (_v : Value) (_s : Shared) : Prop := False

def CallRes (K : Glo) (A : Around) (out : Res Store V) (ρ : List Addr) (h : Heap) : Result → Shared → Prop := fun r s' =>
  (∃ v st' w ρ', out = .ok v st' ∧ r = .ok (.ret w) ∧ GRel K st' ρ' s' ∧ Ext [] ρ ρ' h s'.heap ∧ Rep K s'.heap ρ' v w) ∨
  (∃ e st' w ρ', out = .exc e st' ∧ r = .error w ∧ GRel K st' ρ' s' ∧ Ext [] ρ ρ' h s'.heap ∧ XOut K A e ρ' w s')

def SimF (K : Glo) (lvl : Nat) (f : Value) (g : Fun) : Prop :=
  ∀ A, Room A lvl → ∀ st ρ s, GRel K st ρ s → ∀ vs ws, RepL K s.heap ρ vs ws → g vs st ≠ .stuck →
    codeAny (model K.prog K.w) A (.call f ⟨ws, []⟩) (CallRes K A (g vs st) ρ s.heap) s

def callF (g : Fun) (vs : List V) : M V := fun σ => match g vs σ.st with
  | .ok v st => .ok v { σ with st := st }
  | .exc e st => .exc e { σ with st := st }
  | .stuck => .stuck

theorem ext_of_nil {mine ρ ρ' : List Addr} {h h' : Heap} (x : Ext [] ρ ρ' h h') : Ext mine ρ ρ' h h' := ⟨x.pre, x.alive, x.new, fun b o e n1 _ => x.keep b o e n1 (by simp), x.froz⟩

/-- the caller's frame behind a call -/
theorem Rel.called {σ : S} {ρ ρ' : List Addr} {s s' : Shared} {st' : Store} (rel : Rel K F σ ρ s) (g : GRel K st' ρ' s') (x : Ext [] ρ ρ' s.heap s'.heap) (fk : FOk F) : Rel K F { σ with st := st' } ρ' s' := by
  have hns : ∀ {a : Addr} {m : Str → Option Value}, s.heap.Ns a m → a ∉ ρ → s'.heap.Ns a m := by
    intro a m n hn
    obtain ⟨o, es, ep, e, d, k, f⟩ := n
    obtain ⟨o', e', l⟩ := x.keep a o e hn (by simp)
    exact ⟨o', es, ep, e', l.data.1.trans d, k, f⟩
  have hnl : F.env.locals ∉ ρ := rel.mineApart _ rel.mineLoc
  have hcell : ∀ {c : Addr} {v : Option Value}, s.heap.IsCell c v → s'.heap.IsCell c v := by
    intro c v n
    have hn : c ∉ ρ := fun hc => by
      obtain ⟨it, hl⟩ := rel.toGRel.alive hc
      exact list_ne_cell hl n rfl
    obtain ⟨o, e, d⟩ := n
    obtain ⟨o', e', l⟩ := x.keep c o e hn (by simp)
    exact ⟨o', e', l.data.1.trans d⟩
  refine { toGRel := g, vars := ?_, loc := ?_, cels := ?_, mineAbove := ?_, mineApart := ?_, mineLoc := rel.mineLoc }
  · intro y v e
    obtain ⟨w, h1, h2⟩ := rel.vars y v e
    exact ⟨w, h1.mono (fun m n => hns n hnl) (fun c u _ n => hcell n), h2.mono x⟩
  · obtain ⟨m, n⟩ := rel.loc; exact ⟨m, hns n hnl⟩
  · intro y c e
    obtain ⟨v, n⟩ := rel.cels y c e; exact ⟨v, hcell n⟩
  · intro a ha
    obtain ⟨h1, o, h2⟩ := rel.mineAbove a ha
    obtain ⟨o', h3⟩ := x.alive a o h2
    exact ⟨h1, o', h3⟩
  · intro a ha hb
    rcases x.new a hb with h1 | h1
    · exact rel.mineApart a ha h1
    · obtain ⟨_, o, h2⟩ := rel.mineAbove a ha
      rw [h1] at h2; cases h2

theorem XOut.toX {A : Around} {e : Exc} {ρ : List Addr} {v : Value} {s : Shared} (x : XOut K A e ρ v s) : XRep K F e ρ v s := x.elim

theorem run_call (fk : FOk F) {f : Value} {g : Fun} {lvl : Nat} (hf : SimF K lvl f g) (hr : Room F.A lvl) {σ : S} {ρ : List Addr} {s : Shared} {vs : List V} {ws : List Value} (rel : Rel K F σ ρ s) (r : RepL K s.heap ρ vs ws) :
    Run K F (PySem.call f ws) (Rep K) (callF g vs σ) ρ s := by
  refine Run.of_wp fun hne => ?_
  have hne' : g vs σ.st ≠ .stuck := by
    intro e; apply hne; unfold callF; rw [e]
  refine wpAny_call (codeAny_mono (hf F.A hr σ.st ρ s rel.toGRel vs ws r hne') fun r s' h => ?_)
  rcases h with ⟨v, st', w, ρ', e, rfl, gr, x, rv⟩ | ⟨e, st', w, ρ', e1, rfl, gr, x, rv⟩
  · exact ⟨v, { σ with st := st' }, ρ', by unfold callF; rw [e], rel.called gr x fk, ext_of_nil x, rv⟩
  · exact ⟨e, { σ with st := st' }, ρ', by unfold callF; rw [e1], rel.called gr x fk, ext_of_nil x, rv.toX⟩

/-! ### a def's body -/
def bindP : List String → List V → String → Option V
  | x :: xs, v :: vs => fun y => if y = x then some v else bindP xs vs y
  | _, _ => fun _ => none
def funM (params : List String) (body : M Fl) : Fun := fun vs st =>
  if vs.length = params.length then
    match body ⟨st, bindP params vs⟩ with
    | .ok (.ret v) σ' => .ok v σ'.st
    | .ok _ σ' => .ok .none σ'.st
    | .exc e σ' => .exc e σ'.st
    | .stuck => .stuck
  else .stuck

theorem bindL_mem {kindOf : Str → Option NameKind} : ∀ (binds : List (Str × Value)) (m : Str → Option Value) {x : Str} {w : Value}, (binds.map (·.1)).Nodup → kindOf x = some .local →
    ((x, w) ∈ binds → bindL kindOf binds m x = some w) ∧ (x ∉ binds.map (·.1) → bindL kindOf binds m x = m x)
  | [], m, x, w, _, _ => ⟨fun h => by simp at h, fun _ => rfl⟩
  | (n, v) :: r, m, x, w, hn, hk => by
    obtain ⟨n1, n2⟩ := List.nodup_cons.mp hn
    refine ⟨fun h => ?_, fun h => ?_⟩
    · rcases List.mem_cons.mp h with h | h
      · cases h
        unfold bindL
        rw [(bindL_mem r _ (w := v) n2 hk).2 n1, if_pos hk]; simp
      · unfold bindL
        exact (bindL_mem r _ n2 hk).1 h
    · have h1 : x ≠ n := fun e => h (by simp [e])
      have h2 : x ∉ r.map (·.1) := fun e => h (List.mem_cons_of_mem _ e)
      unfold bindL
      rw [(bindL_mem r _ (w := w) n2 hk).2 h2]
      split
      · exact if_neg h1
      · rfl
theorem bindC_mem {kindOf : Str → Option NameKind} : ∀ (binds : List (Str × Value)) (m : Str → Option Value) {x : Str} {w : Value}, (binds.map (·.1)).Nodup → kindOf x ≠ some .local →
    ((x, w) ∈ binds → bindC kindOf binds m x = some w) ∧ (x ∉ binds.map (·.1) → bindC kindOf binds m x = m x)
  | [], m, x, w, _, _ => ⟨fun h => by simp at h, fun _ => rfl⟩
  | (n, v) :: r, m, x, w, hn, hk => by
    obtain ⟨n1, n2⟩ := List.nodup_cons.mp hn
    refine ⟨fun h => ?_, fun h => ?_⟩
    · rcases List.mem_cons.mp h with h | h
      · cases h
        unfold bindC
        rw [(bindC_mem r _ (w := v) n2 hk).2 n1, if_neg hk]; simp
      · unfold bindC
        exact (bindC_mem r _ n2 hk).1 h
    · have h1 : x ≠ n := fun e => h (by simp [e])
      have h2 : x ∉ r.map (·.1) := fun e => h (List.mem_cons_of_mem _ e)
      unfold bindC
      rw [(bindC_mem r _ (w := w) n2 hk).2 h2]
      split
      · rfl
      · exact if_neg h1

theorem bindP_mem : ∀ {ps : List String} {vs : List V} {ws : List Value} {h : Heap} {ρ : List Addr} {x : String} {v : V}, RepL K h ρ vs ws → bindP ps vs x = some v →
    ∃ w, (Str.ofString x, w) ∈ (ps.map Str.ofString).zip ws ∧ Rep K h ρ v w
  | [], vs, ws, h, ρ, x, v, _, e => by simp [bindP] at e
  | p :: ps, [], ws, h, ρ, x, v, _, e => by simp [bindP] at e
  | p :: ps, u :: vs, ws, h, ρ, x, v, r, e => by
    obtain ⟨w, ws', rfl, r1, r2⟩ := RepL.cons_iff.mp r
    unfold bindP at e
    by_cases hx : x = p
    · rw [if_pos hx] at e; cases e; subst hx
      exact ⟨w, by simp, r1⟩
    · rw [if_neg hx] at e
      obtain ⟨w', h1, h2⟩ := bindP_mem r2 e
      exact ⟨w', by simp only [List.map_cons, List.zip_cons_cons]; exact List.mem_cons_of_mem _ h1, h2⟩

/-- the def as it lies in the base -/
structure DefAt (K : Glo) (fa : Addr) (fd : FuncData) (body : List Stmt) : Prop where
  obj : ∃ o, K.base.get? fa = some o ∧ o.data = .func fd
  code : K.base.CodeRec fd.code fd.qualname
  body : fd.body = .stmts body
  clo : fd.closure = []
  glob : fd.globals = mainGlobals
  blt : fd.builtins = builtinsNs
  co : fd.scope.isCoroutine = false
  gen : fd.scope.isGenerator = false
  kind : fd.scope.kind = .function

theorem leave_x {e : Exc} {ρ : List Addr} {v : Value} {s : Shared} {σ : S} {A : Around} {Q : Unit → Shared → Prop} {E : Value → Shared → Prop} (x : XRep K F e ρ v s) :
    wpAny (model K.prog K.w) F.A (leaving F.env v) Q E s := x.elim

def cellAddrs (cells : List (Str × Addr)) : List Addr := cells.filterMap fun x => cells.lookup x.1
theorem mem_cellAddrs {cells : List (Str × Addr)} {c : Addr} (h : c ∈ cellAddrs cells) : ∃ n, cells.lookup n = some c := by
  obtain ⟨x, _, e⟩ := List.mem_filterMap.mp h; exact ⟨x.1, e⟩
theorem cellAddrs_of {cells : List (Str × Addr)} {x : Str} {c : Addr} (h : cells.lookup x = some c) : c ∈ cellAddrs cells :=
  List.mem_filterMap.mpr ⟨(x, c), mem_of_lookup h, h⟩
theorem cells_apart : ∀ (names : List (Str × NameKind)) (n : Nat) (acc : List (Str × Addr)), (acc.Pairwise fun x y => x.2 ≠ y.2) → (∀ p ∈ acc, p.2 < n) → ((cellsFrom n names acc).Pairwise fun x y => x.2 ≠ y.2)
  | [], n, acc, h, _ => h
  | (nm, k) :: r, n, acc, h, hlt => by
    unfold cellsFrom
    split
    · refine cells_apart r (n + 1) _ (List.pairwise_cons.mpr ⟨fun p hp => ?_, h⟩) ?_
      · exact fun e => absurd (hlt p hp) (by rw [← e]; exact Nat.lt_irrefl _)
      · intro p hp
        rcases List.mem_cons.mp hp with rfl | hp
        · exact Nat.lt_succ_self _
        · exact Nat.lt_succ_of_lt (hlt p hp)
    · exact cells_apart r n acc h hlt
theorem cell_inj {names : List (Str × NameKind)} {n : Nat} {x : Str} {c : Addr} (h : (cellsFrom n names []).lookup x = some c) : ∀ y, (cellsFrom n names []).lookup y = some c → y = x :=
  fun y hy => name_of_addr (cells_apart names n [] List.Pairwise.nil (by simp)) (mem_of_lookup hy) (mem_of_lookup h)

def defFrm (fd : FuncData) (L fa : Addr) (A : Around) : Frm := ⟨callEnvC fd L fa, A, L :: cellAddrs (cellsFrom (L + 1) fd.scope.names [])⟩

theorem simF_def {lvl : Nat} {fa : Addr} {fd : FuncData} {body : List Stmt} {params : List String} {mb : M Fl} (hd : DefAt K fa fd body)
    (hnd : params.Nodup)
    (hbind : ∀ ws : List Value, ws.length = params.length → bindArgs fd ⟨ws, []⟩ = pure ((params.map Str.ofString).zip ws))
    (hkind : ∀ n, ∀ x ∈ params, fd.scope.names.lookup (Str.ofString x) = some .local ∨ (fd.scope.names.lookup (Str.ofString x) = some .cell ∧ ((cellsFrom n fd.scope.names []).lookup (Str.ofString x)).isSome = true))
    (hb : ∀ L A, Room A lvl → SimSs K (defFrm fd L fa A) body mb) : SimF K (lvl + 1) (.ref fa) (funM params mb) := by
  intro A hroom st ρ s g vs ws r hne
  have hl : vs.length = params.length := by
    by_cases h : vs.length = params.length
    · exact h
    · exact absurd (by unfold funM; rw [if_neg h]) hne
  have hwl : ws.length = params.length := r.length.trans hl
  obtain ⟨o, ho, hdat⟩ := hd.obj
  have hmem : ∀ x ∈ (params.map Str.ofString).zip ws, ∃ p ∈ params, x.1 = Str.ofString p := by
    intro x hx
    have := (List.of_mem_zip (a := x.1) (b := x.2) hx).1
    obtain ⟨p, hp, e⟩ := List.mem_map.mp this
    exact ⟨p, hp, e.symm⟩
  have hnd' : (((params.map Str.ofString).zip ws).map (·.1)).Nodup := by
    rw [List.map_fst_zip (by simp [hwl])]
    have inj : ∀ l : List String, l.Nodup → (l.map Str.ofString).Nodup := by
      intro l
      induction l with
      | nil => intro _; exact List.nodup_nil
      | cons a l ih =>
        intro hn
        obtain ⟨a1, a2⟩ := List.nodup_cons.mp hn
        refine List.nodup_cons.mpr ⟨fun hm => ?_, ih a2⟩
        obtain ⟨b, hb, e⟩ := List.mem_map.mp hm
        exact a1 (ofString_inj e ▸ hb)
    exact inj params hnd
  refine codeAny_call_cells (fd := fd) (binds := (params.map Str.ofString).zip ws) (by have := hroom.2.1; (first | lia | omega)) (g.base fa o ho) hdat (K.top.nolimit.keeps g.base) (hd.code.keeps g.base) hd.body (hbind ws hwl) hd.clo ?_ ?_ hd.co hd.gen hd.kind
  · intro x hx
    obtain ⟨p, hp, e⟩ := hmem x hx
    rw [e]; exact hkind _ p hp
  · intro s₁ X
    have hkeep := X.toInCall.keep
    obtain ⟨h₁, tk, rfl, _⟩ := X.done
    have hLfresh := X.toInCall.fresh
    have fresh : ∀ {a : Addr}, s.heap.objs.size ≤ a → s.heap.get? a = none := fun ha => Heap.get?_none_of_le ha
    have fbase : ∀ {a : Addr}, s.heap.get? a = none → K.base.get? a = none := by
      intro a ha
      cases e : K.base.get? a with
      | none => rfl
      | some o' => have := g.base a o' e; rw [ha] at this; cases this
    have hmineFresh : ∀ a ∈ (defFrm fd s.heap.objs.size fa (A.deeper (callEnvC fd s.heap.objs.size fa))).mine, s.heap.get? a = none ∧ ∃ o', h₁.get? a = some o' := by
      intro a ha
      rcases List.mem_cons.mp ha with rfl | ha
      · obtain ⟨o', _, _, e, _⟩ := X.toInCall.ns
        exact ⟨fresh hLfresh, o', e⟩
      · obtain ⟨n, hn⟩ := mem_cellAddrs ha
        have h1 := X.above n a (mem_of_lookup hn)
        obtain ⟨o', e, _⟩ := X.cell n a hn
        exact ⟨fresh (Nat.le_of_lt (Nat.lt_of_le_of_lt hLfresh h1)), o', e⟩
    have rel : Rel K (defFrm fd s.heap.objs.size fa (A.deeper (callEnvC fd s.heap.objs.size fa))) ⟨st, bindP params vs⟩ ρ { s with heap := h₁, toks := tk } := by
      refine { toGRel := g.kept hkeep rfl rfl, vars := ?_, loc := ⟨_, X.toInCall.ns⟩, cels := fun x c e => ⟨_, X.cell x c e⟩, mineAbove := ?_, mineApart := ?_, mineLoc := List.mem_cons_self }
      · intro x v e
        obtain ⟨w, h1, h2⟩ := bindP_mem r e
        refine ⟨w, ?_, Rep.mono' (List.prefix_refl _) (kept_tup hkeep) h2⟩
        obtain ⟨p, hp, ep⟩ := hmem _ h1
        have hx : x = p := ofString_inj ep
        subst hx
        rcases hkind (s.heap.objs.size + 1) x hp with hk | ⟨hk, hk2⟩
        · exact .inl ⟨hk, _, X.toInCall.ns, (bindL_mem _ _ hnd' hk).1 h1⟩
        · obtain ⟨c, hc⟩ := Option.isSome_iff_exists.mp hk2
          refine .inr ⟨.inl hk, c, hc, ?_⟩
          have hnl : (callEnvC fd s.heap.objs.size fa).kindOf (Str.ofString x) ≠ some .local := by
            show fd.scope.names.lookup (Str.ofString x) ≠ some .local
            rw [hk]; decide
          have := X.cell _ c hc
          rw [(bindC_mem _ _ hnd' hnl).1 h1] at this
          exact this
      · intro a ha
        obtain ⟨h1, h2⟩ := hmineFresh a ha
        exact ⟨fbase h1, h2⟩
      · intro a ha hb
        obtain ⟨h1, _⟩ := hmineFresh a ha
        obtain ⟨it, o', e, _⟩ := g.alive hb
        rw [h1] at e; cases e
    have hrun := hb s.heap.objs.size (A.deeper (callEnvC fd s.heap.objs.size fa)) (hroom.deeper _) _ ρ _ rel
    have up : ∀ {ρ' : List Addr} {h' : Heap}, Ext (defFrm fd s.heap.objs.size fa (A.deeper (callEnvC fd s.heap.objs.size fa))).mine ρ ρ' h₁ h' → Ext [] ρ ρ' s.heap h' := by
      intro ρ' h' x
      refine ⟨x.pre, fun b o' e => x.alive b o' (hkeep b o' e), fun a ha => ?_, fun b o' e n1 _ => x.keep b o' (hkeep b o' e) n1 (fun hm => ?_), fun b o' e f => x.froz b o' (hkeep b o' e) f⟩
      · rcases x.new a ha with h1 | h1
        · exact .inl h1
        · refine .inr ?_
          cases e : s.heap.get? a with
          | none => rfl
          | some o' => have := hkeep a o' e; rw [h1] at this; cases this
      · have := (hmineFresh b hm).1
        rw [e] at this; cases this
    have hout : funM params mb vs st = (match mb ⟨st, bindP params vs⟩ with
      | .ok (.ret v) σ' => .ok v σ'.st
      | .ok _ σ' => .ok .none σ'.st
      | .exc e σ' => .exc e σ'.st
      | .stuck => .stuck) := by unfold funM; rw [if_pos hl]
    cases em : mb ⟨st, bindP params vs⟩ with
    | stuck => rw [em] at hout; exact absurd hout hne
    | exc e σ' =>
      rw [em] at hrun
      exact wpAny_mono hrun (fun _ _ h => h.elim) fun v s' ⟨ρ', _, _, x⟩ => leave_x (K := K) (F := defFrm fd s.heap.objs.size fa (A.deeper (callEnvC fd s.heap.objs.size fa))) (σ := σ') (A := A) x
    | ok f σ' =>
      rw [em] at hrun hout
      refine wpAny_mono hrun (fun wf s' ⟨ρ', rel', x', rf⟩ => ?_) fun _ _ h => h.elim
      cases f with
      | ret v =>
        obtain ⟨w, rfl, rw'⟩ := rf
        exact .inl ⟨v, σ'.st, w, ρ', hout, rfl, rel'.toGRel, up x', rw'⟩
      | next => have : wf = .next := rf; subst this; exact .inl ⟨.none, σ'.st, .none, ρ', hout, rfl, rel'.toGRel, up x', Rep.none⟩
      | brk => have : wf = .brk := rf; subst this; exact .inl ⟨.none, σ'.st, .none, ρ', hout, rfl, rel'.toGRel, up x', Rep.none⟩
      | cont => have : wf = .cont := rf; subst this; exact .inl ⟨.none, σ'.st, .none, ρ', hout, rfl, rel'.toGRel, up x', Rep.none⟩

end Mine


/-! part F7 -/
set_option autoImplicit false
set_option maxRecDepth 100000
set_option linter.unusedVariables false
open PySem PySem.W PyProof.Rows
namespace Mine

variable {K : Glo} {F : Frm}

theorem wp_global {A : Around} {s : Shared} {σ : S} {ρ : List Addr} {x : Str} {pos : Pos} {v : Value} {Q : Value → Shared → Prop} {E : Value → Shared → Prop} (fk : FOk F) (rel : Rel K F σ ρ s) (hx : F.env.kindOf x = some .globalImplicit)
    (hg : K.mg x = some v) (h : Q v s) (hd : (x == ("__debug__" : Str)) = false := by decide) : wpAny (model K.prog K.w) A (eval (.Name x pos) F.env) Q E s :=
  Calls.Name_function_global fk.kind hx (Calls.loadGlobal_global (mg := K.mg) (by rw [fk.glob]; exact K.top.g.keeps rel.base) hg h) hd

theorem wp_builtin {A : Around} {s : Shared} {σ : S} {ρ : List Addr} {x : Str} {pos : Pos} {v : Value} {Q : Value → Shared → Prop} {E : Value → Shared → Prop} (fk : FOk F) (rel : Rel K F σ ρ s) (hx : F.env.kindOf x = some .globalImplicit)
    (hm : K.mg x = none) (hb : bootBuiltins x = some v) (h : Q v s) (hn : x ≠ "__name__" := by decide) (hd : (x == ("__debug__" : Str)) = false := by decide) : wpAny (model K.prog K.w) A (eval (.Name x pos) F.env) Q E s :=
  Calls.Name_function_global fk.kind hx (Calls.loadGlobal_builtin (mg := K.mg) (mb := K.mb) (by rw [fk.glob]; exact K.top.g.keeps rel.base) hm (by rw [fk.blt]; exact K.top.b.keeps rel.base) ((K.top.builtins x hn).trans hb) h) hd

theorem backTo_any (pos : Pos) (l : List (Bool × Sem Value)) : (backTo pos l).any (·.1) = l.any (·.1) := by
  unfold backTo; rw [List.any_map]; rfl

theorem wp_evalArgs {A : Around} {M : Model} {E : Value → Shared → Prop} {s : Shared} {f : Value} {args : List (Bool × Sem Value)} {Q : Args → Shared → Prop} (hpl : args.any (·.1) = false)
    (h : wpAny M A (spliced args) (fun vs s' => Q ⟨vs, []⟩ s') E s) : wpAny M A (evalArgs f true args []) Q E s := by
  cases args with
  | nil =>
    unfold evalArgs
    show wpAny M A (spliced [] >>= _) Q E s
    refine wpAny_bind (wpAny_mono h (fun vs s' h' => wpAny_bind (wpAny_pure (wpAny_holding ?_))) fun _ _ e => e)
    exact wpAny_bind (wpAny_pure (wpAny_bind (wpAny_pure (wpAny_pure h'))))
  | cons a r =>
    obtain ⟨b, x⟩ := a
    have : b = false := by
      rw [List.any_cons] at hpl
      cases b <;> simp_all
    subst this
    exact Calls.evalArgs_plain h

theorem eval_CallName (x : Str) (np pos : Pos) (args : List Expr) (env : Env) : eval (.Call (.Name x np) args [] pos) env = (do callWith pos (← eval (.Name x np) env) [] (backTo pos (starEach args env)) []) := rfl

/-- a call of a def of the text -/
theorem simE_callDef (fk : FOk F) {x : String} {np pos : Pos} {args : List Expr} {ms : M (List V)} {fa : Addr} {fd : FuncData} {body : List Stmt} {g : Fun} {lvl : Nat}
    (hx : F.env.kindOf (Str.ofString x) = some .globalImplicit) (hg : K.mg (Str.ofString x) = some (.ref fa)) (hd : DefAt K fa fd body) (hf : SimF K lvl (.ref fa) g) (hr : Room F.A lvl) (hs : SimEs K F args ms)
    (hpl : (starEach args F.env).any (·.1) = false := by rfl) (hdb : (Str.ofString x == ("__debug__" : Str)) = false := by decide) :
    SimE K F (.Call (.Name (Str.ofString x) np) args [] pos) (do let vs ← ms; callF g vs) := by
  intro σ ρ s rel
  refine Run.of_wp fun hne => ?_
  rw [eval_CallName]
  refine wpAny_bind (wp_global fk rel hx hg ?_ hdb)
  obtain ⟨o, ho, hdat⟩ := hd.obj
  refine Calls.callWith_function (o := o) (fd := fd) (wp_evalArgs (by rw [backTo_any]; exact hpl) ?_)
  refine Run.bindWp (hs pos σ ρ s rel) hne fun vs σ' ρ' s' ws e1 e2 rel' x' rv => ⟨⟨rel'.base _ _ ho, hdat⟩, ?_⟩
  rw [e2] at hne ⊢
  exact wpAny_mono ((run_call fk hf hr rel' rv).wp hne) (fun _ _ q => q.up x') fun _ _ q => q.up x'

/-- a built-in, or a type, called -/
def BuiltOk (K : Glo) (f : Value) (g : List V → M V) : Prop :=
  ∀ F : Frm, FOk F → ∀ σ ρ s vs ws, Rel K F σ ρ s → RepL K s.heap ρ vs ws → Run K F (PySem.call f ws) (Rep K) (g vs σ) ρ s

def isBT : Value → Bool
  | .builtin _ => true
  | .type _ => true
  | _ => false

theorem wp_callWith {A : Around} {M : Model} {E : Value → Shared → Prop} {s : Shared} {pos : Pos} {f : Value} {first : List Value} {args : List (Bool × Sem Value)} {Q : Value → Shared → Prop} (hf : isBT f = true) (hpl : args.any (·.1) = false)
    (h : wpAny M A (spliced args) (fun vs s₁ => wpAny M A (PySem.call f (first ++ vs)) Q E s₁) E s) : wpAny M A (callWith pos f first args []) Q E s := by
  cases f with
  | builtin id => exact Calls.callWith_builtin hpl (wp_evalArgs hpl h)
  | type T => exact PyProof.Rows.callWith_type hpl (wp_evalArgs hpl h)
  | _ => cases hf

theorem simE_callB (fk : FOk F) {x : String} {np pos : Pos} {args : List Expr} {ms : M (List V)} {f : Value} {g : List V → M V} (hf : isBT f = true)
    (hx : F.env.kindOf (Str.ofString x) = some .globalImplicit) (hm : K.mg (Str.ofString x) = none) (hb : bootBuiltins (Str.ofString x) = some f) (ho : BuiltOk K f g) (hs : SimEs K F args ms)
    (hpl : (starEach args F.env).any (·.1) = false := by rfl) (hn : Str.ofString x ≠ "__name__" := by decide) (hdb : (Str.ofString x == ("__debug__" : Str)) = false := by decide) :
    SimE K F (.Call (.Name (Str.ofString x) np) args [] pos) (do let vs ← ms; g vs) := by
  intro σ ρ s rel
  refine Run.of_wp fun hne => ?_
  rw [eval_CallName]
  refine wpAny_bind (wp_builtin fk rel hx hm hb ?_ hn hdb)
  refine wp_callWith hf (by rw [backTo_any]; exact hpl) ?_
  refine Run.bindWp (hs pos σ ρ s rel) hne fun vs σ' ρ' s' ws e1 e2 rel' x' rv => ?_
  rw [e2] at hne ⊢
  exact wpAny_mono ((ho F fk σ' ρ' s' vs ws rel' rv).wp hne) (fun _ _ q => q.up x') fun _ _ q => q.up x'

/-! ### methods of lists -/
def chkL : V → M Unit
  | .obj l => fun σ => match σ.st[l]? with
    | some (.lst _) => .ok () σ
    | _ => .stuck
  | _ => fun _ => .stuck

theorem chkL_ok {σ : S} {l : Nat} {us : List V} (h : σ.st[l]? = some (.lst us)) : chkL (.obj l) σ = .ok () σ := by
  show (match σ.st[l]? with | some (.lst _) => Res.ok () σ | _ => .stuck) = _
  rw [h]

def MethOk (K : Glo) (id : String) (g : V → List V → M V) : Prop :=
  ∀ F : Frm, FOk F → ∀ σ ρ s o wo vs ws, Rel K F σ ρ s → Rep K s.heap ρ o wo → RepL K s.heap ρ vs ws → Run K F (PySem.call (.builtin id) (wo :: ws)) (Rep K) (g o vs σ) ρ s

theorem Rel.list {σ : S} {ρ : List Addr} {s : Shared} {l : Nat} {w : Value} {vs : List V} (rel : Rel K F σ ρ s) (hr : Rep K s.heap ρ (.obj l) w) (hs : σ.st[l]? = some (.lst vs)) :
    ∃ a ws n, w = .ref a ∧ ρ[l]? = some a ∧ IsL s.heap a ws.toArray n ∧ RepL K s.heap ρ vs ws ∧ vs.length ≤ 1000000 := by
  obtain ⟨a, e, rfl⟩ := Rep.obj_iff.mp hr
  obtain ⟨h0, ws, n, h1, h2⟩ := rel.cell l a _ e hs
  exact ⟨a, ws, n, rfl, e, h1, h2, h0⟩

theorem simE_meth (fk : FOk F) {o : Expr} {name : String} {id : String} {apos pos : Pos} {args : List Expr} {mo : M V} {ms : M (List V)} {g : V → List V → M V} (hsl : Slot "list" (Str.ofString name) id)
    (hty : typeOf (.builtin id) = pure (.type "method_descriptor")) (ho : SimE K F o mo) (hs : SimEs K F args ms) (hm : MethOk K id g) {pl : Sem Bool}
    (he : eval (.Call (.Attribute o (Str.ofString name) apos) args [] pos) F.env = (do
      let ov ← eval o F.env
      standAt apos.atName
      let (f, first) ← holding [ov] (getMethod ov (Str.ofString name) pl)
      callWith pos f first (backTo pos (starEach args F.env)) []) := by rfl)
    (hpl : (starEach args F.env).any (·.1) = false := by rfl) :
    SimE K F (.Call (.Attribute o (Str.ofString name) apos) args [] pos) (do let ov ← mo; chkL ov; let vs ← ms; g ov vs) := by
  intro σ ρ s rel
  refine Run.of_wp fun hne => ?_
  refine MethodCall_ (pl := pl) ?_ he
  refine Run.bindWp (ho σ ρ s rel) hne fun ov σ₁ ρ₁ s₁ wo e1 e2 rel₁ x₁ ro => ?_
  rw [e2] at hne ⊢
  cases ov with
  | obj l =>
    cases hc : σ₁.st[l]? with
    | none => exact absurd (by rw [M.bind_def]; simp only [chkL, hc]) hne
    | some c =>
      cases c with
      | lst us =>
        obtain ⟨a, ws, n, rfl, hρ, hL, hr, _⟩ := rel₁.list ro hc
        have e3 : (chkL (.obj l) >>= fun _ => (ms >>= fun vs => g (.obj l) vs)) σ₁ = (ms >>= fun vs => g (.obj l) vs) σ₁ := M.bind_ok (chkL_ok hc)
        rw [e3] at hne ⊢
        refine getMethod_list_of hsl hty hL.isList ⟨_, hL, rfl⟩ ?_
        refine wp_callWith rfl (by rw [backTo_any]; exact hpl) ?_
        refine wpAny_mono (Run.bindWp (P := fun ws' s₂ => wpAny (model K.prog K.w) F.A (PySem.call (.builtin id) (.ref a :: ws')) (QO K F (Rep K) ((ms >>= fun vs => g (.obj l) vs) σ₁) ρ₁ s₁.heap) (EO K F ((ms >>= fun vs => g (.obj l) vs) σ₁) ρ₁ s₁.heap) s₂) (hs pos σ₁ ρ₁ s₁ rel₁) hne ?_) (fun _ _ q => ?_) (fun _ _ q => q.up x₁)
        · intro vs σ₂ ρ₂ s₂ ws₂ e4 e5 rel₂ x₂ rv
          rw [e5] at hne ⊢
          exact wpAny_mono ((hm F fk σ₂ ρ₂ s₂ (.obj l) (.ref a) vs ws₂ rel₂ (ro.mono x₂) rv).wp hne) (fun _ _ q => q.up x₂) fun _ _ q => q.up x₂
        · exact wpAny_mono q (fun _ _ q => q.up x₁) fun _ _ q => q.up x₁
  | _ => exact absurd (by rw [M.bind_def]; simp only [chkL]) hne

end Mine


/-! part F8 -/
set_option autoImplicit false
set_option maxRecDepth 100000
set_option linter.unusedVariables false
open PySem PySem.W PyProof.Rows
namespace Mine

variable {K : Glo} {F : Frm}

/-! ### items -/
def ix (n : Nat) (k : Int) : Option Nat := if 0 ≤ k then (if k.toNat < n then some k.toNat else none) else (if -(n : Int) ≤ k then some (k + n).toNat else none)

theorem ix_seq {n j : Nat} {k : Int} (h : ix n k = some j) : seqIndex? k n = some j := by
  unfold ix at h
  unfold seqIndex?
  split at h
  · split at h
    · cases h
      have h1 : ¬ k < 0 := by (first | lia | omega)
      simp only [h1, if_false]
      rw [if_pos (by simp only [Bool.and_eq_true, decide_eq_true_eq]; (first | lia | omega))]
    · cases h
  · split at h
    · cases h
      have h1 : k < 0 := by (first | lia | omega)
      simp only [h1, if_true]
      rw [if_pos (by simp only [Bool.and_eq_true, decide_eq_true_eq]; (first | lia | omega))]
    · cases h
theorem ix_range {n j : Nat} {k : Int} (h : ix n k = some j) (hn : n ≤ 1000000) : -1000000 ≤ k ∧ k < 1000000 := by
  unfold ix at h
  split at h
  · split at h
    · (first | lia | omega)
    · cases h
  · split at h
    · (first | lia | omega)
    · cases h

def getI : V → V → M V
  | .obj l, .int k => fun σ => match σ.st[l]? with
    | some (.lst vs) => match ix vs.length k with
      | some j => match vs[j]? with
        | some v => .ok v σ
        | none => .stuck
      | none => .stuck
    | _ => .stuck
  | .tup vs, .int k => fun σ => match ix vs.length k with
    | some j => match vs[j]? with
      | some v => .ok v σ
      | none => .stuck
    | none => .stuck
  | _, _ => fun _ => .stuck

theorem wp_getItem_list {A : Around} {s : Shared} {a : Addr} {ws : List Value} {k : Int} {t : Tok} {j : Nat} {x : Value} {Q : Value → Shared → Prop} {E : Value → Shared → Prop} (hl : s.heap.IsList a ws.toArray) (hn : ws.length ≤ 1000000)
    (hk : ix ws.length k = some j) (hx : ws[j]? = some x) (h : Q x s) : wpAny (model K.prog K.w) A (getItem (.ref a) (.int k t)) Q E s := by
  have hr := ix_range hk hn
  by_cases h0 : 0 ≤ k
  · refine wpAny_getItem_list hl h0 (by (first | lia | omega)) ?_ h
    unfold ix at hk
    rw [if_pos h0] at hk
    split at hk
    · cases hk; simpa using hx
    · cases hk
  · unfold ix at hk
    rw [if_neg h0] at hk
    split at hk
    · cases hk
      refine wpAny_getItem_list_neg hl (by (first | lia | omega)) (by simpa using ‹_›) (by (first | lia | omega)) ?_ h
      simpa using hx
    · cases hk

theorem run_getItem (fk : FOk F) {σ : S} {ρ : List Addr} {s : Shared} {a b : V} {wa wb : Value} (rel : Rel K F σ ρ s) (ra : Rep K s.heap ρ a wa) (rb : Rep K s.heap ρ b wb) {value slice : Expr}
    (hs : ∀ o i, subscripted slice false o i = PySem.operate [o, i] (getItem o i)) : Run K F (subscriptTail value slice wa wb) (Rep K) (getI a b σ) ρ s := by
  cases a with
  | obj l =>
    cases b with
    | int k =>
      obtain ⟨t, rfl⟩ := Rep.int_iff.mp rb
      unfold getI
      dsimp only
      cases hc : σ.st[l]? with
      | none => exact Run.stuck
      | some c =>
        cases c with
        | lst vs =>
          dsimp only
          obtain ⟨ad, ws, n, rfl, hρ, hL, hr, hn⟩ := rel.list ra hc
          cases hi : ix vs.length k with
          | none => exact Run.stuck
          | some j =>
            dsimp only
            cases hv : vs[j]? with
            | none => exact Run.stuck
            | some v =>
              obtain ⟨w, hw, rw'⟩ := hr.get? hv
              refine Run.ok (tail_any hL.isList.typeIs slot_list_getitem.lookup (wp_getItem_list hL.isList (by rw [hr.length]; exact hn) (by rw [hr.length]; exact hi) hw ?_) (hs _ _))
              exact ⟨ρ, rel, Ext.refl .., rw'⟩
    | _ => exact Run.stuck
  | tup vs =>
    cases b with
    | int k =>
      obtain ⟨t, rfl⟩ := Rep.int_iff.mp rb
      obtain ⟨hn, ad, ws, rfl, ht, hr⟩ := Rep.tup_iff.mp ra
      unfold getI
      dsimp only
      cases hi : ix vs.length k with
      | none => exact Run.stuck
      | some j =>
        dsimp only
        cases hv : vs[j]? with
        | none => exact Run.stuck
        | some v =>
          obtain ⟨w, hw, rw'⟩ := hr.get? hv
          have hrg := ix_range hi hn
          refine Run.ok (tail_any ht.typeIs slot_tuple_getitem.lookup (PyProof.Rows.getItem_tuple ht (by (first | lia | omega)) (by (first | lia | omega)) (j := j) (by rw [List.size_toArray, hr.length]; exact ix_seq hi) (by simpa using hw) ?_) (hs _ _))
          exact ⟨ρ, rel, Ext.refl .., rw'⟩
    | _ => exact Run.stuck
  | _ => cases b <;> exact Run.stuck

theorem simE_sub (fk : FOk F) {value slice : Expr} {mv mi : M V} (pos : Pos) (hv : SimE K F value mv) (hi : SimE K F slice mi)
    (hs : ∀ o i, subscripted slice false o i = PySem.operate [o, i] (getItem o i) := by intro _ _; rfl) :
    SimE K F (.Subscript value slice pos) (do let o ← mv; let i ← mi; getI o i) := by
  intro σ ρ s rel
  rw [eval_Subscript]
  refine Run.bind (hv σ ρ s rel) fun a σ₁ ρ₁ s₁ wa _ rel₁ x₁ ra => ?_
  refine Run.bind (Run.holding (hi σ₁ ρ₁ s₁ rel₁)) fun b σ₂ ρ₂ s₂ wb _ rel₂ x₂ rb => ?_
  exact Run.standAt (run_getItem fk rel₂ (ra.mono x₂) rb hs)

/-! ### an item is stored -/
theorem wp_setItem_list {A : Around} {s : Shared} {a : Addr} {items : Array Value} {n : Nat} {k : Int} {t : Tok} {v : Value} {Q : Unit → Shared → Prop} {E : Value → Shared → Prop} (hl : IsL s.heap a items n)
    (h0 : 0 ≤ k) (hfit : k < 2 ^ 63) (hn : k < items.size)
    (hQ : Q () { s with heap := s.heap.update a (Obj.mapSeq (·.setIfInBounds k.toNat v)) }) :
    wpAny (model K.prog K.w) A (setItem (.ref a) (.int k t) v) Q E s := by
  have hT : s.TypeIs (.ref a) "list" := ⟨_, hl, rfl⟩
  unfold setItem
  try with_reducible refine wpAny_holding ?_
  first | refine wpAny_bind (wpAny_pure ?_) | skip
  refine wpAny_bind (wpAny_sequenceKey hT (by decide) ?_)
  refine wpAny_bind (wpAny_callSpecial?_slot (name := Str.ofString "__setitem__") hT slot_list_setitem
    (wpAny_call_entry slot_list_setitem hT entry_list_setitem ?_ (args_list_setitem _ _ _)))
  show wpAny _ _ (Builtin.List.listSubscript? (.int k t) >>= _) _ _ s
  refine wpAny_bind (wpAny_listSubscript_int (fitsIndex_of h0 hfit) ?_)
  clear hfit
  obtain ⟨j, rfl⟩ := Int.eq_ofNat_of_zero_le h0
  have hj : j < items.size := by (first | lia | omega)
  have hx' : items[j]? = some items[j] := Array.getElem?_eq_getElem hj
  show wpAny _ _ ((seqItemAt a j >>= fun r => pure (r.map (j, ·))) >>= _) _ _ s
  refine wpAny_bind (wpAny_bind (wpAny_seqItemAt hl rfl (wpAny_pure ?_)))
  rw [hx']
  show wpAny _ _ (setSeqItemAt a j v >>= _) _ _ s
  refine wpAny_bind (wpAny_setSeqItemAt hl rfl ?_)
  first
    | exact wpAny_bind (wpAny_pure (wpAny_pure ⟨.none, rfl, wpAny_pure hQ⟩))
    | exact wpAny_pure ⟨.none, rfl, wpAny_pure hQ⟩

def setI : V → V → V → M Unit
  | .obj l, .int k, v => fun σ => match σ.st[l]? with
    | some (.lst vs) => if l ≠ 0 ∧ 0 ≤ k ∧ k.toNat < vs.length then .ok () { σ with st := σ.st.set l (.lst (vs.set k.toNat v)) } else .stuck
    | _ => .stuck
  | _, _, _ => fun _ => .stuck

theorem run_setItem (fk : FOk F) {σ : S} {ρ : List Addr} {s : Shared} {a b v : V} {wa wb wv : Value} (rel : Rel K F σ ρ s) (ra : Rep K s.heap ρ a wa) (rb : Rep K s.heap ρ b wb) (rv : Rep K s.heap ρ v wv) :
    Run K F (setItem wa wb wv) URep (setI a b v σ) ρ s := by
  cases a with
  | obj l =>
    cases b with
    | int k =>
      obtain ⟨t, rfl⟩ := Rep.int_iff.mp rb
      unfold setI
      dsimp only
      cases hc : σ.st[l]? with
      | none => exact Run.stuck
      | some c =>
        cases c with
        | lst vs =>
          dsimp only
          obtain ⟨ad, ws, n, rfl, hρ, hL, hr, hn⟩ := rel.list ra hc
          by_cases hk : l ≠ 0 ∧ 0 ≤ k ∧ k.toNat < vs.length
          · rw [if_pos hk]
            obtain ⟨j, rfl⟩ := Int.eq_ofNat_of_zero_le hk.2.1
            have hj : j < vs.length := by simpa using hk.2.2
            refine Run.ok (wp_setItem_list hL hk.2.1 (by (first | lia | omega)) (by rw [List.size_toArray, hr.length]; (first | lia | omega)) ?_)
            obtain ⟨rel', x'⟩ := rel.upd (s' := { s with heap := s.heap.update ad (Obj.mapSeq (·.setIfInBounds j wv)) }) (vs := vs.set j v) (ws := ws.set j wv) (n := n) hρ hk.1 (Heap.SameBut.update ..) (by
              have := hL.update (·.setIfInBounds j wv)
              simpa using this) (hr.set j rv) (by simpa using hn) rfl rfl
            exact ⟨ρ, rel', x', trivial⟩
          · rw [if_neg hk]; exact Run.stuck
    | _ => exact Run.stuck
  | _ => exact Run.stuck

theorem assign_Sub (o i : Expr) (pos : Pos) (env : Env) (w : Value) : assign (.Subscript o i pos) env w = (do
    let ov ← holding [w] (eval o env)
    let iv ← holding [w, ov] (eval i env)
    standAt pos
    holding [w, ov, iv] (setItem ov iv w)
    release (match i with | .Slice _ _ none _ => [iv, w, ov] | _ => [w, ov, iv]) []) := rfl
theorem simT_sub (fk : FOk F) {o i : Expr} {mo mi : M V} (pos : Pos) (ho : SimE K F o mo) (hi : SimE K F i mi) : SimT K F (.Subscript o i pos) (fun v => do let a ← mo; let b ← mi; setI a b v) := by
  intro σ ρ s v w rel rv
  rw [assign_Sub]
  refine Run.bind (Run.holding (ho σ ρ s rel)) fun a σ₁ ρ₁ s₁ wa _ rel₁ x₁ ra => ?_
  refine Run.bind (Run.holding (hi σ₁ ρ₁ s₁ rel₁)) fun b σ₂ ρ₂ s₂ wb _ rel₂ x₂ rb => ?_
  refine Run.standAt ?_
  have key := run_setItem fk rel₂ (ra.mono x₂) rb ((rv.mono x₁).mono x₂)
  have e : setI a b v σ₂ = (setI a b v >>= fun u => (pure u : M Unit)) σ₂ := by
    rw [M.bind_def]; cases setI a b v σ₂ <;> rfl
  rw [e]
  refine Run.bind (Run.holding key) fun u σ₃ ρ₃ s₃ _ _ rel₃ x₃ _ => ?_
  exact Run.ok (wpAny_release ⟨ρ₃, rel₃, Ext.refl .., trivial⟩)

end Mine


/-! part F9 -/
set_option autoImplicit false
set_option maxRecDepth 100000
set_option linter.unusedVariables false
open PySem PySem.W PyProof.Rows
namespace Mine

variable {K : Glo} {F : Frm}

/-! ### values as data -/
def mapO {α β : Type} (f : α → Option β) : List α → Option (List β)
  | [] => some []
  | a :: r => match f a, mapO f r with
    | some b, some bs => some (b :: bs)
    | _, _ => none

def toD (st : Store) : Nat → V → Option PyData
  | 0, _ => none
  | n + 1, v => match v with
    | .none => some .none
    | .bool b => some (.bool b)
    | .int i => some (.int i)
    | .str x => if PySem.PyData.strOk x then some (.str x) else none
    | .tup vs => (mapO (toD st n) vs).map .tuple
    | .obj l => match st[l]? with
      | some (.lst vs) => (mapO (toD st n) vs).map .list
      | _ => none
    | _ => none

theorem mapO_cons {α β : Type} {f : α → Option β} {a : α} {r : List α} {l : List β} (h : mapO f (a :: r) = some l) : ∃ b bs, f a = some b ∧ mapO f r = some bs ∧ l = b :: bs := by
  unfold mapO at h
  cases h1 : f a with
  | none => rw [h1] at h; cases h
  | some b =>
    cases h2 : mapO f r with
    | none => rw [h1, h2] at h; cases h
    | some bs => rw [h1, h2] at h; cases h; exact ⟨b, bs, rfl, rfl, rfl⟩

theorem reads_all {h : Heap} {ρ : List Addr} {f : V → Option PyData} {n : Nat}
    (hf : ∀ v w d, f v = some d → Rep K h ρ v w → ∃ as, Reads h w d as ∧ d.canLay0 = true ∧ d.depth ≤ n) : ∀ (vs : List V) (ws : List Value) (ds : List PyData), mapO f vs = some ds → RepL K h ρ vs ws →
    ∃ as, ReadsAll h ws ds as ∧ PyData.canLayAll0 ds = true ∧ PyData.depthAll ds ≤ n
  | [], ws, ds, e, r => by
    unfold mapO at e; cases e
    rw [RepL.nil_iff.mp r]
    exact ⟨[], .nil, rfl, Nat.zero_le _⟩
  | v :: vs, ws, ds, e, r => by
    obtain ⟨b, bs, e1, e2, rfl⟩ := mapO_cons e
    obtain ⟨w, ws', rfl, r1, r2⟩ := RepL.cons_iff.mp r
    obtain ⟨as, q1, q2, q3⟩ := hf v w b e1 r1
    obtain ⟨as', p1, p2, p3⟩ := reads_all hf vs ws' bs e2 r2
    refine ⟨as ++ as', .cons q1 p1, ?_, ?_⟩
    · simp [PyData.canLayAll0, q2, p2]
    · simp [PyData.depthAll]; (first | lia | omega)

theorem toD_reads {st : Store} {ρ : List Addr} {s : Shared} (g : GRel K st ρ s) : ∀ (n : Nat) (v : V) (w : Value) (d : PyData), toD st n v = some d → Rep K s.heap ρ v w →
    ∃ as, Reads s.heap w d as ∧ d.canLay0 = true ∧ d.depth ≤ n
  | 0, v, w, d, e, _ => by simp [toD] at e
  | n + 1, v, w, d, e, r => by
    cases v with
    | none => simp only [toD] at e; cases e; rw [Rep.none_iff.mp r]; exact ⟨[], .none, rfl, Nat.zero_le _⟩
    | bool b => simp only [toD] at e; cases e; rw [Rep.bool_iff.mp r]; exact ⟨[], .bool b, rfl, Nat.zero_le _⟩
    | int i => simp only [toD] at e; cases e; obtain ⟨t, rfl⟩ := Rep.int_iff.mp r; exact ⟨[], .int i t, rfl, Nat.zero_le _⟩
    | str x =>
      simp only [toD] at e
      split at e
      · cases e; obtain ⟨t, rfl⟩ := Rep.str_iff.mp r; exact ⟨[], .str x t, by assumption, Nat.zero_le _⟩
      · cases e
    | tup vs =>
      simp only [toD] at e
      cases em : mapO (toD st n) vs with
      | none => rw [em] at e; cases e
      | some ds =>
        rw [em] at e; cases e
        obtain ⟨_, a, ws, rfl, ⟨o, h1, h2, k, h3⟩, rl⟩ := Rep.tup_iff.mp r
        obtain ⟨as, q1, q2, q3⟩ := reads_all (K := K) (n := n) (fun v w d e r => toD_reads g n v w d e r) vs ws ds em rl
        exact ⟨as, .tuple h1 h2 h3 (by simpa using q1), q2, by simp [PyData.depth]; (first | lia | omega)⟩
    | obj l =>
      simp only [toD] at e
      cases hc : st[l]? with
      | none => rw [hc] at e; cases e
      | some c =>
        cases c with
        | lst vs =>
          rw [hc] at e
          dsimp only at e
          cases em : mapO (toD st n) vs with
          | none => rw [em] at e; cases e
          | some ds =>
            rw [em] at e; cases e
            obtain ⟨a, hρ, rfl⟩ := Rep.obj_iff.mp r
            obtain ⟨_, ws, k, hL, rl⟩ := g.cell l a _ hρ hc
            obtain ⟨as, q1, q2, q3⟩ := reads_all (K := K) (n := n) (fun v w d e r => toD_reads g n v w d e r) vs ws ds em rl
            exact ⟨a :: as, .list hL rfl rfl (by simpa using q1), q2, by simp [PyData.depth]; (first | lia | omega)⟩
    | fn x => simp [toD] at e
    | rng a b c => simp [toD] at e

def eqV (a b : V) : M V := fun σ => match toD σ.st 6 a, toD σ.st 6 b with
  | some d, some d' => .ok (.bool (PyData.eqv d d')) σ
  | _, _ => .stuck
def neV (a b : V) : M V := fun σ => match toD σ.st 6 a, toD σ.st 6 b with
  | some d, some d' => .ok (.bool (!PyData.eqv d d')) σ
  | _, _ => .stuck

theorem cmp_eq : CmpOk K .Eq eqV := by
  intro F fk σ ρ s a b wa wb rel ra rb
  unfold eqV
  cases e1 : toD σ.st 6 a with
  | none => exact Run.stuck
  | some d =>
    cases e2 : toD σ.st 6 b with
    | none => exact Run.stuck
    | some d' =>
      obtain ⟨as, r1, c1, p1⟩ := toD_reads rel.toGRel 6 a wa d e1 ra
      obtain ⟨bs, r2, c2, p2⟩ := toD_reads rel.toGRel 6 b wb d' e2 rb
      exact Run.ok (SeqAt.compareEq_reads r1 r2 c1 c2 (by have := fk.units; (first | lia | omega)) ⟨ρ, rel, Ext.refl .., Rep.bool _⟩)
theorem cmp_ne : CmpOk K .NotEq neV := by
  intro F fk σ ρ s a b wa wb rel ra rb
  unfold neV
  cases e1 : toD σ.st 6 a with
  | none => exact Run.stuck
  | some d =>
    cases e2 : toD σ.st 6 b with
    | none => exact Run.stuck
    | some d' =>
      obtain ⟨as, r1, c1, p1⟩ := toD_reads rel.toGRel 6 a wa d e1 ra
      obtain ⟨bs, r2, c2, p2⟩ := toD_reads rel.toGRel 6 b wb d' e2 rb
      exact Run.ok (SeqAt.compareNe_reads r1 r2 c1 c2 (by have := fk.units; (first | lia | omega)) ⟨ρ, rel, Ext.refl .., Rep.bool _⟩)

/-! ### is, is not, in, not in -/
def V.isNone : V → Bool
  | .none => true
  | _ => false
def isV : V → V → M V
  | v, .none => fun σ => .ok (.bool v.isNone) σ
  | .obj l, .obj k => fun σ => .ok (.bool (decide (l = k))) σ
  | _, _ => fun _ => .stuck
def isNotV : V → V → M V
  | v, .none => fun σ => .ok (.bool (!v.isNone)) σ
  | .obj l, .obj k => fun σ => .ok (.bool (!decide (l = k))) σ
  | _, _ => fun _ => .stuck

theorem rep_none_beq {h : Heap} {ρ : List Addr} {v : V} {w : Value} (r : Rep K h ρ v w) : (w == Value.none) = v.isNone := by
  cases v with
  | none => rw [Rep.none_iff.mp r]; rfl
  | bool b => rw [Rep.bool_iff.mp r]; rfl
  | int i => obtain ⟨t, rfl⟩ := Rep.int_iff.mp r; rfl
  | str x => obtain ⟨t, rfl⟩ := Rep.str_iff.mp r; rfl
  | tup vs => obtain ⟨_, a, ws, rfl, _⟩ := Rep.tup_iff.mp r; rfl
  | obj l => obtain ⟨a, _, rfl⟩ := Rep.obj_iff.mp r; rfl
  | fn x => simp only [Rep] at r; obtain ⟨_, a, rfl⟩ := r; rfl
  | rng a b c => obtain ⟨a, _, _, _, rfl, _⟩ := Rep.rng_iff.mp r; rfl

theorem cmp_isNot : CmpOk K .IsNot isNotV := by
  intro F fk σ ρ s a b wa wb rel ra rb
  cases b with
  | none =>
    rw [Rep.none_iff.mp rb]
    have e : isNotV a .none σ = .ok (.bool (!a.isNone)) σ := by cases a <;> rfl
    rw [e]
    refine Run.ok (isNot_none ⟨ρ, rel, Ext.refl .., ?_⟩)
    rw [rep_none_beq ra]; exact Rep.bool _
  | obj k =>
    cases a with
    | obj l =>
      obtain ⟨x, hx, rfl⟩ := Rep.obj_iff.mp ra
      obtain ⟨y, hy, rfl⟩ := Rep.obj_iff.mp rb
      show Run K F _ (Rep K) (.ok (V.bool (!decide (l = k))) σ) ρ s
      by_cases hlk : l = k
      · subst hlk
        rw [hx] at hy; cases hy
        refine Run.ok (wpAny_isNot_ref_self ⟨ρ, rel, Ext.refl .., ?_⟩)
        rw [decide_eq_true rfl]; exact Rep.bool _
      · have hne : x ≠ y := fun e => hlk (nodup_get rel.nodup (e ▸ hx) hy)
        obtain ⟨_, ox, ex, cx, _⟩ := rel.toGRel.alive (List.mem_of_getElem? hx)
        obtain ⟨_, oy, ey, cy, _⟩ := rel.toGRel.alive (List.mem_of_getElem? hy)
        refine Run.ok (wpAny_isNot_ref_other hne ex ey (by rw [cx]; decide) ⟨ρ, rel, Ext.refl .., ?_⟩)
        rw [decide_eq_false hlk]; exact Rep.bool _
    | _ => exact Run.stuck
  | _ => cases a <;> exact Run.stuck

def inD (x : PyData) : PyData → Option Bool
  | .list xs => some (xs.any fun y => PyData.eqv y x)
  | .tuple xs => some (xs.any fun y => PyData.eqv y x)
  | _ => none
def inV (a b : V) : M V := fun σ => match toD σ.st 6 a, toD σ.st 6 b with
  | some d, some d' => match inD d d' with
    | some r => .ok (.bool r) σ
    | none => .stuck
  | _, _ => .stuck
def notInV (a b : V) : M V := fun σ => match toD σ.st 6 a, toD σ.st 6 b with
  | some d, some d' => match inD d d' with
    | some r => .ok (.bool (!r)) σ
    | none => .stuck
  | _, _ => .stuck
theorem cmp_in : CmpOk K .In inV := by
  intro F fk σ ρ s a b wa wb rel ra rb
  unfold inV
  cases e1 : toD σ.st 6 a with
  | none => exact Run.stuck
  | some d =>
    cases e2 : toD σ.st 6 b with
    | none => exact Run.stuck
    | some d' =>
      obtain ⟨as, r1, c1, p1⟩ := toD_reads rel.toGRel 6 a wa d e1 ra
      obtain ⟨bs, r2, c2, p2⟩ := toD_reads rel.toGRel 6 b wb d' e2 rb
      have hu := fk.units
      cases d' with
      | list xs => exact Run.ok (SeqAt.in_list_reads r2 r1 c2 c1 (by (first | lia | omega)) ⟨ρ, rel, Ext.refl .., Rep.bool _⟩)
      | tuple xs => exact Run.ok (SeqAt.in_tuple_reads r2 r1 c2 c1 (by (first | lia | omega)) ⟨ρ, rel, Ext.refl .., Rep.bool _⟩)
      | _ => exact Run.stuck
theorem cmp_notIn : CmpOk K .NotIn notInV := by
  intro F fk σ ρ s a b wa wb rel ra rb
  unfold notInV
  cases e1 : toD σ.st 6 a with
  | none => exact Run.stuck
  | some d =>
    cases e2 : toD σ.st 6 b with
    | none => exact Run.stuck
    | some d' =>
      obtain ⟨as, r1, c1, p1⟩ := toD_reads rel.toGRel 6 a wa d e1 ra
      obtain ⟨bs, r2, c2, p2⟩ := toD_reads rel.toGRel 6 b wb d' e2 rb
      have hu := fk.units
      cases d' with
      | list xs => exact Run.ok (SeqAt.notIn_list_reads r2 r1 c2 c1 (by (first | lia | omega)) ⟨ρ, rel, Ext.refl .., Rep.bool _⟩)
      | tuple xs => exact Run.ok (SeqAt.notIn_tuple_reads r2 r1 c2 c1 (by (first | lia | omega)) ⟨ρ, rel, Ext.refl .., Rep.bool _⟩)
      | _ => exact Run.stuck

/-! ### less than -/
mutual
def ltD : PyData → PyData → Option Bool
  | .int i, .int j => some (decide (i < j))
  | .tuple xs, .tuple ys => ltAll xs ys
  | .list xs, .list ys => ltAll xs ys
  | _, _ => none
def ltAll : List PyData → List PyData → Option Bool
  | [], [] => some false
  | [], _ :: _ => some true
  | _ :: _, [] => some false
  | x :: xs, y :: ys => if PyData.eqv x y then ltAll xs ys else ltD x y
end

end Mine


/-! part F10 -/
set_option autoImplicit false
set_option maxRecDepth 100000
set_option linter.unusedVariables false
open PySem PySem.W PyProof.Rows
namespace Mine

variable {K : Glo} {F : Frm}
open PySem.SeqAt PySem.MeetsSeq PySem.MeetsSeq3

def LtAt (A : Around) (s : Shared) (y x : Value) (b : Bool) : Prop :=
  ∀ (prog : Program) (w : World) (E : Value → Shared → Prop) (Q : Value → Shared → Prop), Q (.bool b) s → wpAny (model prog w) A (richCompare .Lt y x) Q E s

def LexAt (A : Around) (s : Shared) (fin : Bool) : List (Value × Value) → Bool → Prop
  | [], r => r = fin
  | (x, y) :: rest, r => ∃ e, EqAt A s x y e ∧ (if e = true then LexAt A s fin rest r else LtAt A s x y r)

theorem tuple_ltAt (l b : Addr) (items items2 : Array Value) (n n2 : Nat) (dd dd2 : Option Addr) (sl sl2 : Array (Option Value)) (r : Bool) :
    Meets (Builtin.«tuple.__lt__» ⟨[.ref l, .ref b], []⟩)
      (fun A R s => s.heap.get? l = some { cls := .type "tuple", dict := dd, data := .seq items n, slots := sl } ∧ s.heap.get? b = some { cls := .type "tuple", dict := dd2, data := .seq items2 n2, slots := sl2 } ∧
        LexAt A.in1 s (decide (items.size < items2.size)) (items.toList.zip items2.toList) r ∧ R (.ok (.ret (.bool r))) s) :=
  .of_wp fun prog w A R s h => by
    obtain ⟨hp, g, d, tk, os⟩ := s; obtain ⟨hl, hb, he, h⟩ := h
    have f2 := AutoSeq1.sub_tuple_tuple
    wp_walk using wpAny_loadPart' hl, wpAny_loadPart' hb, wpAny_forIn_list _ (fun rest b s' => b.1 = none ∧ s' = ⟨hp, g, d, tk, os⟩ ∧ LexAt A.in1 ⟨hp, g, d, tk, os⟩ (decide (items.size < items2.size)) rest r) _
    case turn =>
      rintro ⟨y, x⟩ rest b s' ⟨hb', rfl, e, he1, he2⟩
      refine wpAny_bind (he1 prog w _ _ ?_)
      cases e with
      | true =>
        simp only [if_true] at he2
        wp_walk
        exact ⟨rfl, rfl, he2⟩
      | false =>
        simp only [Bool.false_eq_true, if_false] at he2
        simp only [Bool.not_false, if_true]
        refine wpAny_bind (wpAny_rule (wpAny_bind (he2 prog w _ _ ?_)))
        wp_walk
        exact ⟨_, rfl, h⟩
    case fin =>
      rintro ⟨b1, b2⟩ s' ⟨hb', rfl, he'⟩
      simp only at hb'
      subst hb'
      wp_walk
      have : r = decide (items.size < items2.size) := he'
      refine ⟨_, rfl, ?_⟩
      rw [this] at h
      exact h
    case h => exact ⟨rfl, rfl, he⟩

theorem lt_loopAt (l b : Addr) (items items2 : Array Value) (n n2 : Nat) (dd dd2 : Option Addr) (sl sl2 : Array (Option Value)) (r : Bool) (k : Nat) :
    ∀ i : Nat, min items.size items2.size - i = k → Meets (Builtin.«list.__eq__.loop» ⟨[.ref l, .ref b, rawInt i, rawInt 0], []⟩)
      (fun A R s => s.heap.get? l = some { cls := .type "list", dict := dd, data := .seq items n, slots := sl } ∧ s.heap.get? b = some { cls := .type "list", dict := dd2, data := .seq items2 n2, slots := sl2 } ∧
        LexAt A.in1 s (decide (items.size < items2.size)) ((items.toList.zip items2.toList).drop i) r ∧ R (.ok (.ret (.bool r))) s) := by
  induction k with
  | zero =>
    intro i hk prog w A R s h
    obtain ⟨hp, g, d, tk, os⟩ := s; obtain ⟨hl, hb, he, h⟩ := h
    wp_walk using wpAny_loadPart' hl, wpAny_loadPart' hb
    have hd : (items.toList.zip items2.toList).drop i = [] := by simp; (first | lia | omega)
    rw [hd] at he
    have hr : r = decide (items.size < items2.size) := he
    have hor : items[((i : Nat) : Int).toNat]? = none ∨ items2[((i : Nat) : Int).toNat]? = none := by
      simp; (first | lia | omega)
    rw [hr] at h
    rcases hor with hi | hi
    · rw [hi]
      wp_walk using wpAny_loadPart' hl, wpAny_loadPart' hb
      exact h
    · rw [hi]
      cases items[((i : Nat) : Int).toNat]? <;> (wp_walk using wpAny_loadPart' hl, wpAny_loadPart' hb; exact h)
  | succ k ih =>
    intro i hk prog w A R s h
    obtain ⟨hp, g, d, tk, os⟩ := s; obtain ⟨hl, hb, he, h⟩ := h
    wp_walk using wpAny_loadPart' hl, wpAny_loadPart' hb
    have hlt : i < items.size := by (first | lia | omega)
    have hlt2 : i < items2.size := by (first | lia | omega)
    have hi1 : items[((i : Nat) : Int).toNat]? = some items[i] := by simp [hlt]
    have hi2 : items2[((i : Nat) : Int).toNat]? = some items2[i] := by simp [hlt2]
    have hd : (items.toList.zip items2.toList).drop i = (items[i], items2[i]) :: (items.toList.zip items2.toList).drop (i + 1) := by
      rw [List.drop_eq_getElem_cons (by simp; (first | lia | omega))]; simp
    have hc : ((i : Int) + 1) = ((i + 1 : Nat) : Int) := by push_cast; rfl
    rw [hd] at he
    obtain ⟨e, he1, he2⟩ := he
    rw [hi1, hi2]
    refine wpAny_bind (he1 prog w _ _ ?_)
    cases e with
    | true =>
      simp only [if_true] at he2
      wp_walk
      rw [hc]
      exact ⟨plainId_quiet plain_eq_loop _, codeAny_builtin entry_eq_loop (by
        rw [Around.under_plainId plain_eq_loop _]
        exact ih (i + 1) (by (first | lia | omega)) prog w A R _ ⟨hl, hb, he2, h⟩)⟩
    | false =>
      simp only [Bool.false_eq_true, if_false] at he2 ⊢
      refine wpAny_bind (listItems_at hl rfl (wpAny_bind (listItems_at hb rfl ?_)))
      rw [hi1, hi2]
      refine wpAny_bind (he2 prog w _ _ ?_)
      wp_walk
      exact h

theorem list_ltAt (l b : Addr) (items items2 : Array Value) (n n2 : Nat) (dd dd2 : Option Addr) (sl sl2 : Array (Option Value)) (r : Bool) :
    Meets (Builtin.«list.__lt__» ⟨[.ref l, .ref b], []⟩)
      (fun A R s => s.heap.get? l = some { cls := .type "list", dict := dd, data := .seq items n, slots := sl } ∧ s.heap.get? b = some { cls := .type "list", dict := dd2, data := .seq items2 n2, slots := sl2 } ∧
        LexAt A.in1 s (decide (items.size < items2.size)) (items.toList.zip items2.toList) r ∧ R (.ok (.ret (.bool r))) s) := by
  intro prog w A R s h
  obtain ⟨hp, g, d, tk, os⟩ := s; obtain ⟨hl, hb, he, h⟩ := h
  have f3 := AutoSeq1.sub_list_list
  wp_walk using wpAny_loadPart' hl, wpAny_loadPart' hb
  exact ⟨plainId_quiet plain_eq_loop _, codeAny_builtin entry_eq_loop (by
    rw [Around.under_plainId plain_eq_loop _]
    exact lt_loopAt l b items items2 n n2 dd dd2 sl sl2 r _ 0 rfl prog w A R _ ⟨hl, hb, by simpa using he, h⟩)⟩

theorem LtAt.lists {A : Around} {s : Shared} {l b : Addr} {items items2 : Array Value} {r : Bool} (hl : s.heap.IsList l items) (hb : s.heap.IsList b items2) (hu : A.units < cLine)
    (he : LexAt A.in1 s (decide (items.size < items2.size)) (items.toList.zip items2.toList) r) : LtAt A s (.ref l) (.ref b) r := fun prog w E Q h => by
  obtain ⟨⟨cls, dd, data, sl⟩, ho, hc, n, hd⟩ := id hl
  obtain ⟨⟨cls2, dd2, data2, sl2⟩, ho2, hc2, n2, hd2⟩ := id hb
  simp only at hc hd hc2 hd2
  subst hc hd hc2 hd2
  exact richCompare_meets_room (op := .Lt) ⟨_, ho, rfl⟩ ⟨_, ho2, rfl⟩ PySem.F.slot_list_lt PySem.F.entry_list_lt (PySem.F.args_list_lt_2 _ _) (list_ltAt l b items items2 n n2 dd dd2 sl sl2 r)
    ⟨ho, ho2, he, show Value.bool r ≠ Value.notImplemented ∧ Q (.bool r) s from ⟨(fun x => nomatch x), h⟩⟩ hu
theorem LtAt.tuples {A : Around} {s : Shared} {l b : Addr} {items items2 : Array Value} {r : Bool} (hl : s.heap.IsTuple l items) (hb : s.heap.IsTuple b items2) (hu : A.units < cLine)
    (he : LexAt A.in1 s (decide (items.size < items2.size)) (items.toList.zip items2.toList) r) : LtAt A s (.ref l) (.ref b) r := fun prog w E Q h => by
  obtain ⟨⟨cls, dd, data, sl⟩, ho, hc, n, hd⟩ := id hl
  obtain ⟨⟨cls2, dd2, data2, sl2⟩, ho2, hc2, n2, hd2⟩ := id hb
  simp only at hc hd hc2 hd2
  subst hc hd hc2 hd2
  exact richCompare_meets_room (op := .Lt) ⟨_, ho, rfl⟩ ⟨_, ho2, rfl⟩ PySem.F.slot_tuple_lt PySem.F.entry_tuple_lt (PySem.F.args_tuple_lt_2 _ _) (tuple_ltAt l b items items2 n n2 dd dd2 sl sl2 r)
    ⟨ho, ho2, he, show Value.bool r ≠ Value.notImplemented ∧ Q (.bool r) s from ⟨(fun x => nomatch x), h⟩⟩ hu

mutual
theorem ltAt_reads : ∀ (da db : PyData) (A : Around) (s : Shared) (a b : Value) (as bs : List Addr) (r : Bool), Reads s.heap a da as → Reads s.heap b db bs → da.canLay0 = true → db.canLay0 = true →
    A.units + min da.depth db.depth < cLine → ltD da db = some r → LtAt A s a b r
  | .int i, db, A, s, a, b, as, bs, r, ra, rb, ha, hb, hu, e => by
    cases ra with
    | int _ t =>
      cases rb with
      | int j u =>
        simp only [ltD, Option.some.injEq] at e
        subst e
        exact fun prog w E Q h => lt_int h
      | _ => simp [ltD] at e
  | .tuple xs, db, A, s, a, b, as, bs, r, ra, rb, ha, hb, hu, e => by
    cases ra with
    | tuple h1 h2 h3 h4 =>
      cases rb with
      | tuple k1 k2 k3 k4 =>
        simp only [ltD] at e
        refine LtAt.tuples ⟨_, h1, h2, _, h3⟩ ⟨_, k1, k2, _, k3⟩ (room_here hu) ?_
        refine lexAt_reads _ _ _ _ _ _ _ _ r _ h4 k4 ha hb (room_in hu) e ?_
        rw [← Array.length_toList, ← Array.length_toList, ReadsAll.length _ _ _ h4, ReadsAll.length _ _ _ k4]
      | _ => simp [ltD] at e
  | .list xs, db, A, s, a, b, as, bs, r, ra, rb, ha, hb, hu, e => by
    cases ra with
    | list h1 h2 h3 h4 =>
      cases rb with
      | list k1 k2 k3 k4 =>
        simp only [ltD] at e
        refine LtAt.lists ⟨_, h1, h2, _, h3⟩ ⟨_, k1, k2, _, k3⟩ (room_here hu) ?_
        refine lexAt_reads _ _ _ _ _ _ _ _ r _ h4 k4 ha hb (room_in hu) e ?_
        rw [← Array.length_toList, ← Array.length_toList, ReadsAll.length _ _ _ h4, ReadsAll.length _ _ _ k4]
      | _ => simp [ltD] at e
  | .none, db, A, s, a, b, as, bs, r, ra, rb, ha, hb, hu, e => by cases db <;> simp [ltD] at e
  | .bool _, db, A, s, a, b, as, bs, r, ra, rb, ha, hb, hu, e => by cases db <;> simp [ltD] at e
  | .str _, db, A, s, a, b, as, bs, r, ra, rb, ha, hb, hu, e => by cases db <;> simp [ltD] at e
  | .dict _, db, A, s, a, b, as, bs, r, ra, rb, ha, hb, hu, e => by cases db <;> simp [ltD] at e
theorem lexAt_reads : ∀ (xs ys : List PyData) (A : Around) (s : Shared) (vs ws : List Value) (as bs : List Addr) (r fin : Bool), ReadsAll s.heap vs xs as → ReadsAll s.heap ws ys bs → PyData.canLayAll0 xs = true → PyData.canLayAll0 ys = true →
    A.units + min (PyData.depthAll xs) (PyData.depthAll ys) < cLine → ltAll xs ys = some r → fin = decide (xs.length < ys.length) → LexAt A s fin (vs.zip ws) r
  | [], ys, A, s, vs, ws, as, bs, r, fin, ra, rb, ha, hb, hu, e, hf => by
    cases ra
    subst hf
    cases ys with
    | nil => simp only [ltAll, Option.some.injEq] at e; subst e; rfl
    | cons y ys => simp only [ltAll, Option.some.injEq] at e; subst e; show true = _; simp
  | x :: xs, [], A, s, vs, ws, as, bs, r, fin, ra, rb, ha, hb, hu, e, hf => by
    cases rb
    subst hf
    simp only [ltAll, Option.some.injEq] at e; subst e
    rw [List.zip_nil_right]; show false = _; simp
  | x :: xs, y :: ys, A, s, vs, ws, as, bs, r, fin, ra, rb, ha, hb, hu, e, hf => by
    cases ra with
    | cons ra1 ra2 =>
      cases rb with
      | cons rb1 rb2 =>
        simp only [PyData.canLayAll0, Bool.and_eq_true] at ha hb
        have hu1 : A.units + min x.depth y.depth < cLine := room_head (by simpa [PyData.depthAll] using hu)
        have hu2 : A.units + min (PyData.depthAll xs) (PyData.depthAll ys) < cLine := room_tail (by simpa [PyData.depthAll] using hu)
        refine ⟨PyData.eqv x y, eqAt_reads x y A s _ _ _ _ ra1 rb1 ha.1 hb.1 hu1, ?_⟩
        simp only [ltAll] at e
        cases he : PyData.eqv x y with
        | true =>
          rw [he] at e
          simp only [if_true] at e ⊢
          exact lexAt_reads xs ys A s _ _ _ _ r fin ra2 rb2 ha.2 hb.2 hu2 e (by rw [hf]; simp)
        | false =>
          rw [he] at e
          simp only [Bool.false_eq_true, if_false] at e ⊢
          exact ltAt_reads x y A s _ _ _ _ r ra1 rb1 ha.1 hb.1 hu1 e
end

def ltV (a b : V) : M V := fun σ => match toD σ.st 6 a, toD σ.st 6 b with
  | some d, some d' => match ltD d d' with
    | some r => .ok (.bool r) σ
    | none => .stuck
  | _, _ => .stuck
theorem cmp_lt : CmpOk K .Lt ltV := by
  intro F fk σ ρ s a b wa wb rel ra rb
  unfold ltV
  cases e1 : toD σ.st 6 a with
  | none => exact Run.stuck
  | some d =>
    cases e2 : toD σ.st 6 b with
    | none => exact Run.stuck
    | some d' =>
      obtain ⟨as, r1, c1, p1⟩ := toD_reads rel.toGRel 6 a wa d e1 ra
      obtain ⟨bs, r2, c2, p2⟩ := toD_reads rel.toGRel 6 b wb d' e2 rb
      have hu := fk.units
      dsimp only
      cases e3 : ltD d d' with
      | none => exact Run.stuck
      | some r => exact Run.ok (ltAt_reads d d' F.A s wa wb as bs r r1 r2 c1 c2 (by (first | lia | omega)) e3 K.prog K.w _ _ ⟨ρ, rel, Ext.refl .., Rep.bool _⟩)

end Mine


/-! part F11 -/
set_option autoImplicit false
set_option maxRecDepth 100000
set_option linter.unusedVariables false
open PySem PySem.W PyProof.Rows
namespace Mine

variable {K : Glo} {F : Frm}

/-! ### ints -/
def addV : V → V → M V
  | .int a, .int b => fun σ => .ok (.int (a + b)) σ
  | .obj l, .obj k => fun σ => match σ.st[l]?, σ.st[k]? with
    | some (.lst xs), some (.lst ys) => newL (xs ++ ys) σ
    | _, _ => .stuck
  | _, _ => fun _ => .stuck
def subV : V → V → M V
  | .int a, .int b => fun σ => .ok (.int (a - b)) σ
  | _, _ => fun _ => .stuck
def mulV : V → V → M V
  | .int a, .int b => fun σ => if -1000000000 < a ∧ a < 1000000000 then .ok (.int (a * b)) σ else .stuck
  | _, _ => fun _ => .stuck
def fdivV : V → V → M V
  | .int a, .int b => fun σ => if 0 < b ∧ b < 1000000000 then .ok (.int (a / b)) σ else .stuck
  | _, _ => fun _ => .stuck
def fmodV : V → V → M V
  | .int a, .int b => fun σ => if 0 < b ∧ b < 1000000000 then .ok (.int (a % b)) σ else .stuck
  | _, _ => fun _ => .stuck
def shrV : V → V → M V
  | .int a, .int 1 => fun σ => if 0 ≤ a then .ok (.int (a / 2)) σ else .stuck
  | _, _ => fun _ => .stuck

theorem bin_add : BinOk K .Add addV := by
  intro F fk σ ρ s a b wa wb rel ra rb
  cases a with
  | int i =>
    cases b with
    | int j =>
      obtain ⟨t, rfl⟩ := Rep.int_iff.mp ra
      obtain ⟨u, rfl⟩ := Rep.int_iff.mp rb
      exact Run.ok (add_int ⟨ρ, rel.tok _, Ext.refl .., Rep.int ..⟩)
    | _ => exact Run.stuck
  | obj l =>
    cases b with
    | obj k =>
      unfold addV
      dsimp only
      cases hl : σ.st[l]? with
      | none => exact Run.stuck
      | some c =>
        cases c with
        | lst xs =>
          cases hk : σ.st[k]? with
          | none => exact Run.stuck
          | some c' =>
            cases c' with
            | lst ys =>
              dsimp only
              obtain ⟨x, ws, n, rfl, hρ, hL, hr, hn⟩ := rel.list ra hl
              obtain ⟨y, us, n', rfl, hρ', hL', hr', hn'⟩ := rel.list rb hk
              unfold newL
              by_cases hz : (xs ++ ys).length ≤ 1000000
              · rw [if_pos hz]
                obtain ⟨rel', x'⟩ := rel.newList (o := { cls := .type "list", data := .seq (ws ++ us).toArray }) rfl (hr.append hr') hz s.toks
                refine Run.ok (P.add_list hL hL' ?_ (sizeLine_ge (by simp only [List.size_toArray, hr.length, hr'.length]; simpa using hz)))
                rw [List.append_toArray]
                refine ⟨_, rel', x', Rep.obj_iff.mpr ⟨_, ?_, rfl⟩⟩
                rw [← rel.len, List.getElem?_concat_length]
              · rw [if_neg hz]; exact Run.stuck
    | _ => exact Run.stuck
  | _ => exact Run.stuck

theorem bin_sub : BinOk K .Sub subV := by
  intro F fk σ ρ s a b wa wb rel ra rb
  cases a with
  | int i =>
    cases b with
    | int j =>
      obtain ⟨t, rfl⟩ := Rep.int_iff.mp ra
      obtain ⟨u, rfl⟩ := Rep.int_iff.mp rb
      exact Run.ok (sub_int ⟨ρ, rel.tok _, Ext.refl .., Rep.int ..⟩)
    | _ => exact Run.stuck
  | _ => exact Run.stuck
theorem bin_mul : BinOk K .Mult mulV := by
  intro F fk σ ρ s a b wa wb rel ra rb
  cases a with
  | int i =>
    cases b with
    | int j =>
      obtain ⟨t, rfl⟩ := Rep.int_iff.mp ra
      obtain ⟨u, rfl⟩ := Rep.int_iff.mp rb
      unfold mulV
      dsimp only
      by_cases h : -1000000000 < i ∧ i < 1000000000
      · rw [if_pos h]
        exact Run.ok (mul_int ⟨ρ, rel.tok _, Ext.refl .., Rep.int ..⟩ (IntMulOk.of_left (intBits_le_64 (by (first | lia | omega)) (by (first | lia | omega)))))
      · rw [if_neg h]; exact Run.stuck
    | _ => exact Run.stuck
  | _ => exact Run.stuck
theorem fdiv_pos {a b : Int} (h : 0 < b) : a.fdiv b = a / b := Int.fdiv_eq_ediv_of_nonneg _ (Int.le_of_lt h)
theorem fmod_pos {a b : Int} (h : 0 < b) : a.fmod b = a % b := Int.fmod_eq_emod_of_nonneg _ (Int.le_of_lt h)
theorem bin_fdiv : BinOk K .FloorDiv fdivV := by
  intro F fk σ ρ s a b wa wb rel ra rb
  cases a with
  | int i =>
    cases b with
    | int j =>
      obtain ⟨t, rfl⟩ := Rep.int_iff.mp ra
      obtain ⟨u, rfl⟩ := Rep.int_iff.mp rb
      unfold fdivV
      dsimp only
      by_cases h : 0 < j ∧ j < 1000000000
      · rw [if_pos h]
        refine Run.ok (floordiv_int (Int.ne_of_gt h.1) ⟨ρ, rel.tok _, Ext.refl .., ?_⟩ (Or.inl (PyProof.noPylong_small (by (first | lia | omega)))))
        rw [fdiv_pos h.1]; exact Rep.int ..
      · rw [if_neg h]; exact Run.stuck
    | _ => exact Run.stuck
  | _ => exact Run.stuck
theorem bin_fmod : BinOk K .Mod fmodV := by
  intro F fk σ ρ s a b wa wb rel ra rb
  cases a with
  | int i =>
    cases b with
    | int j =>
      obtain ⟨t, rfl⟩ := Rep.int_iff.mp ra
      obtain ⟨u, rfl⟩ := Rep.int_iff.mp rb
      unfold fmodV
      dsimp only
      by_cases h : 0 < j ∧ j < 1000000000
      · rw [if_pos h]
        refine Run.ok (mod_int' (Int.ne_of_gt h.1) ⟨ρ, rel.tok _, Ext.refl .., ?_⟩)
        rw [fmod_pos h.1]; exact Rep.int ..
      · rw [if_neg h]; exact Run.stuck
    | _ => exact Run.stuck
  | _ => exact Run.stuck
theorem bin_shr : BinOk K .RShift shrV := by
  intro F fk σ ρ s a b wa wb rel ra rb
  cases a with
  | int i =>
    cases b with
    | int j =>
      by_cases hj : j = 1
      · subst hj
        obtain ⟨t, rfl⟩ := Rep.int_iff.mp ra
        obtain ⟨u, rfl⟩ := Rep.int_iff.mp rb
        show Run K F _ (Rep K) (if 0 ≤ i then .ok (V.int (i / 2)) σ else .stuck) ρ s
        by_cases h : 0 ≤ i
        · rw [if_pos h]
          exact Run.ok (wpAny_rshift1_int h ⟨ρ, rel.tok _, Ext.refl .., Rep.int ..⟩)
        · rw [if_neg h]; exact Run.stuck
      · have : shrV (.int i) (.int j) = fun _ => .stuck := by
          unfold shrV; split
          · rename_i h1 h2; cases h2; exact absurd rfl hj
          · rfl
        rw [this]; exact Run.stuck
    | _ => exact Run.stuck
  | _ => exact Run.stuck

def negV : V → M V
  | .int a => fun σ => .ok (.int (-a)) σ
  | _ => fun _ => .stuck
theorem un_neg : UnOk K .USub negV := by
  intro F fk σ ρ s a wa rel ra
  cases a with
  | int i => obtain ⟨t, rfl⟩ := Rep.int_iff.mp ra; exact Run.ok (neg_int ⟨ρ, rel.tok _, Ext.refl .., Rep.int ..⟩)
  | _ => exact Run.stuck

def leV : V → V → M V
  | .int a, .int b => fun σ => .ok (.bool (decide (a ≤ b))) σ
  | _, _ => fun _ => .stuck
def gtV : V → V → M V
  | .int a, .int b => fun σ => .ok (.bool (decide (b < a))) σ
  | _, _ => fun _ => .stuck
def geV : V → V → M V
  | .int a, .int b => fun σ => .ok (.bool (decide (b ≤ a))) σ
  | _, _ => fun _ => .stuck
theorem cmp_gt : CmpOk K .Gt gtV := by
  intro F fk σ ρ s a b wa wb rel ra rb
  cases a with
  | int i =>
    cases b with
    | int j =>
      obtain ⟨t, rfl⟩ := Rep.int_iff.mp ra
      obtain ⟨u, rfl⟩ := Rep.int_iff.mp rb
      exact Run.ok (gt_int ⟨ρ, rel, Ext.refl .., Rep.bool _⟩)
    | _ => exact Run.stuck
  | _ => exact Run.stuck
/-! ### truth -/
def truV : V → M Bool
  | .bool b => fun σ => .ok b σ
  | .obj l => fun σ => match σ.st[l]? with
    | some (.lst vs) => .ok (!vs.isEmpty) σ
    | _ => .stuck
  | _ => fun _ => .stuck
theorem tru_ok : TruOk K truV := by
  intro F fk σ ρ s a wa rel ra
  cases a with
  | bool b => rw [Rep.bool_iff.mp ra]; exact Run.ok (wpAny_truthy_bool ⟨ρ, rel, Ext.refl .., rfl⟩)
  | obj l =>
    unfold truV
    dsimp only
    cases hl : σ.st[l]? with
    | none => exact Run.stuck
    | some c =>
      cases c with
      | lst xs =>
        obtain ⟨x, ws, n, rfl, hρ, hL, hr, hn⟩ := rel.list ra hl
        refine Run.ok (wpAny_truthy_list hL.isList (by rw [List.size_toArray, hr.length]; (first | lia | omega)) ⟨ρ, rel.tok _, Ext.refl .., ?_⟩)
        show (!ws.toArray.isEmpty) = !xs.isEmpty
        have := hr.length
        cases ws <;> cases xs <;> simp_all
  | _ => exact Run.stuck

/-! ### built-ins -/
def lenB : List V → M V
  | [.obj l] => fun σ => match σ.st[l]? with
    | some (.lst vs) => .ok (.int vs.length) σ
    | _ => .stuck
  | _ => fun _ => .stuck
theorem built_len : BuiltOk K (.builtin "len") lenB := by
  intro F fk σ ρ s vs ws rel r
  unfold lenB
  split
  · obtain ⟨w, ws', rfl, r1, r2⟩ := RepL.cons_iff.mp r
    rw [RepL.nil_iff.mp r2]
    rename_i l
    cases hl : σ.st[l]? with
    | none => exact Run.stuck
    | some c =>
      cases c with
      | lst xs =>
        obtain ⟨x, ws, n, rfl, hρ, hL, hr, hn⟩ := rel.list r1 hl
        refine Run.ok (PySem.Calls.call_len_list hL.isList (by rw [List.size_toArray, hr.length]; (first | lia | omega)) ⟨ρ, rel.tok _, Ext.refl .., ?_⟩)
        rw [List.size_toArray, hr.length]; exact Rep.int ..
  · exact Run.stuck

end Mine


/-! part F12 -/
set_option autoImplicit false
set_option maxRecDepth 100000
set_option linter.unusedVariables false
open PySem PySem.W PyProof.Rows
namespace Mine

variable {K : Glo} {F : Frm}

/-! ### slices of lists -/
def SimO (K : Glo) (F : Frm) (e : Option Expr) (m : M V) : Prop := ∀ σ ρ s, Rel K F σ ρ s → Run K F (valueOrNone (evalOpt e F.env)) (Rep K) (m σ) ρ s
theorem simO_none : SimO K F none (pure .none) := fun _ _ _ rel => Run.pure rel Rep.none
theorem simO_some {e : Expr} {m : M V} (h : SimE K F e m) : SimO K F (some e) m := h

def SlRep (K : Glo) (h : Heap) (ρ : List Addr) (p : V × V × V) (w : Value) : Prop := ∃ ad va vb vc, w = .ref ad ∧ h.IsSliceOf ad va vb vc ∧ Rep K h ρ p.1 va ∧ Rep K h ρ p.2.1 vb ∧ Rep K h ρ p.2.2 vc

theorem run_Slice {lo hi st : Option Expr} {ml mh ms : M V} (p : Pos) (h1 : SimO K F lo ml) (h2 : SimO K F hi mh) (h3 : SimO K F st ms) {σ : S} {ρ : List Addr} {s : Shared} (rel : Rel K F σ ρ s) :
    Run K F (eval (.Slice lo hi st p) F.env) (SlRep K) ((do let a ← ml; let b ← mh; let c ← ms; pure (a, b, c) : M (V × V × V)) σ) ρ s := by
  show Run K F (do
    let l ← valueOrNone (evalOpt lo F.env)
    let u ← holding [l] (valueOrNone (evalOpt hi F.env))
    let s ← holding [l, u] (valueOrNone (evalOpt st F.env))
    newFields "slice" [l, u, s]) _ _ ρ s
  refine Run.bind (h1 σ ρ s rel) fun a σ₁ ρ₁ s₁ wa _ rel₁ x₁ ra => ?_
  refine Run.bind (Run.holding (h2 σ₁ ρ₁ s₁ rel₁)) fun b σ₂ ρ₂ s₂ wb _ rel₂ x₂ rb => ?_
  refine Run.bind (Run.holding (h3 σ₂ ρ₂ s₂ rel₂)) fun c σ₃ ρ₃ s₃ wc _ rel₃ x₃ rc => ?_
  have x' : Ext F.mine ρ₃ ρ₃ s₃.heap (s₃.heap.push { cls := .type "slice", data := .fields #[wa, wb, wc] }) := Ext.push _
  refine Run.ok (wpAny_newObj_type ⟨ρ₃, rel₃.push _ s₃.toks, x', ?_⟩)
  exact ⟨_, wa, wb, wc, rfl, Heap.IsSliceOf.new .., ((ra.mono x₂).mono x₃).mono x', (rb.mono x₃).mono x', rc.mono x'⟩

def partO : V → Option (Option Int)
  | .none => some none
  | .int i => some (some i)
  | _ => none
theorem partO_is {h : Heap} {ρ : List Addr} {v : V} {w : Value} {k : Option Int} (r : Rep K h ρ v w) (e : partO v = some k) : IsPart w k := by
  cases v with
  | none => rw [Rep.none_iff.mp r]; cases e; exact .none
  | int i => obtain ⟨t, rfl⟩ := Rep.int_iff.mp r; cases e; exact .int i t
  | _ => cases e

def pickV {α : Type} (vs : List α) (lo hi st : Option Int) : List α :=
  (sliceRange (sliceBounds lo hi st vs.length).1 (sliceBounds lo hi st vs.length).2.1 (sliceBounds lo hi st vs.length).2.2).filterMap (vs[·]?)

theorem pick_rep {h : Heap} {ρ : List Addr} {vs : List V} {ws : List Value} (r : RepL K h ρ vs ws) : ∀ (is : List Nat), RepL K h ρ (is.filterMap (vs[·]?)) (is.filterMap (ws[·]?))
  | [] => RepL.nil
  | i :: is => by
    rw [List.filterMap_cons, List.filterMap_cons]
    cases e : vs[i]? with
    | none =>
      have : ws[i]? = none := by
        rw [List.getElem?_eq_none_iff] at e ⊢
        rw [r.length]; exact e
      rw [this]
      exact pick_rep r is
    | some v =>
      obtain ⟨w, hw, q⟩ := r.get? e
      rw [hw]
      exact RepL.cons q (pick_rep r is)

theorem pickV_length {vs : List V} {ws : List Value} {h : Heap} {ρ : List Addr} (r : RepL K h ρ vs ws) (lo hi st : Option Int) : (pickV vs lo hi st).length ≤ vs.length := by
  have h1 := slicePick_size_le ws.toArray lo hi st
  have h2 : (pickV vs lo hi st).length = (slicePick ws.toArray lo hi st).size := by
    unfold slicePick
    rw [List.size_toArray]
    have := (pick_rep (K := K) r (sliceRange (sliceBounds lo hi st vs.length).1 (sliceBounds lo hi st vs.length).2.1 (sliceBounds lo hi st vs.length).2.2)).length
    rw [List.size_toArray, r.length]
    unfold pickV
    simp only [List.getElem?_toArray]
    exact this.symm
  rw [h2]
  refine Nat.le_trans h1 ?_
  rw [List.size_toArray, r.length]; exact Nat.le_refl _

def sliceV : V → V × V × V → M V
  | .obj l, (a, b, c) => fun σ => match σ.st[l]?, partO a, partO b, partO c with
    | some (.lst vs), some lo, some hi, some st => if st = some 0 then .stuck else .ok (.obj σ.st.length) { σ with st := σ.st ++ [.lst (pickV vs lo hi st)] }
    | _, _, _, _ => .stuck
  | _, _ => fun _ => .stuck

theorem simE_slice (fk : FOk F) {value : Expr} {lo hi st : Option Expr} {mv ml mh ms : M V} (p pos : Pos) (hv : SimE K F value mv) (h1 : SimO K F lo ml) (h2 : SimO K F hi mh) (h3 : SimO K F st ms) {ops : Value → Value → List Value}
    (hs : ∀ o i, subscripted (.Slice lo hi st p) false o i = PySem.operate (ops o i) (getItem o i) := by intro _ _; rfl) :
    SimE K F (.Subscript value (.Slice lo hi st p) pos) (do let o ← mv; let i ← (do let a ← ml; let b ← mh; let c ← ms; pure (a, b, c)); sliceV o i) := by
  intro σ ρ s rel
  rw [eval_Subscript]
  refine Run.bind (hv σ ρ s rel) fun a σ₁ ρ₁ s₁ wa _ rel₁ x₁ ra => ?_
  refine Run.bind (Run.holding (run_Slice p h1 h2 h3 rel₁)) fun b σ₂ ρ₂ s₂ wb _ rel₂ x₂ rb => ?_
  refine Run.standAt ?_
  show Run K F (subscriptTail value (.Slice lo hi st p) wa wb) (Rep K) (sliceV a b σ₂) ρ₂ s₂
  obtain ⟨b1, b2, b3⟩ := b
  obtain ⟨ad, va, vb, vc, rfl, hsl, r1, r2, r3⟩ := rb
  cases a with
  | obj l =>
    unfold sliceV
    dsimp only
    cases hl : σ₂.st[l]? with
    | none => exact Run.stuck
    | some c =>
      cases c with
      | lst vs =>
        cases e1 : partO b1 with
        | none => exact Run.stuck
        | some o1 =>
          cases e2 : partO b2 with
          | none => exact Run.stuck
          | some o2 =>
            cases e3 : partO b3 with
            | none => exact Run.stuck
            | some o3 =>
              dsimp only
              by_cases h0 : o3 = some 0
              · rw [if_pos h0]; exact Run.stuck
              · rw [if_neg h0]
                obtain ⟨x, ws, n, rfl, hρ, hL, hr, hn⟩ := rel₂.list (ra.mono x₂) hl
                have hlen := pickV_length hr o1 o2 o3
                have e : (slicePick ws.toArray o1 o2 o3) = ((sliceRange (sliceBounds o1 o2 o3 vs.length).1 (sliceBounds o1 o2 o3 vs.length).2.1 (sliceBounds o1 o2 o3 vs.length).2.2).filterMap (ws[·]?)).toArray := by
                  unfold slicePick
                  rw [List.size_toArray, hr.length]
                  simp only [List.getElem?_toArray]
                obtain ⟨rel', x'⟩ := rel₂.newList (o := { cls := .type "list", data := .seq (slicePick ws.toArray o1 o2 o3) }) (vs := pickV vs o1 o2 o3) (by rw [e]) (pick_rep hr _) (Nat.le_trans hlen hn) s₂.toks
                refine Run.ok (tail_any hL.isList.typeIs slot_list_getitem.lookup (wpAny_getItem_list_slice hL.isList hsl (partO_is r1 e1) (partO_is r2 e2) (partO_is r3 e3) h0 ?_ (sizeLine_ge (by rw [List.size_toArray, hr.length]; exact hn))) (hs _ _))
                refine ⟨_, rel', x', Rep.obj_iff.mpr ⟨_, ?_, rfl⟩⟩
                rw [← rel₂.len, List.getElem?_concat_length]
  | _ => exact Run.stuck

/-! ### methods of lists -/
def appendG : V → List V → M V
  | .obj l, [v] => fun σ => match σ.st[l]? with
    | some (.lst vs) => if l ≠ 0 ∧ vs.length < 1000000 then .ok .none { σ with st := σ.st.set l (.lst (vs ++ [v])) } else .stuck
    | _ => .stuck
  | _, _ => fun _ => .stuck
theorem meth_append : MethOk K "list.append" appendG := by
  intro F fk σ ρ s o wo vs ws rel ro r
  unfold appendG
  split
  · rename_i l v
    obtain ⟨w, ws', rfl, r1, r2⟩ := RepL.cons_iff.mp r
    rw [RepL.nil_iff.mp r2]
    cases hl : σ.st[l]? with
    | none => exact Run.stuck
    | some c =>
      cases c with
      | lst xs =>
        dsimp only
        obtain ⟨x, us, n, rfl, hρ, hL, hr, hn⟩ := rel.list ro hl
        by_cases hz : l ≠ 0 ∧ xs.length < 1000000
        · rw [if_pos hz]
          refine Run.ok (call_meets PySem.F.slot_list_append ⟨_, hL, rfl⟩ PySem.F.entry_list_append (PySem.F.args_list_append_2 _ _) (list_append x us.toArray n w (sizeLine_ge (by rw [List.size_toArray, hr.length]; exact hn))) ⟨hL, ?_⟩)
          obtain ⟨rel', x'⟩ := rel.upd (s' := { s with heap := s.heap.update x (Obj.mapSeq fun y => y.push w) }) (vs := xs ++ [v]) (ws := us ++ [w]) hρ hz.1 (Heap.SameBut.update ..) (by
            have := hL.update (fun y => y.push w)
            rw [List.push_toArray] at this
            exact this) (hr.append (RepL.cons r1 RepL.nil)) (by have := hz.2; simp; (first | lia | omega)) rfl rfl
          exact ⟨ρ, rel', x', Rep.none⟩
        · rw [if_neg hz]; exact Run.stuck
  · exact Run.stuck

def popG : V → List V → M V
  | .obj l, [] => fun σ => if l = 0 then .stuck else match σ.st[l]? with
    | some (.lst vs) => match vs[vs.length - 1]? with
      | some v => .ok v { σ with st := σ.st.set l (.lst (vs.eraseIdx (vs.length - 1))) }
      | none => .stuck
    | _ => .stuck
  | .obj l, [.int k] => fun σ => if l = 0 then .stuck else match σ.st[l]? with
    | some (.lst vs) => match ix vs.length k with
      | some j => match vs[j]? with
        | some v => .ok v { σ with st := σ.st.set l (.lst (vs.eraseIdx j)) }
        | none => .stuck
      | none => .stuck
    | _ => .stuck
  | _, _ => fun _ => .stuck
theorem erase_toArray (us : List Value) (j : Nat) : us.toArray.eraseIdxIfInBounds j = (us.eraseIdx j).toArray := by
  by_cases h : j < us.length
  · unfold Array.eraseIdxIfInBounds
    rw [dif_pos (by simpa using h)]
    simp
  · unfold Array.eraseIdxIfInBounds
    rw [dif_neg (by simpa using h), List.eraseIdx_of_length_le (by (first | lia | omega))]
theorem meth_pop : MethOk K "list.pop" popG := by
  intro F fk σ ρ s o wo vs ws rel ro r
  unfold popG
  split
  · rename_i l
    rw [RepL.nil_iff.mp r]
    by_cases hl0 : l = 0
    · simp only [if_pos hl0]; exact Run.stuck
    simp only [if_neg hl0]
    cases hl : σ.st[l]? with
    | none => exact Run.stuck
    | some c =>
      cases c with
      | lst xs =>
        dsimp only
        obtain ⟨x, us, n, rfl, hρ, hL, hr, hn⟩ := rel.list ro hl
        cases hv : xs[xs.length - 1]? with
        | none => exact Run.stuck
        | some v =>
          obtain ⟨w, hw, rw'⟩ := hr.get? hv
          refine Run.ok (call_meets PySem.F.slot_list_pop ⟨_, hL, rfl⟩ PySem.F.entry_list_pop (PySem.F.args_list_pop_1 _) (PySem.MeetsSeq.list_pop_last x us.toArray n w (by simpa [hr.length] using hw) (sizeLine_ge (by rw [List.size_toArray, hr.length]; exact hn))) ⟨hL, ?_⟩)
          rw [List.size_toArray, hr.length]
          obtain ⟨rel', x'⟩ := rel.upd (s' := { s with heap := s.heap.update x (Obj.mapSeq fun y => y.eraseIdxIfInBounds (xs.length - 1)) }) (vs := xs.eraseIdx (xs.length - 1)) (ws := us.eraseIdx (xs.length - 1)) hρ hl0 (Heap.SameBut.update ..) (by
            have := hL.update (fun y => y.eraseIdxIfInBounds (xs.length - 1))
            rw [erase_toArray] at this
            exact this) (hr.eraseIdx _) (Nat.le_trans (List.length_eraseIdx_le ..) hn) rfl rfl
          exact ⟨ρ, rel', x', rw'.mono x'⟩
  · rename_i l k
    obtain ⟨w, ws', rfl, r1, r2⟩ := RepL.cons_iff.mp r
    rw [RepL.nil_iff.mp r2]
    obtain ⟨t, rfl⟩ := Rep.int_iff.mp r1
    by_cases hl0 : l = 0
    · simp only [if_pos hl0]; exact Run.stuck
    simp only [if_neg hl0]
    cases hl : σ.st[l]? with
    | none => exact Run.stuck
    | some c =>
      cases c with
      | lst xs =>
        dsimp only
        obtain ⟨x, us, n, rfl, hρ, hL, hr, hn⟩ := rel.list ro hl
        cases hi : ix xs.length k with
        | none => exact Run.stuck
        | some j =>
          dsimp only
          cases hv : xs[j]? with
          | none => exact Run.stuck
          | some v =>
            obtain ⟨w, hw, rw'⟩ := hr.get? hv
            have hrg := ix_range hi hn
            have hfit : Builtin.List.listFitsIndex k = true := by
              by_cases h0 : 0 ≤ k
              · exact fitsIndex_of h0 (by (first | lia | omega))
              · exact fitsIndex_neg (by (first | lia | omega)) (by (first | lia | omega))
            refine Run.ok (call_meets PySem.F.slot_list_pop ⟨_, hL, rfl⟩ PySem.F.entry_list_pop (PySem.F.args_list_pop_2 _ _) (PySem.MeetsSeq.list_pop_at x us.toArray n k t j w hfit (by rw [List.size_toArray, hr.length]; exact ix_seq hi) (by simpa using hw) (sizeLine_ge (by rw [List.size_toArray, hr.length]; exact hn))) ⟨hL, ?_⟩)
            obtain ⟨rel', x'⟩ := rel.upd (s' := { s with heap := s.heap.update x (Obj.mapSeq fun y => y.eraseIdxIfInBounds j) }) (vs := xs.eraseIdx j) (ws := us.eraseIdx j) hρ hl0 (Heap.SameBut.update ..) (by
              have := hL.update (fun y => y.eraseIdxIfInBounds j)
              rw [erase_toArray] at this
              exact this) (hr.eraseIdx _) (Nat.le_trans (List.length_eraseIdx_le ..) hn) rfl rfl
            exact ⟨ρ, rel', x', rw'.mono x'⟩
  · exact Run.stuck

end Mine


/-! part F13 -/
set_option autoImplicit false
set_option maxRecDepth 100000
set_option linter.unusedVariables false
open PySem PySem.W PyProof.Rows
namespace Mine

variable {K : Glo} {F : Frm}

def rngLen (a b c : Int) : Nat := (Builtin.Range.rangeSize a b c).toNat
def nxtOf : V → S → Nat → Option (Option V)
  | .obj l => fun σ i => match σ.st[l]? with
    | some (.lst vs) => some vs[i]?
    | _ => none
  | .tup vs => fun _ i => some vs[i]?
  | .rng a b c => fun _ i => some (if i < rngLen a b c then some (.int (a + i * c)) else none)
  | _ => fun _ _ => none
def okIter : V → M Unit
  | .obj l => chkL (.obj l)
  | .tup _ => fun σ => .ok () σ
  | .rng a b c => fun σ => if Builtin.Range.small a b c = true then .ok () σ else .stuck
  | _ => fun _ => .stuck

theorem rangeSize_nonneg (a b c : Int) : 0 ≤ Builtin.Range.rangeSize a b c := by
  unfold Builtin.Range.rangeSize
  split
  · split
    · have := Int.ediv_nonneg (a := b - a - 1) (b := c) (by (first | lia | omega)) (by (first | lia | omega)); (first | lia | omega)
    · (first | lia | omega)
  · split
    · have := Int.ediv_nonneg (a := a - b - 1) (b := -c) (by (first | lia | omega)) (by (first | lia | omega)); (first | lia | omega)
    · (first | lia | omega)
theorem rngLen_eq (a b c : Int) : ((rngLen a b c : Nat) : Int) = Builtin.Range.rangeSize a b c := Int.toNat_of_nonneg (rangeSize_nonneg a b c)

theorem iter_list {ρ₀ : List Addr} {h₀ : Heap} {I a : Addr} {l : Nat} (fk : FOk F) (hρ : ρ₀[l]? = some a) :
    Iter K F I (fun i o => o.cls = .type "list_iterator" ∧ o.data = .fields #[.ref a, .int i 0]) (nxtOf (.obj l)) ρ₀ h₀ := by
  refine ⟨fun i o h => ⟨_, _, h.2, h.1, by decide, by decide⟩, fun i o s A Q E e h q => wpAny_pyIter_listiter ⟨o, e, h.1, h.2⟩ q, ?_⟩
  intro σ ρ s i o rel x ho hs
  have hρ' := getElem?_prefix x.pre hρ
  unfold nxtOf
  dsimp only
  cases hl : σ.st[l]? with
  | none => trivial
  | some c =>
    cases c with
    | lst vs =>
      dsimp only
      obtain ⟨_, ws, n, hL, hr⟩ := rel.cell l a _ hρ' hl
      cases hv : vs[i]? with
      | none =>
        have hw : ws.toArray[i]? = none := by
          have : ws[i]? = none := by rw [List.getElem?_eq_none_iff] at hv ⊢; rw [hr.length]; exact hv
          simpa using this
        exact wpAny_pyNext_list_end fk.hd ⟨o, ho, hs.1, hs.2⟩ hL.isList hw fun h' hx => ⟨rfl, hx, rfl, rfl⟩
      | some v =>
        obtain ⟨w, hw, q⟩ := hr.get? hv
        refine wpAny_pyNext_list_item ⟨o, ho, hs.1, hs.2⟩ hL.isList (by simpa using hw) fun h' hit hsb => ⟨w, rfl, hsb.extBut, rfl, rfl, ?_, ?_⟩
        · obtain ⟨o', e, c, d⟩ := hit; exact ⟨o', e, c, d⟩
        · refine Rep.mono' (List.prefix_refl _) (fun b o' e f => hsb.extBut b o' ?_ e) q
          exact hid_ne_froz ho hs.2 (by rw [hs.1]; decide) e f

theorem iter_range {ρ₀ : List Addr} {h₀ : Heap} {I : Addr} {a b c : Int} (fk : FOk F) :
    Iter K F I (fun i o => i ≤ rngLen a b c ∧ o = { cls := .type "range_iterator", dict := none, data := .fields #[rawInt (a + i * c), rawInt ((rngLen a b c : Int) - i), rawInt c], slots := #[] }) (nxtOf (.rng a b c)) ρ₀ h₀ := by
  refine ⟨fun i o h => by obtain ⟨_, rfl⟩ := h; exact ⟨_, _, rfl, rfl, by decide, by decide⟩, fun i o s A Q E e h q => by obtain ⟨_, rfl⟩ := h; exact wpAny_pyIter_rangeiter e q, ?_⟩
  intro σ ρ s i o rel x ho hs
  obtain ⟨hi, rfl⟩ := hs
  unfold nxtOf
  dsimp only
  by_cases hlt : i < rngLen a b c
  · rw [if_pos hlt]
    dsimp only
    refine wpAny_pyNext_range_item ho (by (first | lia | omega)) fun h' hit hsb => ⟨_, rfl, hsb.extBut, rfl, rfl, ⟨_, hit, by (first | lia | omega), ?_⟩, Rep.int ..⟩
    have e1 : a + ((i + 1 : Nat) : Int) * c = a + (i : Int) * c + c := by rw [Int.natCast_add, Int.add_mul]; simp [Int.add_assoc]
    have e2 : ((rngLen a b c : Nat) : Int) - ((i + 1 : Nat) : Int) = (rngLen a b c : Int) - (i : Int) - 1 := by (first | lia | omega)
    rw [e1, e2]
  · rw [if_neg hlt]
    dsimp only
    exact wpAny_pyNext_range_end fk.hd ho (by (first | lia | omega)) fun h' hx => ⟨rfl, hx, rfl, rfl⟩

theorem iter_tuple {ρ₀ : List Addr} {h₀ : Heap} {I a : Addr} {vs : List V} {ws : List Value} (fk : FOk F) (ht : IsTup h₀ a ws.toArray) (hr : RepL K h₀ ρ₀ vs ws) :
    Iter K F I (fun i o => o.cls = .type "tuple_iterator" ∧ o.data = .fields #[.ref a, .int i 0]) (nxtOf (.tup vs)) ρ₀ h₀ := by
  refine ⟨fun i o h => ⟨_, _, h.2, h.1, by decide, by decide⟩, fun i o s A Q E e h q => wpAny_pyIter_tupleiter ⟨o, e, h.1, h.2⟩ q, ?_⟩
  intro σ ρ s i o rel x ho hs
  have ht' : s.heap.IsTuple a ws.toArray := by
    obtain ⟨o', e, c, n, d⟩ := ht
    exact ⟨o', x.froz a o' e (.inl ⟨c, _, n, d⟩), c, n, d⟩
  have hr' := hr.mono x
  unfold nxtOf
  dsimp only
  cases hv : vs[i]? with
  | none =>
    have hw : ws.toArray[i]? = none := by
      have : ws[i]? = none := by rw [List.getElem?_eq_none_iff] at hv ⊢; rw [hr.length]; exact hv
      simpa using this
    exact wpAny_pyNext_tuple_end fk.hd ⟨o, ho, hs.1, hs.2⟩ ht' hw fun h' hx => ⟨rfl, hx, rfl, rfl⟩
  | some v =>
    obtain ⟨w, hw, q⟩ := hr'.get? hv
    refine wpAny_pyNext_tuple_item ⟨o, ho, hs.1, hs.2⟩ ht' (by simpa using hw) fun h' hit hsb => ⟨w, rfl, hsb.extBut, rfl, rfl, ?_, ?_⟩
    · obtain ⟨o', e, c, d⟩ := hit; exact ⟨o', e, c, d⟩
    · refine Rep.mono' (List.prefix_refl _) (fun b o' e f => hsb.extBut b o' ?_ e) q
      exact hid_ne_froz ho hs.2 (by rw [hs.1]; decide) e f

theorem fresh_facts {σ : S} {ρ : List Addr} {s : Shared} (rel : Rel K F σ ρ s) : s.heap.get? s.heap.objs.size = none ∧ K.base.get? s.heap.objs.size = none ∧ s.heap.objs.size ∉ F.mine ∧ s.heap.objs.size ∉ ρ := by
  have h0 : s.heap.get? s.heap.objs.size = none := Heap.get?_none_of_le (Nat.le_refl _)
  refine ⟨h0, ?_, ?_, ?_⟩
  · cases e : K.base.get? s.heap.objs.size with
    | none => rfl
    | some o => have := rel.base _ _ e; rw [h0] at this; cases this
  · intro h
    obtain ⟨_, o, e⟩ := rel.mineAbove _ h
    rw [h0] at e; cases e
  · intro h
    obtain ⟨_, o, e, _⟩ := rel.toGRel.alive h
    rw [h0] at e; cases e

theorem simS_for (fk : FOk F) {target iter : Expr} {body : List Stmt} {mi : M V} {t : V → M Unit} {b : M Fl} (pos : Pos) (n : Nat) (hi : SimE K F iter mi) (ht : SimT K F target t) (hb : SimSs K F body b)
    (hs : ∀ x, foldedSetIterable iter F.env x = pure x := by intro _; rfl) :
    SimS K F (.For target iter body [] pos) (do let v ← mi; okIter v; forG (nxtOf v) t b n 0) := by
  intro σ ρ s rel
  rw [exec_For]
  refine Run.standAt (Run.bind (hi σ ρ s rel) fun v σ₁ ρ₁ s₁ w _ rel₁ x₁ rv => ?_)
  rw [hs w, pureBind]
  refine Run.standAt ?_
  refine Run.of_wp fun hne => ?_
  obtain ⟨f0, f1, f2, f3⟩ := fresh_facts rel₁
  have hok : okIter v σ₁ = .ok () σ₁ ∧ (okIter v >>= fun _ => forG (nxtOf v) t b n 0) σ₁ = forG (nxtOf v) t b n 0 σ₁ := by
    have : okIter v σ₁ = .ok () σ₁ := by
      cases v with
      | obj l =>
        show chkL (.obj l) σ₁ = _
        cases hc : σ₁.st[l]? with
        | none => exact absurd (by rw [M.bind_def]; simp only [okIter, chkL, hc]) hne
        | some c => cases c with | lst us => exact chkL_ok hc
      | tup vs => rfl
      | rng a b' c =>
        unfold okIter
        by_cases hsm : Builtin.Range.small a b' c = true
        · simp only [hsm, if_true]
        · exact absurd (by rw [M.bind_def]; simp only [okIter, hsm]; rfl) hne
      | _ => exact absurd (by rw [M.bind_def]; rfl) hne
    exact ⟨this, M.bind_ok this⟩
  rw [hok.2] at hne ⊢
  cases v with
  | obj l =>
    obtain ⟨a, hρ, rfl⟩ := Rep.obj_iff.mp rv
    obtain ⟨items, hL⟩ := rel₁.toGRel.alive (List.mem_of_getElem? hρ)
    refine wpAny_bind (wpAny_holding (wpAny_pyIter_list hL ?_))
    exact run_forLoop ht hb (iter_list fk hρ) (rel₁.push _ s₁.toks) (Ext.push _) f0 f1 f2 f3 (Heap.get?_push_size _ rfl) ⟨rfl, rfl⟩ n hne
  | tup vs =>
    obtain ⟨_, a, ws, rfl, htp, hr⟩ := Rep.tup_iff.mp rv
    refine wpAny_bind (wpAny_holding (wpAny_pyIter_tuple htp ?_))
    exact run_forLoop ht hb (iter_tuple fk htp hr) (rel₁.push _ s₁.toks) (Ext.push _) f0 f1 f2 f3 (Heap.get?_push_size _ rfl) ⟨rfl, rfl⟩ n hne
  | rng a b' c =>
    obtain ⟨r, t', u, v', rfl, hR⟩ := Rep.rng_iff.mp rv
    have hsm : Builtin.Range.small a b' c = true := by
      by_cases h : Builtin.Range.small a b' c = true
      · exact h
      · have := hok.1; simp only [okIter, h] at this; cases this
    refine wpAny_bind (wpAny_holding (wpAny_pyIter_range hR hsm ?_))
    refine run_forLoop ht hb (iter_range (a := a) (b := b') (c := c) fk) (rel₁.push _ s₁.toks) (Ext.push _) f0 f1 f2 f3 (Heap.get?_push_size _ rfl) ⟨Nat.zero_le _, ?_⟩ n hne
    rw [rngLen_eq]; simp
  | _ => cases hok.1

end Mine


/-! part F14 -/
set_option autoImplicit false
set_option maxRecDepth 100000
set_option linter.unusedVariables false
open PySem PySem.W PyProof.Rows
namespace Mine

variable {K : Glo} {F : Frm}

/-- what iter(v) makes -/
theorem wp_pyIter {σ : S} {ρ : List Addr} {s : Shared} {v : V} {w : Value} (rel : Rel K F σ ρ s) (rv : Rep K s.heap ρ v w) (hok : okIter v σ = .ok () σ) :
    ∃ (obj : Obj) (Src : Nat → Obj → Prop), Src 0 obj ∧ obj.isFreed = false ∧ (∀ F' : Frm, FOk F' → Iter K F' s.heap.objs.size Src (nxtOf v) ρ s.heap) ∧
      ∀ (A : Around) (Q : Value → Shared → Prop) (E : Value → Shared → Prop), Q (.ref s.heap.objs.size) { s with heap := s.heap.push obj } → wpAny (model K.prog K.w) A (pyIter w) Q E s := by
  cases v with
  | obj l =>
    obtain ⟨a, hρ, rfl⟩ := Rep.obj_iff.mp rv
    obtain ⟨items, hL⟩ := rel.toGRel.alive (List.mem_of_getElem? hρ)
    exact ⟨_, _, ⟨rfl, rfl⟩, rfl, fun F' fk => iter_list fk hρ, fun A Q E q => wpAny_pyIter_list hL q⟩
  | tup vs =>
    obtain ⟨_, a, ws, rfl, htp, hr⟩ := Rep.tup_iff.mp rv
    exact ⟨_, _, ⟨rfl, rfl⟩, rfl, fun F' fk => iter_tuple fk htp hr, fun A Q E q => wpAny_pyIter_tuple htp q⟩
  | rng a b c =>
    obtain ⟨r, t', u, v', rfl, hR⟩ := Rep.rng_iff.mp rv
    have hsm : Builtin.Range.small a b c = true := by
      by_cases h : Builtin.Range.small a b c = true
      · exact h
      · simp only [okIter, h] at hok; cases hok
    refine ⟨_, _, ⟨Nat.zero_le _, ?_⟩, rfl, fun F' fk => iter_range (a := a) (b := b) (c := c) fk, fun A Q E q => wpAny_pyIter_range hR hsm q⟩
    rw [rngLen_eq]; simp
  | _ => cases hok

/-- one turn of a comprehension's clause -/
def testSem (env : Env) : Option Expr → Sem Bool
  | none => pure true
  | some c => isTrue c env (eval c env)
def TurnOk (e : Expr) (d : Nat) (env : Env) (acc : Value) (target : Expr) (test : Option Expr) (inner : Sem Unit) : Prop :=
  ∀ (M : Model) (A : Around) (Q : PySem.Fin → Shared → Prop) (E : Value → Shared → Prop) (s : Shared) (it : Value),
    wpAny M A (pyNext it) (fun r s₁ => match r with
      | none => Q (.done .next) s₁
      | some v => wpAny M A (letOwnedTupleGo target it v) (fun _ s₂ => wpAny M A (assign target env v) (fun _ s₃ => wpAny M A (testSem env test) (fun ok s₄ =>
          if ok = true then wpAny M A inner (fun _ s₅ => Q (.again (.compLoop e d it acc env)) s₅) E s₄ else Q (.again (.compLoop e d it acc env)) s₄) E s₃) E s₂) E s₁) E s →
    wpAny M A (compTurn e d it acc env) Q E s

def emitL (elt : Expr) (env : Env) (acc : Value) : Sem Unit := do let _ ← call (.builtin "list.append") [acc, ← eval elt env]

theorem wp_ifs {M : Model} {A : Around} {E : Value → Shared → Prop} {s : Shared} {env : Env} {P : Bool → Shared → Prop} (ifs : List Expr) (test : Option Expr) (ht : ifs = test.toList) (h : wpAny M A (testSem env test) P E s) :
    wpAny M A (forIn ifs true fun c __s => if __s = true then do let ok ← isTrue c env (eval c env); pure (ForInStep.yield ok) else pure (ForInStep.yield __s)) P E s := by
  subst ht
  cases test with
  | none => exact h
  | some c =>
    show wpAny M A (forIn [c] true _) P E s
    rw [List.forIn_cons]
    refine wpAny_bind ?_
    rw [if_pos rfl]
    refine wpAny_bind (wpAny_mono h (fun b s' hb => wpAny_pure ?_) fun _ _ e => e)
    dsimp only
    rw [List.forIn_nil]
    exact wpAny_pure hb

theorem turn_end {gens : List Comprehension} {d : Nat} {elt target iter : Expr} {ifs : List Expr} {test : Option Expr} {scope : Scope} {pos : Pos} {env : Env} {acc : Value} (hg : gens[d]? = some ⟨target, iter, ifs, 0⟩) (hn : gens[d + 1]? = none) (ht : ifs = test.toList) :
    TurnOk (.ListComp elt gens scope pos) d env acc target test (emitL elt env acc) := by
  intro M A Q E s it h
  unfold compTurn
  simp only [hg]
  refine wpAny_bind (wpAny_standAt (wpAny_bind ?_))
  refine wpAny_mono h (fun r s₁ h₁ => ?_) fun _ _ e => e
  cases r with
  | none => exact wpAny_pure h₁
  | some v =>
    refine wpAny_bind (wpAny_mono h₁ (fun _ s₂ h₂ => wpAny_bind (wpAny_mono h₂ (fun _ s₃ h₃ => ?_) fun _ _ e => e)) fun _ _ e => e)
    refine wpAny_bind (wp_ifs ifs test ht (wpAny_mono h₃ (fun ok s₄ h₄ => ?_) fun _ _ e => e))
    cases ok with
    | true =>
      simp only [if_true] at h₄ ⊢
      rw [hn]
      exact wpAny_bind (wpAny_mono h₄ (fun _ s₅ h₅ => wpAny_pure h₅) fun _ _ e => e)
    | false =>
      simp only [Bool.false_eq_true, if_false] at h₄ ⊢
      exact wpAny_pure h₄

def SimA (K : Glo) (F : Frm) (l : Nat) (a : Addr) (t : Sem Unit) (m : M Unit) : Prop := ∀ σ ρ s, Rel K F σ ρ s → ρ[l]? = some a → Run K F t URep (m σ) ρ s

def compB (c : M Bool) (inner : M Unit) : M Fl := do
  if (← c) = true then do
    inner
    pure .next
  else pure .next

def SimTest (K : Glo) (F : Frm) (test : Option Expr) (c : M Bool) : Prop := ∀ σ ρ s, Rel K F σ ρ s → Run K F (testSem F.env test) BRep (c σ) ρ s
theorem simTest_none : SimTest K F none (pure true) := fun _ _ _ rel => Run.pure rel rfl
theorem simTest_some {e : Expr} {c : M Bool} (h : SimB K F e c) : SimTest K F (some e) c := h

theorem codeAny_compLoopT {prog : Program} {w : World} {A : Around} {s : Shared} {R : Result → Shared → Prop} {elt : Expr} {gens : List Comprehension} {scope : Scope} {pos : Pos} {d : Nat} {it acc : Value} {env : Env} (I : Nat → Shared → Prop)
    (turn : ∀ n s, I n s → wpAny (model prog w) A (compTurn (.ListComp elt gens scope pos) d it acc env) (fun fin s' => match fin with
      | .done f => R (.ok f) s'
      | .again c' => c' = .compLoop (.ListComp elt gens scope pos) d it acc env ∧ ∃ m, m < n ∧ I m s') (notedBy (model prog w) A env fun e s' => R (.error e) s') s)
    (n : Nat) (h : I n s) : codeAny (model prog w) A (.compLoop (.ListComp elt gens scope pos) d it acc env) R s := by
  refine codeAny_loop rfl I (fun n s hI => ?_) n h
  show wpAny _ A ((compTurn (.ListComp elt gens scope pos) d it acc env).onRaise (fun x => do noteFrame x env; theTreesLotGoes x)) _ _ s
  exact wpAny_noted (turn n s hI)

/-! ### hidden objects -/
def Hid (h : Heap) (b : Addr) : Prop := ∃ o vs, h.get? b = some o ∧ o.data = .fields vs ∧ o.cls ≠ .type "range"
section
variable {σ : S} {ρ ρ₀ ρ' : List Addr} {s s' : Shared} {mine fp : List Addr} {h h₀ h' : Heap}

theorem GRel.hid {st : Store} (rel : GRel K st ρ s) (hb : ∀ a ∈ fp, K.base.get? a = none) (ho : ∀ a ∈ fp, Hid s.heap a) (hx : ∀ b o, b ∉ fp → s.heap.get? b = some o → s'.heap.get? b = some o)
    (hg : s'.gens = s.gens) (hos : s'.os = s.os) : GRel K st ρ s' where
  gens := hg.trans rel.gens
  os := hos.trans rel.os
  base := fun b o' e => hx b o' (fun hm => by rw [hb b hm] at e; cases e) (rel.base b o' e)
  len := rel.len
  cell := fun l b c h1 h2 => by
    refine (rel.cell l b c h1 h2).mono (List.prefix_refl _) (fun d o' e f => hx d o' (fun hm => ?_) e) fun it n x => hx b _ (fun hm => ?_) x
    · obtain ⟨o, vs, g, d1, d2⟩ := ho d hm; exact hid_ne_froz g d1 d2 e f rfl
    · obtain ⟨o, vs, g, d1, d2⟩ := ho b hm; exact hid_ne_list g d1 x.isList rfl
  nodup := rel.nodup
  above := rel.above
theorem Rel.hid (rel : Rel K F σ ρ s) (hb : ∀ a ∈ fp, K.base.get? a = none) (hm : ∀ a ∈ fp, a ∉ F.mine) (ho : ∀ a ∈ fp, Hid s.heap a) (hx : ∀ b o, b ∉ fp → s.heap.get? b = some o → s'.heap.get? b = some o)
    (hg : s'.gens = s.gens) (hos : s'.os = s.os) : Rel K F σ ρ s' where
  toGRel := rel.toGRel.hid hb ho hx hg hos
  vars := fun y u e => by
    obtain ⟨w, h1, h2⟩ := rel.vars y u e
    refine ⟨w, h1.mono (fun m n => ?_) (fun c u _ n => ?_), Rep.mono' (List.prefix_refl _) (fun d o' e f => hx d o' (fun q => ?_) e) h2⟩
    · have hne : F.env.locals ∉ fp := fun q => by obtain ⟨o, vs, g, d1, d2⟩ := ho _ q; exact hid_ne_ns g d1 n rfl
      obtain ⟨o', es, ep, e', r⟩ := n
      exact ⟨o', es, ep, hx _ _ hne e', r⟩
    · have hne : c ∉ fp := fun q => by obtain ⟨o, vs, g, d1, d2⟩ := ho _ q; exact hid_ne_cell g d1 n rfl
      obtain ⟨o', e', r⟩ := n
      exact ⟨o', hx _ _ hne e', r⟩
    · obtain ⟨o, vs, g, d1, d2⟩ := ho d q; exact hid_ne_froz g d1 d2 e f rfl
  loc := by
    obtain ⟨m, n⟩ := rel.loc
    have hne : F.env.locals ∉ fp := fun q => by obtain ⟨o, vs, g, d1, d2⟩ := ho _ q; exact hid_ne_ns g d1 n rfl
    obtain ⟨o', es, ep, e', r⟩ := n
    exact ⟨m, o', es, ep, hx _ _ hne e', r⟩
  cels := fun y c e => by
    obtain ⟨v, n⟩ := rel.cels y c e
    have hne : c ∉ fp := fun q => by obtain ⟨o, vs, g, d1, d2⟩ := ho _ q; exact hid_ne_cell g d1 n rfl
    obtain ⟨o', e', r⟩ := n
    exact ⟨v, o', hx _ _ hne e', r⟩
  mineAbove := fun b hb' => by
    obtain ⟨h1, o', h2⟩ := rel.mineAbove b hb'
    exact ⟨h1, o', hx b o' (fun q => hm b q hb') h2⟩
  mineApart := rel.mineApart
  mineLoc := rel.mineLoc
/-- all stays but hidden objects -/
theorem Ext.hidden (ho : ∀ a ∈ fp, Hid h a) (hal : ∀ a ∈ fp, ∃ o, h'.get? a = some o) (hx : ∀ b o, b ∉ fp → h.get? b = some o → h'.get? b = some o) : Ext (fp ++ mine) ρ ρ h h' where
  pre := List.prefix_refl _
  alive := fun b o e => by
    by_cases q : b ∈ fp
    · exact hal b q
    · exact ⟨o, hx b o q e⟩
  new := fun _ ha => .inl ha
  keep := fun b o e _ n2 => ⟨o, hx b o (fun q => n2 (List.mem_append_left _ q)) e, .refl _⟩
  froz := fun b o e f => hx b o (fun q => by obtain ⟨o', vs, g, d1, d2⟩ := ho b q; exact hid_ne_froz g d1 d2 e f rfl) e
theorem Ext.hide (x : Ext mine ρ₀ ρ h₀ h) (y : Ext (fp ++ mine) ρ ρ' h h') (h0 : ∀ a ∈ fp, h₀.get? a = none) : Ext mine ρ₀ ρ' h₀ h' where
  pre := x.pre.trans y.pre
  alive := fun b o e => by obtain ⟨o1, e1⟩ := x.alive b o e; exact y.alive b o1 e1
  new := fun a ha => by
    rcases y.new a ha with h1 | h1
    · exact x.new a h1
    · refine .inr ?_
      cases e : h₀.get? a with
      | none => rfl
      | some o => obtain ⟨o1, e1⟩ := x.alive a o e; rw [h1] at e1; cases e1
  keep := fun b o e n1 n2 => by
    obtain ⟨o1, e1, l1⟩ := x.keep b o e n1 n2
    have hn : b ∉ ρ := fun hb => by
      rcases x.new b hb with h1 | h1
      · exact n1 h1
      · rw [e] at h1; cases h1
    obtain ⟨o2, e2, l2⟩ := y.keep b _ e1 hn (fun q => by
      rcases List.mem_append.mp q with q | q
      · rw [h0 b q] at e; cases e
      · exact n2 q)
    exact ⟨o2, e2, l1.trans l2⟩
  froz := fun b o e f => y.froz b o (x.froz b o e f) f
end

theorem Ext.butHid {ρ ρ₀ mine fp : List Addr} {h h₀ h' : Heap} (x : Ext mine ρ₀ ρ h₀ h) (h0 : ∀ a ∈ fp, h₀.get? a = none) (hx : ∀ b o, b ∉ fp → h.get? b = some o → h'.get? b = some o) : Ext mine ρ₀ ρ h₀ h' where
  pre := x.pre
  alive := fun b o' e => by
    obtain ⟨o1, e1⟩ := x.alive b o' e
    exact ⟨o1, hx b o1 (fun q => by rw [h0 b q] at e; cases e) e1⟩
  new := x.new
  keep := fun b o' e n1 n2 => by
    obtain ⟨o1, e1, l1⟩ := x.keep b o' e n1 n2
    exact ⟨o1, hx b o1 (fun q => by rw [h0 b q] at e; cases e) e1, l1⟩
  froz := fun b o' e f => hx b o' (fun q => by rw [h0 b q] at e; cases e) (x.froz b o' e f)

/-! ### general iterators -/
/-- nx i is the i-th step; fp are the iterator's own objects -/
structure GIter (K : Glo) (F : Frm) (target : Expr) (I : Addr) (fp : List Addr) (St : Nat → Heap → Prop) (nx : Nat → M (Option V)) (ρ₁ : List Addr) (h₁ : Heap) : Prop where
  hid : ∀ i h, St i h → ∀ b ∈ fp, Hid h b
  frame : ∀ i h h', St i h → (∀ b ∈ fp, ∀ o, h.get? b = some o → h'.get? b = some o) → St i h'
  self : ∀ i (s : Shared) (A : Around) (Q : Value → Shared → Prop) (E : Value → Shared → Prop), St i s.heap → Q (.ref I) s → wpAny (model K.prog K.w) A (pyIter (.ref I)) Q E s
  step : ∀ σ ρ s i, Rel K F σ ρ s → Ext F.mine ρ₁ ρ h₁ s.heap → (∀ b ∈ fp, b ∉ ρ) → (∀ b ∈ fp, b ∉ F.mine) → (∀ b ∈ fp, K.base.get? b = none) → St i s.heap →
    match nx i σ with
    | .stuck => True
    | .exc _ _ => True
    | .ok none σ' => wpAny (model K.prog K.w) F.A (pyNext (.ref I)) (fun r s' => r = none ∧ ∃ ρ', Rel K F σ' ρ' s' ∧ ρ <+: ρ' ∧ ∀ ρ₀ h₀, Ext F.mine ρ₀ ρ h₀ s.heap → (∀ b ∈ fp, h₀.get? b = none) → Ext F.mine ρ₀ ρ' h₀ s'.heap) (fun _ _ => False) s
    | .ok (some v) σ' => wpAny (model K.prog K.w) F.A (pyNext (.ref I)) (fun r s' => ∃ w, r = some w ∧ ∀ (Q : Unit → Shared → Prop) (E : Value → Shared → Prop),
        (∀ s'' ρ', Rel K F σ' ρ' s'' → Ext (fp ++ F.mine) ρ ρ' s.heap s''.heap → St (i + 1) s''.heap → Rep K s''.heap ρ' v w → Q () s'') → wpAny (model K.prog K.w) F.A (letOwnedTupleGo target (.ref I) w) Q E s') (fun _ _ => False) s

def forN (nx : Nat → M (Option V)) (t : V → M Unit) (b : M Fl) : Nat → Nat → M Fl
  | 0, _ => stuck
  | n + 1, i => fun σ => match nx i σ with
    | .ok none σ' => .ok .next σ'
    | .ok (some v) σ' => (do
      t v
      match ← b with
      | .next => forN nx t b n (i + 1)
      | .cont => forN nx t b n (i + 1)
      | .brk => pure .next
      | .ret v => pure (.ret v)) σ'
    | _ => .stuck
theorem forN_succ (nx : Nat → M (Option V)) (t : V → M Unit) (b : M Fl) (n i : Nat) (σ : S) : forN nx t b (n + 1) i σ = (match nx i σ with
    | .stuck => .stuck
    | .exc _ _ => .stuck
    | .ok none σ' => .ok .next σ'
    | .ok (some v) σ' => match t v σ' with
      | .stuck => .stuck
      | .exc e σ₂ => .exc e σ₂
      | .ok _ σ₂ => match b σ₂ with
        | .ok .next σ₃ => forN nx t b n (i + 1) σ₃
        | .ok .cont σ₃ => forN nx t b n (i + 1) σ₃
        | .ok .brk σ₃ => .ok .next σ₃
        | .ok (.ret v) σ₃ => .ok (.ret v) σ₃
        | .exc e σ₃ => .exc e σ₃
        | .stuck => .stuck) := by
  rw [forN]
  dsimp only
  cases nx i σ with
  | stuck => rfl
  | exc e y => rfl
  | ok x σ' =>
    cases x with
    | none => rfl
    | some v =>
      dsimp only
      rw [M.bind_def]
      cases t v σ' with
      | stuck => rfl
      | exc e y => rfl
      | ok u y =>
        dsimp only
        rw [M.bind_def]
        cases b y with
        | stuck => rfl
        | exc e z => rfl
        | ok f z => cases f <;> rfl
theorem forNC_succ (nx : Nat → M (Option V)) (t : V → M Unit) (c : M Bool) (mi : M Unit) (n i : Nat) (σ : S) : forN nx t (compB c mi) (n + 1) i σ = (match nx i σ with
    | .stuck => .stuck
    | .exc _ _ => .stuck
    | .ok none σ' => .ok .next σ'
    | .ok (some v) σ' => match t v σ' with
      | .stuck => .stuck
      | .exc e σ₂ => .exc e σ₂
      | .ok _ σ₂ => match c σ₂ with
        | .stuck => .stuck
        | .exc e σ₃ => .exc e σ₃
        | .ok false σ₃ => forN nx t (compB c mi) n (i + 1) σ₃
        | .ok true σ₃ => match mi σ₃ with
          | .stuck => .stuck
          | .exc e σ₄ => .exc e σ₄
          | .ok _ σ₄ => forN nx t (compB c mi) n (i + 1) σ₄) := by
  rw [forN_succ]
  cases nx i σ with
  | stuck => rfl
  | exc e y => rfl
  | ok x σ' =>
    cases x with
    | none => rfl
    | some v =>
      dsimp only
      cases t v σ' with
      | stuck => rfl
      | exc e y => rfl
      | ok u y =>
        dsimp only
        unfold compB
        rw [M.bind_def]
        cases c y with
        | stuck => rfl
        | exc e z => rfl
        | ok b z =>
          cases b with
          | false => rfl
          | true =>
            dsimp only
            rw [if_pos rfl, M.bind_def]
            cases mi z <;> rfl

theorem run_compLoopG {elt target : Expr} {gens : List Comprehension} {scope : Scope} {pos : Pos} {d l : Nat} {a : Addr} {test : Option Expr} {inner : Sem Unit} {t : V → M Unit} {c : M Bool} {mi : M Unit}
    (hto : TurnOk (.ListComp elt gens scope pos) d F.env (.ref a) target test inner)
    (ht : SimT K F target t) (hc : SimTest K F test c) (hin : SimA K F l a inner mi) {I : Addr} {fp : List Addr} {St : Nat → Heap → Prop} {nx : Nat → M (Option V)}
    {σ : S} {ρ ρ₀ : List Addr} {s : Shared} {h₀ : Heap} (hI : GIter K F target I fp St nx ρ₀ h₀) (rel : Rel K F σ ρ s) (hla : ρ[l]? = some a) (x₀ : Ext F.mine ρ₀ ρ h₀ s.heap) (h0 : ∀ b ∈ fp, h₀.get? b = none) (hbase : ∀ b ∈ fp, K.base.get? b = none)
    (hmi : ∀ b ∈ fp, b ∉ F.mine) (hρ : ∀ b ∈ fp, b ∉ ρ) (hs : St 0 s.heap) (n : Nat) (hne : forN nx t (compB c mi) n 0 σ ≠ .stuck) :
    codeAny (model K.prog K.w) F.A (.compLoop (.ListComp elt gens scope pos) d (.ref I) (.ref a) F.env) (fun r s' => match r with
      | .ok _ => ∃ f σ' ρ', forN nx t (compB c mi) n 0 σ = .ok f σ' ∧ Rel K F σ' ρ' s' ∧ Ext F.mine ρ₀ ρ' h₀ s'.heap ∧ ρ'[l]? = some a
      | .error v => EO K F (forN nx t (compB c mi) n 0 σ) ρ₀ h₀ v s') s := by
  refine codeAny_compLoopT (fun k s' => ∃ σ₁ ρ' i, Rel K F σ₁ ρ' s' ∧ forN nx t (compB c mi) k i σ₁ = forN nx t (compB c mi) n 0 σ ∧ Ext F.mine ρ₀ ρ' h₀ s'.heap ∧ (∀ b ∈ fp, b ∉ ρ') ∧ ρ'[l]? = some a ∧ St i s'.heap) ?_ n
    ⟨σ, ρ, 0, rel, rfl, x₀, hρ, hla, hs⟩
  generalize forN nx t (compB c mi) n 0 σ = out at hne ⊢
  rintro k s₁ ⟨σ₁, ρ', i, rel₁, e₁, x₁, hρ₁, hla₁, hs₁⟩
  have note : ∀ {v : Value} {s' : Shared}, EO K F out ρ₀ h₀ v s' → notedBy (model K.prog K.w) F.A F.env (fun e s' => EO K F out ρ₀ h₀ e s') v s' := fun hx => hx.noted
  cases k with
  | zero => exact absurd e₁.symm hne
  | succ k =>
    rw [forNC_succ] at e₁
    have hstep := hI.step σ₁ ρ' s₁ i rel₁ x₁ hρ₁ hmi hbase hs₁
    refine hto _ _ _ _ _ _ ?_
    cases en : nx i σ₁ with
    | stuck => rw [en] at e₁; exact absurd e₁.symm hne
    | exc x y => rw [en] at e₁; exact absurd e₁.symm hne
    | ok ov σn =>
      rw [en] at hstep e₁
      cases ov with
      | none =>
        refine wpAny_mono hstep (fun r s₂ h => ?_) fun _ _ h => h.elim
        obtain ⟨rfl, ρ₂, r2, y1, y2⟩ := h
        exact ⟨.next, σn, ρ₂, e₁.symm, r2, y2 _ _ x₁ h0, getElem?_prefix y1 hla₁⟩
      | some v =>
        refine wpAny_mono hstep (fun r s₂' h => ?_) fun _ _ h => h.elim
        obtain ⟨w, rfl, h⟩ := h
        refine h _ _ fun s₂ ρ₂ rel₂ y₂ hs₂ rv => ?_
        have x₂ := x₁.hide y₂ h0
        have hρ₂ : ∀ b ∈ fp, b ∉ ρ₂ := fun b hb hin => by
          rcases y₂.new b hin with q | q
          · exact hρ₁ b hb q
          · obtain ⟨o, _, g, _⟩ := hI.hid i _ hs₁ b hb
            rw [g] at q; cases q
        have hla₂ := getElem?_prefix y₂.pre hla₁
        have hta := ht σn ρ₂ s₂ v w rel₂ rv
        have hold : ∀ {ρ₂ ρ₃ : List Addr} {g g' : Heap} {i : Nat}, Ext F.mine ρ₂ ρ₃ g g' → (∀ b ∈ fp, b ∉ ρ₂) → St i g → St i g' ∧ (∀ b ∈ fp, b ∉ ρ₃) := by
          intro ρ₂ ρ₃ g g' i x hn e
          refine ⟨hI.frame i g g' e fun b hb o ho => ?_, fun b hb hin => ?_⟩
          · obtain ⟨o1, vs, g1, d1, _⟩ := hI.hid i g e b hb
            rw [g1] at ho; cases ho
            obtain ⟨o', e', l⟩ := x.keep b o g1 (hn b hb) (hmi b hb)
            rw [e', l.same (fun es n q => by rw [d1] at q; cases q)]
          · rcases x.new b hin with q | q
            · exact hn b hb q
            · obtain ⟨o1, vs, g1, d1, _⟩ := hI.hid i g e b hb
              rw [g1] at q; cases q
        dsimp only at e₁
        cases et : t v σn with
        | stuck => rw [et] at e₁; exact absurd e₁.symm hne
        | exc e σ₃ =>
          rw [et] at hta e₁
          refine wpAny_mono (hta.wp (by simp)) (fun a s' hq => by obtain ⟨_, _, _, e, _⟩ := hq; cases e) fun v s' he => ?_
          obtain ⟨e', σ', ρ'', e2, r1, r2, r3⟩ := he
          cases e2
          exact note ⟨e, σ₃, ρ'', e₁.symm, r1, x₂.trans r2, r3⟩
        | ok u σ₃ =>
          rw [et] at hta e₁
          refine wpAny_mono (hta.wp (by simp)) (fun _ s₃ hq => ?_) fun v s' he => by obtain ⟨_, _, _, e, _⟩ := he; cases e
          obtain ⟨_, σ', ρ₃, e2, rel₃, x₃, _⟩ := hq
          cases e2
          dsimp only at e₁
          have x03 := x₂.trans x₃
          obtain ⟨ho₃, hρ₃⟩ := hold x₃ hρ₂ hs₂
          have hla₃ := getElem?_prefix x₃.pre hla₂
          have hcc := hc σ₃ ρ₃ s₃ rel₃
          cases ec : c σ₃ with
          | stuck => rw [ec] at e₁; exact absurd e₁.symm hne
          | exc e σ₄ =>
            rw [ec] at hcc e₁
            refine wpAny_mono (hcc.wp (by simp)) (fun a s' hq => by obtain ⟨_, _, _, e, _⟩ := hq; cases e) fun v s' he => ?_
            obtain ⟨e', σ', ρ'', e2, r1, r2, r3⟩ := he
            cases e2
            exact note ⟨e, σ₄, ρ'', e₁.symm, r1, x03.trans r2, r3⟩
          | ok b σ₄ =>
            rw [ec] at hcc e₁
            refine wpAny_mono (hcc.wp (by simp)) (fun wb s₄ hq => ?_) fun v s' he => by obtain ⟨_, _, _, e, _⟩ := he; cases e
            obtain ⟨b', σ', ρ₄, e3, rel₄, x₄, rb⟩ := hq
            cases e3
            have : wb = b := rb
            subst this
            have x04 := x03.trans x₄
            obtain ⟨ho₄, hρ₄⟩ := hold x₄ hρ₃ ho₃
            have hla₄ := getElem?_prefix x₄.pre hla₃
            cases wb with
            | false =>
              dsimp only at e₁
              simp only [Bool.false_eq_true, if_false]
              exact ⟨trivial, k, Nat.lt_succ_self _, σ₄, ρ₄, i + 1, rel₄, e₁, x04, hρ₄, hla₄, ho₄⟩
            | true =>
              dsimp only at e₁
              simp only [if_true]
              have hii := hin σ₄ ρ₄ s₄ rel₄ hla₄
              cases ei : mi σ₄ with
              | stuck => rw [ei] at e₁; exact absurd e₁.symm hne
              | exc e σ₅ =>
                rw [ei] at hii e₁
                refine wpAny_mono (hii.wp (by simp)) (fun a s' hq => by obtain ⟨_, _, _, e, _⟩ := hq; cases e) fun v s' he => ?_
                obtain ⟨e', σ', ρ'', e2, r1, r2, r3⟩ := he
                cases e2
                exact note ⟨e, σ₅, ρ'', e₁.symm, r1, x04.trans r2, r3⟩
              | ok u σ₅ =>
                rw [ei] at hii e₁
                refine wpAny_mono (hii.wp (by simp)) (fun _ s₅ hq => ?_) fun v s' he => by obtain ⟨_, _, _, e, _⟩ := he; cases e
                obtain ⟨_, σ', ρ₅, e4, rel₅, x₅, _⟩ := hq
                cases e4
                have x05 := x04.trans x₅
                obtain ⟨ho₅, hρ₅⟩ := hold x₅ hρ₄ ho₄
                exact ⟨trivial, k, Nat.lt_succ_self _, σ₅, ρ₅, i + 1, rel₅, e₁, x05, hρ₅, getElem?_prefix x₅.pre hla₄, ho₅⟩

/-- a comprehension's clause goes through its iterator -/
def nxM (nxt : S → Nat → Option (Option V)) (i : Nat) : M (Option V) := fun σ => match nxt σ i with
  | none => .stuck
  | some ov => .ok ov σ
theorem forN_nxM (nxt : S → Nat → Option (Option V)) (t : V → M Unit) (b : M Fl) : ∀ (n i : Nat) (σ : S), forN (nxM nxt) t b n i σ = forG nxt t b n i σ
  | 0, _, _ => rfl
  | n + 1, i, σ => by
    rw [forN_succ, forG_succ]
    unfold nxM
    cases nxt σ i with
    | none => rfl
    | some ov =>
      cases ov with
      | none => rfl
      | some v =>
        dsimp only
        cases t v σ with
        | stuck => rfl
        | exc e y => rfl
        | ok u y =>
          dsimp only
          cases b y with
          | stuck => rfl
          | exc e z => rfl
          | ok f z => cases f <;> first | rfl | exact forN_nxM nxt t b n (i + 1) z
theorem Iter.g {target : Expr} {I : Addr} {Src : Nat → Obj → Prop} {nxt : S → Nat → Option (Option V)} {ρ₀ : List Addr} {h₀ : Heap} (hI : Iter K F I Src nxt ρ₀ h₀) :
    GIter K F target I [I] (fun i h => ∃ o, h.get? I = some o ∧ Src i o) (nxM nxt) ρ₀ h₀ where
  hid := by
    rintro i h ⟨o, g, hs⟩ b hb
    obtain ⟨vs, T, d, c, _, r⟩ := hI.1 i o hs
    rw [List.mem_singleton.mp hb]
    exact ⟨o, vs, g, d, by rw [c]; exact fun e => r (by cases e; rfl)⟩
  frame := by
    rintro i h h' ⟨o, g, hs⟩ hk
    exact ⟨o, hk I (by simp) o g, hs⟩
  self := by
    rintro i s A Q E ⟨o, g, hs⟩ q
    exact hI.2.1 i o s A Q E g hs q
  step := by
    rintro σ ρ s i rel x hρ hm hb ⟨o, g, hs⟩
    have hstep := hI.2.2 σ ρ s i o rel x g hs
    obtain ⟨vs, T, hd, hc, hT, hr⟩ := hI.1 i o hs
    have hh : ∀ a ∈ [I], Hid s.heap a := by
      intro a ha
      rw [List.mem_singleton.mp ha]
      exact ⟨o, vs, g, hd, by rw [hc]; exact fun e => hr (by cases e; rfl)⟩
    unfold nxM
    cases en : nxt σ i with
    | none => trivial
    | some ov =>
      rw [en] at hstep
      cases ov with
      | none =>
        refine wpAny_mono hstep (fun r s₂ h => ?_) fun _ _ h => h.elim
        obtain ⟨rfl, hx, hg, hos⟩ := h
        have hx' : ∀ b o, b ∉ [I] → s.heap.get? b = some o → s₂.heap.get? b = some o := fun b o hb e => hx b o (by simpa using hb) e
        exact ⟨rfl, ρ, rel.hid hb hm hh hx' hg hos, List.prefix_refl _, fun ρ₀ h₀ x h0 => x.butHid h0 hx'⟩
      | some v =>
        refine wpAny_mono hstep (fun r s₂ h => ?_) fun _ _ h => h.elim
        obtain ⟨w, rfl, hx, hg, hos, ⟨o₂, ho₂, hs₂⟩, rv⟩ := h
        refine ⟨w, rfl, fun Q E q => ?_⟩
        obtain ⟨vs₂, T₂, hd₂, hc₂, hT₂, hr₂⟩ := hI.1 (i + 1) o₂ hs₂
        have hx' : ∀ b o, b ∉ [I] → s.heap.get? b = some o → s₂.heap.get? b = some o := fun b o hb e => hx b o (by simpa using hb) e
        refine owned_skip ho₂ hc₂ hT₂ (q s₂ ρ (rel.hid hb hm hh hx' hg hos) (Ext.hidden hh (fun a ha => by rw [List.mem_singleton.mp ha]; exact ⟨_, ho₂⟩) hx') ⟨o₂, ho₂, hs₂⟩ rv)
theorem run_compLoop {elt target : Expr} {gens : List Comprehension} {scope : Scope} {pos : Pos} {d l : Nat} {a : Addr} {test : Option Expr} {inner : Sem Unit} {t : V → M Unit} {c : M Bool} {mi : M Unit}
    (hto : TurnOk (.ListComp elt gens scope pos) d F.env (.ref a) target test inner)
    (ht : SimT K F target t) (hc : SimTest K F test c) (hin : SimA K F l a inner mi) {I : Addr} {Src : Nat → Obj → Prop} {nxt : S → Nat → Option (Option V)}
    {σ : S} {ρ ρ₀ : List Addr} {s : Shared} {h₀ : Heap} {o : Obj} (hI : Iter K F I Src nxt ρ₀ h₀) (rel : Rel K F σ ρ s) (hla : ρ[l]? = some a) (x₀ : Ext F.mine ρ₀ ρ h₀ s.heap) (h0 : h₀.get? I = none) (hbase : K.base.get? I = none)
    (hmi : I ∉ F.mine) (hρ : I ∉ ρ) (ho : s.heap.get? I = some o) (hs : Src 0 o) (n : Nat) (hne : forG nxt t (compB c mi) n 0 σ ≠ .stuck) :
    codeAny (model K.prog K.w) F.A (.compLoop (.ListComp elt gens scope pos) d (.ref I) (.ref a) F.env) (fun r s' => match r with
      | .ok _ => ∃ f σ' ρ', forG nxt t (compB c mi) n 0 σ = .ok f σ' ∧ Rel K F σ' ρ' s' ∧ Ext F.mine ρ₀ ρ' h₀ s'.heap ∧ ρ'[l]? = some a
      | .error v => EO K F (forG nxt t (compB c mi) n 0 σ) ρ₀ h₀ v s') s := by
  have key : ∀ {P : Addr → Prop}, P I → ∀ b ∈ [I], P b := fun h b hb => by rw [List.mem_singleton.mp hb]; exact h
  rw [← forN_nxM] at hne ⊢
  exact run_compLoopG hto ht hc hin hI.g rel hla x₀ (key h0) (key hbase) (key hmi) (key hρ) ⟨o, ho, hs⟩ n hne

theorem codeAny_compStartD {prog : Program} {w : World} {A : Around} {s : Shared} {R : Result → Shared → Prop} {elt target iter : Expr} {ifs : List Expr} {gens : List Comprehension} {scope : Scope} {pos : Pos} {d : Nat} {it acc : Value} {env : Env}
    (hg : gens[d]? = some ⟨target, iter, ifs, 0⟩)
    (h0 : codeAny (model prog w) A (.compLoop (.ListComp elt gens scope pos) d it acc env) R s)
    (h : ∀ (Q : Value → Shared → Prop) (E : Value → Shared → Prop), Q it s → wpAny (model prog w) A (pyIter it) Q E s) :
    codeAny (model prog w) A (.compStart (.ListComp elt gens scope pos) d it acc env) R s := by
  refine codeAny_of_tree ?_
  show wpAny _ A ((compStart (.ListComp elt gens scope pos) d it acc env).onRaise (fun x => do noteFrame x env; standAt theWindowsPlace)) _ _ s
  refine wpAny_notedAt ?_
  unfold compStart
  have hcl : clausesOf (.ListComp elt gens scope pos) = gens := rfl
  rw [hcl, hg]
  show wpAny _ _ (ask >>= _) _ _ s
  refine wpAny_bind (wpAny_askSetting (wpAny_ite ?_))
  split
  · first
      | exact wpAny_bind (wpAny_pure (wpAny_pure (And.intro rfl h0)))
      | exact wpAny_pure (And.intro rfl h0)
  · refine wpAny_bind (wpAny_rule ?_)
    show wpAny _ _ (standAt iter.pos >>= _) _ _ s
    exact wpAny_bind (wpAny_standAt (wpAny_bind (h _ _ (wpAny_pure (And.intro rfl h0)))))

/-! ### the comprehension's own frame -/
def compFrm (F : Frm) (scope : Scope) (cl : List (Str × Addr)) (C : Addr) : Frm := ⟨compEnvC scope cl C F.env, F.A, [C]⟩
theorem FOk.comp (fk : FOk F) {scope : Scope} {cl : List (Str × Addr)} {C : Addr} (hk : scope.kind = .function) : FOk (compFrm F scope cl C) := ⟨hk, fk.glob, fk.blt, fk.hd, fk.units⟩

/-- one more hidden namespace that has changed -/
theorem Rel.butC {σ : S} {ρ : List Addr} {s s' : Shared} {C : Addr} {m : Str → Option Value} (rel : Rel K F σ ρ s) (hb : K.base.get? C = none) (hm : C ∉ F.mine) (hρ : C ∉ ρ) (hn : s.heap.Ns C m) (hs : Heap.SameBut C s.heap s'.heap)
    (hg : s'.gens = s.gens) (ho : s'.os = s.os) : Rel K F σ ρ s' where
  toGRel := rel.toGRel.mineBut hb hρ hs (fun b o e f => ns_ne_tup hn e f) hg ho
  vars := fun y u e => by
    obtain ⟨w, h1, h2⟩ := rel.vars y u e
    refine ⟨w, h1.mono (fun m' n => n.sameBut hs (fun q => hm (q ▸ rel.mineLoc))) (fun c u _ n => n.sameBut hs (fun q => cell_ne_ns n hn q.symm)), ?_⟩
    exact Rep.mono' (List.prefix_refl _) (fun b o e f => (hs.2 b (ns_ne_tup hn e f)).trans e) h2
  loc := by obtain ⟨m', n⟩ := rel.loc; exact ⟨m', n.sameBut hs (fun q => hm (q ▸ rel.mineLoc))⟩
  cels := fun y c e => by obtain ⟨v, n⟩ := rel.cels y c e; exact ⟨v, n.sameBut hs (fun q => cell_ne_ns n hn q.symm)⟩
  mineAbove := fun b hb' => by
    obtain ⟨h1, o, h2⟩ := rel.mineAbove b hb'
    exact ⟨h1, o, (hs.2 b (fun q => hm (q ▸ hb'))).trans h2⟩
  mineApart := rel.mineApart
  mineLoc := rel.mineLoc
theorem Ext.butC {mine ρ₀ ρ : List Addr} {h₀ h h' : Heap} {C : Addr} (x : Ext mine ρ₀ ρ h₀ h) (h0 : h₀.get? C = none) (hs : Heap.SameBut C h h') : Ext mine ρ₀ ρ h₀ h' where
  pre := x.pre
  alive := fun b o e => by
    obtain ⟨o1, e1⟩ := x.alive b o e
    exact ⟨o1, (hs.2 b (by rintro rfl; rw [h0] at e; cases e)).trans e1⟩
  new := x.new
  keep := fun b o e n1 n2 => by
    obtain ⟨o1, e1, l1⟩ := x.keep b o e n1 n2
    exact ⟨o1, (hs.2 b (by rintro rfl; rw [h0] at e; cases e)).trans e1, l1⟩
  froz := fun b o e f => (hs.2 b (by rintro rfl; rw [h0] at e; cases e)).trans (x.froz b o e f)

/-- what the clauses of a comprehension do, in the comprehension's frame -/
def SimClauses (K : Glo) (F : Frm) (elt : Expr) (gens : List Comprehension) (scope : Scope) (pos : Pos) (d : Nat) (m : Nat → (S → Nat → Option (Option V)) → M Unit) : Prop :=
  ∀ (l : Nat) (a : Addr) (I : Addr) (Src : Nat → Obj → Prop) (nxt : S → Nat → Option (Option V)) σ ρ ρ₀ s h₀ o, Iter K F I Src nxt ρ₀ h₀ → Rel K F σ ρ s → ρ[l]? = some a → Ext F.mine ρ₀ ρ h₀ s.heap → h₀.get? I = none → K.base.get? I = none →
    I ∉ F.mine → I ∉ ρ → s.heap.get? I = some o → Src 0 o → m l nxt σ ≠ .stuck →
    codeAny (model K.prog K.w) F.A (.compStart (.ListComp elt gens scope pos) d (.ref I) (.ref a) F.env) (fun r s' => match r with
      | .ok _ => ∃ σ' ρ', m l nxt σ = .ok () σ' ∧ Rel K F σ' ρ' s' ∧ Ext F.mine ρ₀ ρ' h₀ s'.heap ∧ ρ'[l]? = some a
      | .error v => EO K F (m l nxt σ) ρ₀ h₀ v s') s

def loopC (n : Nat) (t : V → M Unit) (c : M Bool) (mi : M Unit) (nxt : S → Nat → Option (Option V)) : M Unit := do
  let _ ← forG nxt t (compB c mi) n 0
  pure ()

theorem loopC_ne {n : Nat} {t : V → M Unit} {c : M Bool} {mi : M Unit} {nxt : S → Nat → Option (Option V)} {σ : S} (h : loopC n t c mi nxt σ ≠ .stuck) : forG nxt t (compB c mi) n 0 σ ≠ .stuck := by
  intro e; apply h; unfold loopC; rw [M.bind_def, e]

theorem clauses_of {elt target iter : Expr} {ifs : List Expr} {gens : List Comprehension} {scope : Scope} {pos : Pos} {d : Nat} {test : Option Expr} {inner : Value → Sem Unit} {t : V → M Unit} {c : M Bool} {mi : Nat → M Unit} (n : Nat)
    (hg : gens[d]? = some ⟨target, iter, ifs, 0⟩)
    (hto : ∀ acc, TurnOk (.ListComp elt gens scope pos) d F.env acc target test (inner acc)) (ht : SimT K F target t) (hc : SimTest K F test c) (hin : ∀ l a, SimA K F l a (inner (.ref a)) (mi l)) :
    SimClauses K F elt gens scope pos d (fun l nxt => loopC n t c (mi l) nxt) := by
  intro l a I Src nxt σ ρ ρ₀ s h₀ o hI rel hla x₀ h0 hb hm hρ ho hs hne
  refine codeAny_compStartD hg ?_ (fun Q E q => hI.2.1 0 o s _ Q E ho hs q)
  refine codeAny_mono (run_compLoop (hto _) ht hc (hin l a) hI rel hla x₀ h0 hb hm hρ ho hs n (loopC_ne hne)) fun r s' h => ?_
  cases r with
  | ok f =>
    obtain ⟨f', σ', ρ', e, r1, r2, r4⟩ := h
    exact ⟨σ', ρ', by show loopC n t c (mi l) nxt σ = _; unfold loopC; rw [M.bind_def, e]; rfl, r1, r2, r4⟩
  | error v =>
    obtain ⟨e, σ', ρ', e1, r1, r2, r3⟩ := h
    exact ⟨e, σ', ρ', by show loopC n t c (mi l) nxt σ = _; unfold loopC; rw [M.bind_def, e1], r1, r2, r3⟩

def appendAt (l : Nat) (v : V) : M Unit := do
  let _ ← appendG (.obj l) [v]
  pure ()
theorem simA_emit (fk : FOk F) {elt : Expr} {me : M V} (he : SimE K F elt me) (l : Nat) (a : Addr) : SimA K F l a (emitL elt F.env (.ref a)) (do let v ← me; appendAt l v) := by
  intro σ ρ s rel hla
  unfold emitL
  refine Run.bind (he σ ρ s rel) fun v σ₁ ρ₁ s₁ w _ rel₁ x₁ rv => ?_
  unfold appendAt
  refine Run.bind (meth_append F fk σ₁ ρ₁ s₁ (.obj l) (.ref a) [v] [w] rel₁ (Rep.obj_iff.mpr ⟨a, getElem?_prefix x₁.pre hla, rfl⟩) (RepL.cons rv RepL.nil)) fun u σ₂ ρ₂ s₂ _ _ rel₂ x₂ _ => ?_
  exact Run.pure rel₂ trivial

end Mine


/-! part F15 -/
set_option autoImplicit false
set_option maxRecDepth 100000
set_option linter.unusedVariables false
open PySem PySem.W PyProof.Rows
namespace Mine

variable {K : Glo} {F : Frm}

def restr (free : List String) (lo : String → Option V) : String → Option V := fun x => if x ∈ free then lo x else none
def compTail (free : List String) (mc : Nat → (S → Nat → Option (Option V)) → M Unit) (v : V) : M V := fun σ => match okIter v σ with
  | .ok _ _ => match mc σ.st.length (nxtOf v) ⟨σ.st ++ [.lst []], restr free σ.lo⟩ with
    | .ok _ σ' => .ok (.obj σ.st.length) ⟨σ'.st, σ.lo⟩
    | .exc e σ' => .exc e ⟨σ'.st, σ.lo⟩
    | .stuck => .stuck
  | _ => .stuck

theorem okIter_ok {v : V} {σ : S} {u : Unit} {σ' : S} (h : okIter v σ = .ok u σ') : okIter v σ = .ok () σ := by
  cases v with
  | obj l =>
    have h' : chkL (.obj l) σ = .ok u σ' := h
    show chkL (.obj l) σ = _
    cases hc : σ.st[l]? with
    | none => simp only [chkL, hc] at h'; cases h'
    | some c => cases c with | lst us => exact chkL_ok hc
  | tup vs => rfl
  | rng a b' c =>
    unfold okIter at h ⊢
    by_cases hsm : Builtin.Range.small a b' c = true
    · simp only [hsm, if_true]
    · simp only [hsm] at h; cases h
  | _ => cases h

structure CompOk (F : Frm) (scope : Scope) (cl : List (Str × Addr)) (free : List String) : Prop where
  clos : closureFor scope F.env = pure cl
  kind : scope.kind = .function
  names : ∀ x ∈ scope.names, x.2 = .local → scope.names.lookup x.1 = some .local
  nocell : ∀ x ∈ scope.names, x.2 ≠ .cell
  free : ∀ x ∈ free, ((relabel scope F.env).names.lookup (Str.ofString x) = some .cell ∨ (relabel scope F.env).names.lookup (Str.ofString x) = some .free) ∧ F.env.kindOf (Str.ofString x) ≠ some .local ∧
    ∀ c, F.env.cells.lookup (Str.ofString x) = some c → cl.lookup (Str.ofString x) = some c
  cells : ∀ x c, cl.lookup x = some c → F.env.cells.lookup x = some c

theorem wp_comp (fk : FOk F) {elt target iter : Expr} {ifs : List Expr} {gs : List Comprehension} {scope : Scope} {pos fpos : Pos} {cl : List (Str × Addr)} {free : List String} {mi : M V} {mc : Nat → (S → Nat → Option (Option V)) → M Unit}
    {use : Option (Value → Sem Unit)} {Q : Value → Shared → Prop} {E : Value → Shared → Prop} (hs : ∀ x, foldedSetIterable iter F.env x = pure x) (ck : CompOk F scope cl free) (hi : SimE K F iter mi)
    (hc : ∀ C, SimClauses K (compFrm F scope cl C) elt (⟨target, iter, ifs, 0⟩ :: gs) scope pos 0 mc) {σ : S} {ρ : List Addr} {s : Shared} (rel : Rel K F σ ρ s) (hne : (mi >>= compTail free mc) σ ≠ .stuck)
    (hQ : ∀ v σ' ρ' s' w C m, (mi >>= compTail free mc) σ = .ok v σ' → Rel K F σ' ρ' s' → Ext F.mine ρ ρ' s.heap s'.heap → Rep K s'.heap ρ' v w → s'.heap.Ns C m → C ∉ F.mine → C ∉ ρ' → K.base.get? C = none → s.heap.get? C = none →
      compPost (model K.prog K.w) F.A E use Q w C (.ok .next) s')
    (hE : ∀ v s', EO K F ((mi >>= compTail free mc) σ) ρ s.heap v s' → E v s') :
    wpAny (model K.prog K.w) F.A (comprehension (.ListComp elt (⟨target, iter, ifs, 0⟩ :: gs) scope pos) scope F.env fpos (newList []) false (eval iter F.env) use) Q E s := by
  refine wpAny_comprehension_free (use := use) rfl hs ck.clos ck.kind ck.names ?_
  refine wpAny_mono (Run.bindWp (P := fun x s₁ => wpAny (model K.prog K.w) F.A (pyIter x) (fun it s₂ => wpAny (model K.prog K.w) F.A (newList []) (fun acc s₃ =>
      wpAny (model K.prog K.w) F.A (newFunctionEnv scope F.env.globals cl [] F.env.qual none .none (some F.env)) (fun cenv s₄ =>
        codeAny (model K.prog K.w) F.A (.compStart (.ListComp elt (⟨target, iter, ifs, 0⟩ :: gs) scope pos) 0 it acc { cenv with scope := relabel scope F.env }) (compPost (model K.prog K.w) F.A E use Q acc cenv.locals) s₄) E s₃) E s₂) E s₁)
    (hi σ ρ s rel) hne ?_) (fun _ _ q => q) (fun v s' q => hE v s' q)
  intro v σ₁ ρ₁ s₁ w e1 e2 rel₁ x₁ rv
  rw [e2] at hne hQ hE
  cases hok : okIter v σ₁ with
  | stuck => exact absurd (by unfold compTail; rw [hok]) hne
  | exc e y => exact absurd (by unfold compTail; rw [hok]) hne
  | ok u y =>
    have hok' := okIter_ok hok
    have eT : compTail free mc v σ₁ = (match mc σ₁.st.length (nxtOf v) ⟨σ₁.st ++ [.lst []], restr free σ₁.lo⟩ with
      | .ok _ σ' => .ok (.obj σ₁.st.length) ⟨σ'.st, σ₁.lo⟩
      | .exc e σ' => .exc e ⟨σ'.st, σ₁.lo⟩
      | .stuck => .stuck) := by unfold compTail; rw [hok]
    obtain ⟨obj, Src, hsrc, hfr, hIt, hpy⟩ := wp_pyIter rel₁ rv hok'
    obtain ⟨f0, f1, f2, f3⟩ := fresh_facts rel₁
    refine hpy _ _ _ ?_
    have rel₂ := rel₁.push obj s₁.toks
    have x₂ : Ext F.mine ρ₁ ρ₁ s₁.heap (s₁.heap.push obj) := Ext.push obj
    refine wpAny_newList ?_ (by simp [sizeLine_eq])
    obtain ⟨rel₃, x₃⟩ := rel₂.newList (vs := []) (ws := []) (o := { cls := .type "list", data := .seq ([] : List Value).toArray }) rfl RepL.nil (by simp) s₁.toks
    refine wpAny_newFunctionEnv ck.nocell (by intro y hy; simp at hy) (fun h₄ hns hsb => ?_) ck.kind
    dsimp only at hns hsb rel₃ x₃ ⊢
    generalize hH : (s₁.heap.push obj).push { cls := .type "list", data := .seq ([] : List Value).toArray } = H at hns hsb rel₃ x₃ ⊢
    have hI : (s₁.heap.push obj).objs.size = s₁.heap.objs.size + 1 := Heap.size_push ..
    have hC : H.objs.size = s₁.heap.objs.size + 2 := by rw [← hH, Heap.size_push, hI]
    generalize hCd : H.objs.size = C at hns hsb hC ⊢
    have hkeep : ∀ b o, H.get? b = some o → h₄.get? b = some o := fun b o e => (hsb.2 b (by rw [← hCd]; exact Nat.ne_of_lt (Heap.lt_size e))).trans (Heap.get?_push_of_some _ e)
    have fC : s₁.heap.get? C = none := Heap.get?_none_of_le (by rw [hC]; (first | lia | omega))
    have bC : K.base.get? C = none := by
      cases e : K.base.get? C with
      | none => rfl
      | some o => have := rel₁.base _ _ e; rw [fC] at this; cases this
    have rel₄ : Rel K (compFrm F scope cl C) ⟨σ₁.st ++ [.lst []], restr free σ₁.lo⟩ (ρ₁ ++ [(s₁.heap.push obj).objs.size]) { s₁ with heap := h₄, toks := s₁.toks + 0 } := by
      refine { toGRel := rel₃.toGRel.kept hkeep rfl rfl, vars := ?_, loc := ⟨_, hns⟩, cels := ?_, mineAbove := ?_, mineApart := ?_, mineLoc := List.mem_singleton.mpr rfl }
      · intro x v' e
        have hx : x ∈ free := by
          by_cases h : x ∈ free
          · exact h
          · simp only [restr, if_neg h] at e; cases e
        simp only [restr, if_pos hx] at e
        obtain ⟨w', h1, h2⟩ := rel₃.vars x v' e
        refine ⟨w', ?_, Rep.mono' (List.prefix_refl _) (kept_tup hkeep) h2⟩
        obtain ⟨q1, q2, q3⟩ := ck.free x hx
        rcases h1 with ⟨k1, _⟩ | ⟨k1, c, ec, n⟩
        · exact absurd k1 q2
        · exact .inr ⟨q1, c, q3 c ec, n.keeps hkeep⟩
      · intro x c e
        obtain ⟨v', n⟩ := rel₃.cels x c (ck.cells x c e)
        exact ⟨v', n.keeps hkeep⟩
      · intro a ha
        have : a = C := List.mem_singleton.mp ha
        subst this
        obtain ⟨o, _, _, e, _⟩ := hns
        exact ⟨bC, o, e⟩
      · intro a ha hb
        have : a = C := List.mem_singleton.mp ha
        subst this
        obtain ⟨_, o, e, _⟩ := rel₃.toGRel.alive hb
        rw [Heap.get?_none_of_le (by rw [hCd]; exact Nat.le_refl _)] at e; cases e
    have x₄ : Ext [C] ρ₁ (ρ₁ ++ [(s₁.heap.push obj).objs.size]) s₁.heap h₄ := by
      refine ⟨List.prefix_append _ _, fun b o e => ⟨o, hkeep b o (by rw [← hH]; exact Heap.get?_push_of_some _ (Heap.get?_push_of_some _ e))⟩, fun a ha => ?_, fun b o e _ _ => ⟨o, hkeep b o (by rw [← hH]; exact Heap.get?_push_of_some _ (Heap.get?_push_of_some _ e)), .refl _⟩,
        fun b o e _ => hkeep b o (by rw [← hH]; exact Heap.get?_push_of_some _ (Heap.get?_push_of_some _ e))⟩
      rcases List.mem_append.mp ha with ha | ha
      · exact .inl ha
      · have := List.mem_singleton.mp ha
        subst this
        exact .inr (Heap.get?_none_of_le (by rw [hI]; (first | lia | omega)))
    have hIC : s₁.heap.objs.size ≠ C := by rw [hC]; (first | lia | omega)
    have hne' : mc σ₁.st.length (nxtOf v) ⟨σ₁.st ++ [.lst []], restr free σ₁.lo⟩ ≠ .stuck := fun e => hne (by rw [eT, e])
    have main := hc C σ₁.st.length (s₁.heap.push obj).objs.size s₁.heap.objs.size Src (nxtOf v) ⟨σ₁.st ++ [.lst []], restr free σ₁.lo⟩ (ρ₁ ++ [(s₁.heap.push obj).objs.size]) ρ₁ { s₁ with heap := h₄, toks := s₁.toks + 0 } s₁.heap obj
      (hIt _ (fk.comp ck.kind)) rel₄ (by rw [← rel₁.len, List.getElem?_concat_length]) x₄ f0 f1 (fun h => hIC (List.mem_singleton.mp h))
      (fun h => by
        rcases List.mem_append.mp h with h | h
        · exact f3 h
        · have := List.mem_singleton.mp h; rw [hI] at this; exact absurd this (Nat.ne_of_lt (Nat.lt_succ_self _)))
      (hkeep _ _ (by rw [← hH]; exact Heap.get?_push_of_some _ (Heap.get?_push_size _ hfr))) hsrc hne'
    refine codeAny_mono main fun r s' h => ?_
    cases r with
    | error v' =>
      obtain ⟨_, _, _, _, _, _, hx⟩ := h
      exact hx.elim
    | ok f =>
      obtain ⟨σ', ρ', em, r1, r2, r4⟩ := h
      rw [em] at eT
      have xn : Ext [] ρ₁ ρ' s₁.heap s'.heap := ⟨r2.pre, r2.alive, r2.new, fun b o e n1 _ => r2.keep b o e n1 (fun hm => by have := List.mem_singleton.mp hm; subst this; rw [fC] at e; cases e), r2.froz⟩
      have relF := rel₁.called r1.toGRel xn fk
      obtain ⟨m, hm⟩ := r1.loc
      have hsC : s.heap.get? C = none := by
        cases e : s.heap.get? C with
        | none => rfl
        | some o => obtain ⟨o', e'⟩ := x₁.alive _ _ e; rw [fC] at e'; cases e'
      have hmC : C ∉ F.mine := fun h => by
        obtain ⟨_, o, e⟩ := rel₁.mineAbove _ h
        rw [fC] at e; cases e
      have := hQ (.obj σ₁.st.length) ⟨σ'.st, σ₁.lo⟩ ρ' s' (.ref (s₁.heap.push obj).objs.size) C m eT relF (x₁.trans (ext_of_nil xn)) (Rep.obj_iff.mpr ⟨_, r4, rfl⟩) hm hmC (r1.mineApart C (List.mem_singleton.mpr rfl)) bC hsC
      cases use <;> exact this

theorem simE_listcomp (fk : FOk F) {elt target iter : Expr} {ifs : List Expr} {gs : List Comprehension} {scope : Scope} {pos : Pos} {cl : List (Str × Addr)} {free : List String} {mi : M V} {mc : Nat → (S → Nat → Option (Option V)) → M Unit}
    (ck : CompOk F scope cl free) (hi : SimE K F iter mi)
    (hc : ∀ C, SimClauses K (compFrm F scope cl C) elt (⟨target, iter, ifs, 0⟩ :: gs) scope pos 0 mc) (hs : ∀ x, foldedSetIterable iter F.env x = pure x := by intro _; rfl) :
    SimE K F (.ListComp elt (⟨target, iter, ifs, 0⟩ :: gs) scope pos) (mi >>= compTail free mc) := by
  intro σ ρ s rel
  refine Run.of_wp fun hne => ?_
  show wpAny _ _ (comprehension (.ListComp elt (⟨target, iter, ifs, 0⟩ :: gs) scope pos) scope F.env _ (newList []) false (eval iter F.env) none) _ _ s
  refine wp_comp fk (use := none) hs ck hi hc rel hne ?_ fun _ _ q => q
  intro v σ' ρ' s' w C m e r1 x1 rv hm q1 q2 q3 q4
  exact ⟨m, hm, fun h' hsb => ⟨v, σ', ρ', e, r1.butC q3 q1 q2 hm hsb rfl rfl, x1.butC q4 hsb, Rep.mono' (List.prefix_refl _) (fun b o e f => (hsb.2 b (ns_ne_tup hm e f)).trans e) rv⟩⟩

/-- name = [.. for ..], where the stores are exchanged -/
theorem simS_assign_comp (fk : FOk F) {elt target iter : Expr} {ifs : List Expr} {gs : List Comprehension} {scope : Scope} {pos spos tpos : Pos} {cl : List (Str × Addr)} {free : List String} {mi : M V} {mc : Nat → (S → Nat → Option (Option V)) → M Unit} {x : String} {mt : V → M Unit}
    (ck : CompOk F scope cl free) (ht : SimT K F (.Name (Str.ofString x) tpos) mt) (hi : SimE K F iter mi)
    (hc : ∀ C, SimClauses K (compFrm F scope cl C) elt (⟨target, iter, ifs, 0⟩ :: gs) scope pos 0 mc)
    (hsw : swapsWith (.ListComp elt (⟨target, iter, ifs, 0⟩ :: gs) scope pos) (some (.Name (Str.ofString x) tpos)) spos.line F.env = pure true := by rfl)
    (hs : ∀ x, foldedSetIterable iter F.env x = pure x := by intro _; rfl) :
    SimS K F (.Assign [.Name (Str.ofString x) tpos] (.ListComp elt (⟨target, iter, ifs, 0⟩ :: gs) scope pos) spos) (do let v ← mi >>= compTail free mc; mt v; pure .next) := by
  intro σ ρ s rel
  rw [exec_Assign_Name_used _ _ _ _ hsw]
  refine Run.standAt ?_
  refine Run.of_wp fun hne => ?_
  have hne1 : (mi >>= compTail free mc) σ ≠ .stuck := fun e => hne (by rw [M.bind_def, e])
  refine wpAny_bind ?_
  show wpAny _ _ (do let _ ← comprehension (.ListComp elt (⟨target, iter, ifs, 0⟩ :: gs) scope pos) scope F.env _ (newList []) false (eval iter F.env) (some (assign (.Name (Str.ofString x) tpos) F.env))) _ _ s
  refine wpAny_bind (wpAny_mono (wp_comp fk (use := some (assign (.Name (Str.ofString x) tpos) F.env)) (Q := fun _ s' => QO K F (FlRep K) ((do let v ← mi >>= compTail free mc; mt v; pure .next : M Fl) σ) ρ s.heap .next s') (E := EO K F ((do let v ← mi >>= compTail free mc; mt v; pure .next : M Fl) σ) ρ s.heap) hs ck hi hc rel hne1 ?_ ?_)
    (fun _ s' hq => wpAny_pure (wpAny_pure hq)) fun _ _ e => e)
  · intro v σ' ρ' s' w C m e r1 x1 rv hm q1 q2 q3 q4
    have e2 : (do let v ← mi >>= compTail free mc; mt v; pure .next : M Fl) σ = (mt v >>= fun _ => (Pure.pure Fl.next : M Fl)) σ' := M.bind_ok e
    rw [e2] at hne ⊢
    show wpAny _ _ (assign (.Name (Str.ofString x) tpos) F.env w) _ _ s'
    refine wpAny_mono (Run.bindWp (P := fun _ s'' => ∃ m, s''.heap.Ns C m ∧ ∀ h', Heap.SameBut C s''.heap h' → QO K F (FlRep K) ((mt v >>= fun _ => (Pure.pure Fl.next : M Fl)) σ') ρ s.heap .next { s'' with heap := h' }) (ht σ' ρ' s' v w r1 rv) hne ?_) (fun _ _ q => q) (fun v s'' q => q.up x1)
    intro u σ₂ ρ₂ s₂ _ e3 e4 rel₂ x₂ _
    rw [e4]
    obtain ⟨o, es, ep, g, d, k, f⟩ := hm
    obtain ⟨o', g', l⟩ := x₂.keep C o g q2 q1
    have hC' : C ∉ ρ₂ := fun hin => by
      rcases x₂.new C hin with h1 | h1
      · exact q2 h1
      · rw [g] at h1; cases h1
    have hm' : s₂.heap.Ns C m := ⟨o', es, ep, g', l.data.1.trans d, k, f⟩
    exact ⟨m, hm', fun h' hsb => ⟨.next, σ₂, ρ₂, rfl, rel₂.butC q3 q1 hC' hm' hsb rfl rfl, (x1.trans x₂).butC q4 hsb, rfl⟩⟩
  · intro v s' q
    obtain ⟨e, σ', ρ', e1, r1, r2, r3⟩ := q
    exact ⟨e, σ', ρ', by rw [M.bind_def, e1], r1, r2, r3⟩

end Mine


/-! part F16 -/
set_option autoImplicit false
set_option maxRecDepth 100000
set_option linter.unusedVariables false
open PySem PySem.W PyProof.Rows
namespace Mine

variable {K : Glo} {F : Frm}

/-! ### range -/
def rangeB : List V → M V
  | [.int n] => pure (.rng 0 n 1)
  | [.int a, .int b] => pure (.rng a b 1)
  | [.int a, .int b, .int c] => if c ≠ 0 ∧ c.natAbs < 1000000 then pure (.rng a b c) else stuck
  | _ => stuck

theorem built_range : BuiltOk K (.type "range") rangeB := by
  intro F fk σ ρ s vs ws rel r
  have fin : ∀ (a b c : Int) (t u v : Tok) (tk : Nat), ∃ ρ', Rel K F σ ρ' { s with heap := s.heap.push { cls := .type "range", data := .fields #[.int a t, .int b u, .int c v] }, toks := tk } ∧
      Ext F.mine ρ ρ' s.heap (s.heap.push { cls := .type "range", data := .fields #[.int a t, .int b u, .int c v] }) ∧
      Rep K (s.heap.push { cls := .type "range", data := .fields #[.int a t, .int b u, .int c v] }) ρ' (.rng a b c) (.ref s.heap.objs.size) := by
    intro a b c t u v tk
    exact ⟨ρ, rel.push _ tk, Ext.push _, Rep.rng_iff.mpr ⟨_, t, u, v, rfl, IsRange.new _ a b c t u v⟩⟩
  unfold rangeB
  split
  · rename_i n
    obtain ⟨x, r', rfl, r1, r2⟩ := RepL.cons_iff.mp r
    obtain rfl := RepL.nil_iff.mp r2
    obtain ⟨t, rfl⟩ := Rep.int_iff.mp r1
    exact Run.ok (call_range_1 (fin ..))
  · rename_i a b
    obtain ⟨x, r', rfl, r1, r2⟩ := RepL.cons_iff.mp r
    obtain ⟨y, r'', rfl, r3, r4⟩ := RepL.cons_iff.mp r2
    obtain rfl := RepL.nil_iff.mp r4
    obtain ⟨t, rfl⟩ := Rep.int_iff.mp r1
    obtain ⟨u, rfl⟩ := Rep.int_iff.mp r3
    exact Run.ok (call_range_2 (fin ..))
  · rename_i a b c
    by_cases hc : c ≠ 0 ∧ c.natAbs < 1000000
    · rw [if_pos hc]
      obtain ⟨x, r', rfl, r1, r2⟩ := RepL.cons_iff.mp r
      obtain ⟨y, r'', rfl, r3, r4⟩ := RepL.cons_iff.mp r2
      obtain ⟨z, r''', rfl, r5, r6⟩ := RepL.cons_iff.mp r4
      obtain rfl := RepL.nil_iff.mp r6
      obtain ⟨t, rfl⟩ := Rep.int_iff.mp r1
      obtain ⟨u, rfl⟩ := Rep.int_iff.mp r3
      obtain ⟨v, rfl⟩ := Rep.int_iff.mp r5
      exact Run.ok (call_range_3 hc.1 (fin ..) (.inl (PyProof.noPylong_small (by (first | lia | omega)))))
    · rw [if_neg hc]; exact Run.stuck
  · exact Run.stuck

section
variable {prog : Program} {w : World} {A : Around} {E : Value → Shared → Prop} {s : Shared}
end
theorem fits_of {i : Int} (h : -1000000 ≤ i ∧ i ≤ 1000000) : Builtin.Range.rangeFitsLong i = true := by
  unfold Builtin.Range.rangeFitsLong
  simp only [Bool.and_eq_true, decide_eq_true_eq]
  (first | lia | omega)
end Mine


/-! part F17 -/
set_option autoImplicit false
set_option maxRecDepth 100000
set_option linter.unusedVariables false
open PySem PySem.W PyProof.Rows
namespace Mine

variable {K : Glo} {F : Frm}

/-- a new list that lies somewhere above -/
theorem Rel.newAt {σ : S} {ρ : List Addr} {s s' : Shared} {vs : List V} {ws : List Value} {a : Addr} {n : Nat} (rel : Rel K F σ ρ s) (hk : ∀ b o, s.heap.get? b = some o → s'.heap.get? b = some o) (h0 : s.heap.get? a = none)
    (hL : IsL s'.heap a ws.toArray n) (hr : RepL K s.heap ρ vs ws) (hln : vs.length ≤ 1000000) (hg : s'.gens = s.gens) (ho : s'.os = s.os) :
    Rel K F { σ with st := σ.st ++ [.lst vs] } (ρ ++ [a]) s' ∧ Ext F.mine ρ (ρ ++ [a]) s.heap s'.heap := by
  have r := rel.kept hk hg ho
  have hpre : ρ <+: ρ ++ [a] := List.prefix_append _ _
  have hanρ : a ∉ ρ := fun h => by
    obtain ⟨_, o, e, _⟩ := rel.toGRel.alive h
    rw [h0] at e; cases e
  have x : Ext F.mine ρ (ρ ++ [a]) s.heap s'.heap := by
    refine ⟨hpre, fun b o' e => ⟨o', hk _ _ e⟩, fun b hb => ?_, fun b o' e _ _ => ⟨o', hk _ _ e, .refl _⟩, kept_tup hk⟩
    rcases List.mem_append.mp hb with hb | hb
    · exact .inl hb
    · simp only [List.mem_singleton] at hb; subst hb; exact .inr h0
  refine ⟨{ gens := r.gens, os := r.os, base := r.base, len := ?_, cell := ?_, nodup := ?_, above := ?_, vars := ?_, loc := r.loc, cels := r.cels, mineAbove := r.mineAbove, mineApart := ?_, mineLoc := r.mineLoc }, x⟩
  · simp [rel.len]
  · intro l b c h1 h2
    dsimp only at h2
    by_cases hl : l < σ.st.length
    · rw [List.getElem?_append_left (by rw [rel.len]; exact hl)] at h1
      rw [List.getElem?_append_left hl] at h2
      exact (rel.cell l b c h1 h2).mono hpre (kept_tup hk) fun _ _ x => hk _ _ x
    · have hl' : l = σ.st.length := by
        rcases List.getElem?_eq_some_iff.mp h2 with ⟨h3, _⟩
        simp at h3; (first | lia | omega)
      subst hl'
      rw [← rel.len, List.getElem?_concat_length] at h1; cases h1
      rw [List.getElem?_concat_length] at h2; cases h2
      exact ⟨hln, ws, n, hL, RepL.mono' hpre (kept_tup hk) hr⟩
  · refine List.nodup_append.mpr ⟨rel.nodup, by simp, ?_⟩
    intro b hb c hc
    simp only [List.mem_singleton] at hc; subst hc
    rintro rfl
    exact hanρ hb
  · intro l b hlb hl0
    by_cases hlt : l < ρ.length
    · rw [List.getElem?_append_left hlt] at hlb
      exact rel.above l b hlb hl0
    · have hb : b = a := by
        rw [List.getElem?_append_right (by (first | lia | omega))] at hlb
        have := List.mem_of_getElem? hlb
        simpa using this
      subst hb
      cases e : K.base.get? b with
      | none => rfl
      | some o' => have := rel.base _ _ e; rw [h0] at this; cases this
  · intro y v e
    obtain ⟨w, h1, h2⟩ := r.vars y v e
    exact ⟨w, h1, Rep.mono' hpre (fun _ _ e _ => e) h2⟩
  · intro b hb hc
    rcases List.mem_append.mp hc with hc | hc
    · exact rel.mineApart b hb hc
    · simp only [List.mem_singleton] at hc; subst hc
      obtain ⟨_, o', e⟩ := rel.mineAbove _ hb
      rw [h0] at e; cases e

/-! ### sorted of ints -/
def intsOf : List V → Option (List Int)
  | [] => some []
  | .int i :: vs => (intsOf vs).map (i :: ·)
  | _ :: _ => none
theorem intsOf_are {h : Heap} {ρ : List Addr} : ∀ {vs : List V} {ws : List Value} {ns : List Int}, RepL K h ρ vs ws → intsOf vs = some ns → IntsAre ws ns
  | [], ws, ns, r, e => by rw [RepL.nil_iff.mp r]; cases e; exact .nil
  | .int i :: vs, ws, ns, r, e => by
    obtain ⟨x, r', rfl, r1, r2⟩ := RepL.cons_iff.mp r
    obtain ⟨t, rfl⟩ := Rep.int_iff.mp r1
    unfold intsOf at e
    cases h' : intsOf vs with
    | none => rw [h'] at e; cases e
    | some ns' => rw [h'] at e; cases e; exact .cons i t (intsOf_are r2 h')
  | .none :: _, _, _, _, e => by cases e
  | .bool _ :: _, _, _, _, e => by cases e
  | .str _ :: _, _, _, _, e => by cases e
  | .tup _ :: _, _, _, _, e => by cases e
  | .obj _ :: _, _, _, _, e => by cases e
  | .fn _ :: _, _, _, _, e => by cases e
  | .rng _ _ _ :: _, _, _, _, e => by cases e
theorem ints_rep {h : Heap} {ρ : List Addr} : ∀ {ws : List Value} {ns : List Int}, IntsAre ws ns → RepL K h ρ (ns.map .int) ws
  | _, _, .nil => RepL.nil
  | _, _, .cons n t r => RepL.cons (Rep.int n t) (ints_rep r)

def sortI (ns : List Int) : List Int := ns.mergeSort (fun a b => decide (a ≤ b))
theorem sortI_perm (ns : List Int) : (sortI ns).Perm ns := List.mergeSort_perm _ _
theorem sortI_sorted (ns : List Int) : (sortI ns).Pairwise (· ≤ ·) := by
  have := List.pairwise_mergeSort (le := fun a b : Int => decide (a ≤ b)) (by intro a b c h1 h2; simp at *; (first | lia | omega)) (by intro a b; simp; (first | lia | omega)) ns
  exact this.imp fun h => by simpa using h
theorem sortI_eq {a b : List Int} (p : a.Perm b) (h : a.Pairwise (· ≤ ·)) : a = sortI b := lks_uniq (p.trans (sortI_perm b).symm) h (sortI_sorted b)

def sortedB : List V → M V
  | [.obj l] => fun σ => match σ.st[l]? with
    | some (.lst vs) => match intsOf vs with
      | some ns => if vs.length < 64 then .ok (.obj σ.st.length) { σ with st := σ.st ++ [.lst ((sortI ns).map .int)] } else .stuck
      | none => .stuck
    | _ => .stuck
  | _ => stuck

theorem built_sorted : BuiltOk K (.builtin "sorted") sortedB := by
  intro F fk σ ρ s vs ws rel r
  unfold sortedB
  split
  · rename_i l
    obtain ⟨x, r', rfl, r1, r2⟩ := RepL.cons_iff.mp r
    obtain rfl := RepL.nil_iff.mp r2
    cases hl : σ.st[l]? with
    | none => exact Run.stuck
    | some c =>
      cases c with
      | lst us =>
        dsimp only
        cases hi : intsOf us with
        | none => exact Run.stuck
        | some ns =>
          dsimp only
          by_cases h64 : us.length < 64
          · rw [if_pos h64]
            obtain ⟨a, xs, n, rfl, hρ, hL, hr, hn⟩ := rel.list r1 hl
            refine Run.ok (sorted_ints hL.isList (intsOf_are hr hi) (by rw [hr.length]; exact h64) fun out ns' a1 a2 a3 => ?_)
            have e1 : ns' = sortI ns := sortI_eq a2 a3
            subst e1
            have hsz : ((s.heap.push (seqObj "list" #[] 0)).update s.heap.objs.size (Obj.mapSeq (· ++ xs.toArray))).objs.size = s.heap.objs.size + 1 := by
              rw [Heap.size_update, size_push']
            have hoL : (((s.heap.push (seqObj "list" #[] 0)).update s.heap.objs.size (Obj.mapSeq (· ++ xs.toArray))).push (seqObj "list" xs.toArray 0)).get? (s.heap.objs.size + 1) = some (seqObj "list" xs.toArray 0) := by
              rw [← hsz]; exact Heap.get?_push_size _ rfl
            have hkeep : ∀ b o, s.heap.get? b = some o → (sortedAll s.heap xs out).get? b = some o := by
              intro b o e
              have hlt : b < s.heap.objs.size := Heap.lt_size e
              have hne1 : b ≠ s.heap.objs.size := Nat.ne_of_lt hlt
              have hne2 : b ≠ s.heap.objs.size + 1 := Nat.ne_of_lt (Nat.lt_succ_of_lt hlt)
              unfold sortedAll sortedHeap
              rw [Heap.get?_update_ne _ _ _ _ hne2]
              refine Heap.get?_push_of_some _ (Heap.get?_push_of_some _ ?_)
              rw [Heap.get?_update_ne _ _ _ _ hne2]
              refine Heap.get?_push_of_some _ ?_
              rw [Heap.get?_update_ne _ _ _ _ hne1]
              exact Heap.get?_push_of_some _ e
            have hout : ∃ m, IsL (sortedAll s.heap xs out) (s.heap.objs.size + 1) out m := by
              unfold sortedAll sortedHeap
              have h1 := get?_update_seq hoL (fun _ => (#[] : Array Value))
              exact ⟨_, get?_update_seq (Heap.get?_push_of_some (seqObj "list" #[] 0) (Heap.get?_push_of_some (seqObj "tuple" xs.toArray 0) h1)) (fun _ => out)⟩
            obtain ⟨m, hm⟩ := hout
            have hlen : ((sortI ns).map V.int).length ≤ 1000000 := by
              have := (ints_rep (K := K) (h := s.heap) (ρ := ρ) a1).length
              have h2 := (sortI_perm ns).length_eq
              have h3 := (ints_rep (K := K) (h := s.heap) (ρ := ρ) (intsOf_are hr hi)).length
              rw [List.length_map] at h3 ⊢
              rw [h2, ← h3, hr.length]; (first | lia | omega)
            obtain ⟨rel', x'⟩ := rel.newAt (s' := { s with heap := sortedAll s.heap xs out }) (ws := out.toList) (vs := (sortI ns).map .int) hkeep (Heap.get?_none_of_le (Nat.le_succ _)) (n := m) (by simpa using hm) (ints_rep a1) hlen rfl rfl
            exact ⟨_, rel', x', Rep.obj_iff.mpr ⟨_, by rw [← rel.len, List.getElem?_concat_length], rfl⟩⟩
          · rw [if_neg h64]; exact Run.stuck
  · exact Run.stuck

end Mine


/-! part F18 -/
set_option autoImplicit false
set_option maxRecDepth 100000
set_option linter.unusedVariables false
open PySem PySem.W PyProof.Rows
namespace Mine

variable {K : Glo} {F : Frm}

/-! ### the defs of a text -/
def recAt (p : Program) (i : Nat) : DefRec := match p.main.body[i]? with
  | some (.FunctionDef name a b _ _ _ sc _ _ pos) => ⟨name, a, b, sc, pos⟩
  | _ => ⟨Str.ofString "", { posonlyargs := [], args := [], vararg := none, kwonlyargs := [], kw_defaults := [], kwarg := none, defaults := [] }, [], { kind := .function, names := [], isGenerator := false, isCoroutine := false }, ⟨0, 0, 0, 0⟩⟩

def frm (d : DefRec) (pm code doc : Value) (L fa : Addr) (A : Around) : Frm := defFrm (PySem.Calls.docDef d.name d.params d.body d.scope pm code doc) L fa A

theorem FOk.def {d : DefRec} {pm code doc : Value} {L fa : Addr} {A : Around} {n : Nat} (hr : Room A n) (hk : d.scope.kind = .function) : FOk (frm d pm code doc L fa A) :=
  ⟨hk, rfl, rfl, hr.1, by have := hr.2.2; show A.units + 1000 < cLine; (first | lia | omega)⟩

def HasF (K : Glo) (x : String) (lvl : Nat) (g : Fun) : Prop := ∃ fa fd body, K.mg (Str.ofString x) = some (.ref fa) ∧ DefAt K fa fd body ∧ SimF K lvl (.ref fa) g

theorem hasF_of {d : DefRec} {x : String} {params : List String} {lvl : Nat} {mb : M Fl} (hd : d ∈ recsOf K.p) (hx : d.name = Str.ofString x) (hsc : d.scope.kind = .function) (hco : d.scope.isCoroutine = false) (hgen : d.scope.isGenerator = false) (hnd : params.Nodup)
    (hbind : ∀ (pm code doc : Value) (ws : List Value), ws.length = params.length → bindArgs (PySem.Calls.docDef d.name d.params d.body d.scope pm code doc) ⟨ws, []⟩ = pure ((params.map Str.ofString).zip ws))
    (hkind : ∀ n, ∀ y ∈ params, d.scope.names.lookup (Str.ofString y) = some .local ∨ (d.scope.names.lookup (Str.ofString y) = some .cell ∧ ((cellsFrom n d.scope.names []).lookup (Str.ofString y)).isSome = true))
    (hb : ∀ pm code doc L fa A, Room A lvl → FOk (frm d pm code doc L fa A) → SimSs K (frm d pm code doc L fa A) d.body mb) : HasF K x (lvl + 1) (funM params mb) := by
  obtain ⟨a, o, pm, code, doc, h1, h2, h3, h4⟩ := K.top.fn d hd
  have da : DefAt K a (PySem.Calls.docDef d.name d.params d.body d.scope pm code doc) d.body := ⟨⟨o, h2, h3⟩, h4, rfl, rfl, rfl, rfl, hco, hgen, hsc⟩
  refine ⟨a, _, d.body, by rw [← hx]; exact h1, da, ?_⟩
  exact simF_def da hnd (hbind pm code doc) hkind fun L A hr => hb pm code doc L a A hr (FOk.def hr hsc)

theorem simE_callF (fk : FOk F) {x : String} {np pos : Pos} {args : List Expr} {ms : M (List V)} {g : Fun} {lvl : Nat} (hf : HasF K x lvl g) (hr : Room F.A lvl)
    (hs : SimEs K F args ms) (hx : F.env.kindOf (Str.ofString x) = some .globalImplicit := by kernel_rfl)
    (hpl : (starEach args F.env).any (·.1) = false := by rfl) (hdb : (Str.ofString x == ("__debug__" : Str)) = false := by decide) :
    SimE K F (.Call (.Name (Str.ofString x) np) args [] pos) (do let vs ← ms; callF g vs) := by
  obtain ⟨fa, fd, body, h1, h2, h3⟩ := hf
  exact simE_callDef fk hx h1 h2 h3 hr hs hpl hdb

theorem simT_cellD {d : DefRec} {pm code doc : Value} {L fa : Addr} {A : Around} (x : String) (pos : Pos) (fk : FOk (frm d pm code doc L fa A)) {c : Addr} (hk : d.scope.names.lookup (Str.ofString x) = some .cell)
    (hc : (cellsFrom (L + 1) d.scope.names []).lookup (Str.ofString x) = some c) : SimT K (frm d pm code doc L fa A) (.Name (Str.ofString x) pos) (fun v => setv x v) :=
  simT_cell x pos fk hk hc (List.mem_cons_of_mem _ (cellAddrs_of hc)) (cell_inj hc)

end Mine


/-! part F19 -/
set_option autoImplicit false
set_option maxRecDepth 100000
set_option linter.unusedVariables false
open PySem PySem.W PyProof.Rows
namespace Mine

variable {K : Glo} {F : Frm}

theorem wellAll_ints {P : Params} {h : Heap} : ∀ {vs : List Value} {ns : List Int}, WellAll P h vs (ofPys (ns.map PyData.int)) → IntsAre vs ns
  | _, [], x => by cases x; exact .nil
  | _, n :: ns, x => by
    cases x with
    | cons x1 x2 => cases x1; exact .cons n _ (wellAll_ints x2)
theorem well_script {P : Params} {h : Heap} {a : Addr} {ns : List Int} (x : Well P h (.ref a) (ofPy (PyData.list (ns.map PyData.int)))) : ∃ vs, IsL h a vs.toArray 0 ∧ IntsAre vs ns := by
  cases x with
  | list e r => exact ⟨_, e, wellAll_ints r⟩

theorem room_caller {n : Nat} (h : n ≤ 600) : Room callerA n := by
  refine ⟨rfl, ?_, ?_⟩
  · have h1 : callerA.depth = 301 := by decide +kernel
    have h2 : recursionLimit = 1000 := by decide +kernel
    (first | lia | omega)
  · have h1 : callerA.units = 4 := rfl
    have h2 : cLine = 9900 := by decide +kernel
    (first | lia | omega)

theorem top_law {prog : Program} {w : World} {p : Program} {loose : List Str} {mean mean' : ExcName → Option Value} {mg mb : Str → Option Value} {s₁ : Shared} {fa l : Addr} {c : ClaimW} {cl : Str → Option Addr} {args : List WData}
    (T : Top p loose mean mg mb s₁.heap) (hg : s₁.gens = #[]) {g : Fun} {lvl : Nat} {ws : List Value} {ns : List Int}
    (hf : HasF ⟨prog, w, p, loose, mean, mg, mb, s₁.heap, s₁.os, T⟩ "law" lvl g) (hl : lvl ≤ 600) (hmg : mg (Str.ofString "law") = some (.ref fa))
    (hL : IsL s₁.heap l ws.toArray 0) (hI : IntsAre ws ns) (hn : ns.length ≤ 63) {st' : Store} (hlaw : g [.obj 0] [.lst (ns.map .int)] = .ok (.bool true) st')
    (hraise : ∀ cls, c.raises args cls = false) (hpost : c.post args (.bool true) args = true) :
    codeAny (model prog w) callerA (.call (.ref fa) ⟨[.ref l], []⟩) (GoodW c cl mean' args s₁) s₁ := by
  obtain ⟨fa', fd, body, h1, h2, h3⟩ := hf
  have e : fa' = fa := by
    have h1' : mg (Str.ofString "law") = some (.ref fa') := h1
    rw [hmg] at h1'; cases h1'; rfl
  subst e
  have hlen : ws.length = ns.length := by
    have := (ints_rep (K := ⟨prog, w, p, loose, mean, mg, mb, s₁.heap, s₁.os, T⟩) (h := s₁.heap) (ρ := []) hI).length
    simpa using this
  have gr : GRel ⟨prog, w, p, loose, mean, mg, mb, s₁.heap, s₁.os, T⟩ [.lst (ns.map .int)] [l] s₁ := by
    refine ⟨hg, rfl, fun _ _ e => e, rfl, ?_, by simp, ?_⟩
    · intro k a c' h4 h5
      cases k with
      | zero =>
        simp only [List.getElem?_cons_zero, Option.some.injEq] at h4 h5
        subst h4 h5
        exact ⟨by simp; (first | lia | omega), ws, 0, hL, ints_rep hI⟩
      | succ k => simp at h4
    · intro k a h4 h5
      cases k with
      | zero => exact absurd rfl h5
      | succ k => simp at h4
  have main := h3 callerA (room_caller hl) _ [l] s₁ gr [.obj 0] [.ref l] (RepL.cons (Rep.obj_iff.mpr ⟨l, rfl, rfl⟩) RepL.nil) (by rw [hlaw]; simp)
  refine codeAny_mono main fun r s' h => ?_
  rcases h with ⟨v, st1, w1, ρ', e1, rfl, g1, x1, r1⟩ | ⟨e0, st1, w1, ρ', e1, _⟩
  · rw [hlaw] at e1
    cases e1
    rw [Rep.bool_iff.mp r1]
    exact ⟨.inl ⟨_, .bool true, [], rfl, hraise, .bool true, hpost, unshared_nil⟩, g1.base, g1.os, g1.gens⟩
  · rw [hlaw] at e1; cases e1

end Mine


/-! part F20 -/
set_option autoImplicit false
set_option maxRecDepth 100000
set_option linter.unusedVariables false
open PySem PySem.W PyProof.Rows
namespace Mine

variable {K : Glo} {F : Frm}
/-! ### x += y, where x is a name and y no list -/
end Mine


/-! part F21 -/
set_option autoImplicit false
set_option maxRecDepth 100000
set_option linter.unusedVariables false
open PySem PySem.W PyProof.Rows
namespace Mine

variable {K : Glo} {F : Frm}
/-! ### the names that a comprehension shares with its frame -/
theorem kne_cell {k : Option NameKind} (h : k = some .cell) : k ≠ some .local := by rw [h]; decide
theorem ck_nil {cells : List (Str × Addr)} : ∀ p ∈ ([] : List (Str × Addr)), cells.lookup p.1 = some p.2 := by intro p hp; cases hp
theorem ck_cons {cells cl : List (Str × Addr)} {x : Str} {a : Addr} (h : cells.lookup x = some a) (hs : ∀ p ∈ cl, cells.lookup p.1 = some p.2) : ∀ p ∈ (x, a) :: cl, cells.lookup p.1 = some p.2 := by
  intro p hp
  rcases List.mem_cons.mp hp with rfl | hp
  · exact h
  · exact hs p hp
theorem ck_cells {cl cells : List (Str × Addr)} (hall : ∀ p ∈ cl, cells.lookup p.1 = some p.2) : ∀ x c, cl.lookup x = some c → cells.lookup x = some c :=
  fun x c h => hall (x, c) (mem_of_lookup h)

end Mine


/-! part S1 -/
set_option autoImplicit false
set_option maxRecDepth 100000
set_option linter.unusedVariables false
open PySem PySem.W PyProof.Rows
namespace Mine

/-! ### the model's sort, asked of a plain order -/
def krun {α : Type} (ask : Nat → Nat → Bool) : KasT α → α
  | .ret a => a
  | .ask i j k => krun ask (k (ask i j))
section
variable {n : Nat} {ask : Nat → Nat → Bool}
end

/-! ### only places of the row are asked for -/
def KIn {α : Type} (n : Nat) (ask : Nat → Nat → Bool) : KasT α → Prop
  | .ret _ => True
  | .ask i j k => i < n ∧ j < n ∧ KIn n ask (k (ask i j))
theorem KIn.bind {α β : Type} {n : Nat} {ask : Nat → Nat → Bool} {f : α → KasT β} : ∀ {t : KasT α}, KIn n ask t → KIn n ask (f (krun ask t)) → KIn n ask (t.bind f)
  | .ret a, _, h => h
  | .ask i j k, h, h' => ⟨h.1, h.2.1, KIn.bind h.2.2 h'⟩
section
variable {n : Nat} {ask : Nat → Nat → Bool}
end

end Mine


/-! part S2 -/
set_option autoImplicit false
set_option maxRecDepth 100000
set_option linter.unusedVariables false
open PySem PySem.W PyProof.Rows
namespace Mine

section
variable {prog : Program} {w : World} {A : Around} {E : Value → Shared → Prop} {s : Shared}
end

end Mine


/-! part S3 -/
set_option autoImplicit false
set_option maxRecDepth 100000
set_option linter.unusedVariables false
open PySem PySem.W PyProof.Rows
namespace Mine

variable {K : Glo} {F : Frm}

/-! ### sorted of tuples of ints -/
def lexB : List Int → List Int → Bool
  | [], [] => false
  | [], _ :: _ => true
  | _ :: _, [] => false
  | a :: as, b :: bs => if a = b then lexB as bs else decide (a < b)

section
variable {prog : Program} {w : World} {A : Around} {E : Value → Shared → Prop} {s : Shared}
end

def tupInts : V → Option (List Int)
  | .tup vs => match intsOf vs with
    | some (a :: as) => some (a :: as)
    | _ => none
  | _ => none
theorem lexB_irrefl : ∀ as : List Int, lexB as as = false
  | [] => rfl
  | a :: as => by simp [lexB, lexB_irrefl as]
theorem lexB_asymm : ∀ as bs : List Int, lexB as bs = true → lexB bs as = false
  | [], [], h => by cases h
  | [], _ :: _, _ => rfl
  | _ :: _, [], h => by cases h
  | a :: as, b :: bs, h => by
    unfold lexB at h ⊢
    by_cases hab : a = b
    · subst hab
      simp only [if_true] at h ⊢
      exact lexB_asymm as bs h
    · rw [if_neg hab] at h
      rw [if_neg (Ne.symm hab)]
      simp at h ⊢; (first | lia | omega)
theorem lexB_trans : ∀ as bs cs : List Int, lexB bs as = false → lexB cs bs = false → lexB cs as = false
  | [], [], [], _, _ => rfl
  | [], _ :: _, [], _, h => by cases h
  | [], _, _ :: _, _, _ => rfl
  | _ :: _, [], _, h, _ => by cases h
  | _ :: _, _ :: _, [], _, h => by cases h
  | a :: as, b :: bs, c :: cs, h1, h2 => by
    unfold lexB at h1 h2 ⊢
    by_cases hab : b = a
    · subst hab
      simp only [if_true] at h1
      by_cases hcb : c = b
      · subst hcb
        simp only [if_true] at h2 ⊢
        exact lexB_trans as bs cs h1 h2
      · rw [if_neg hcb] at h2 ⊢
        exact h2
    · rw [if_neg hab] at h1
      by_cases hcb : c = b
      · subst hcb
        rw [if_neg hab]; exact h1
      · rw [if_neg hcb] at h2
        simp at h1 h2
        rw [if_neg (by (first | lia | omega))]
        simp; (first | lia | omega)
theorem lexB_total : ∀ as bs : List Int, lexB as bs = false → lexB bs as = false → as = bs
  | [], [], _, _ => rfl
  | [], _ :: _, h, _ => by cases h
  | _ :: _, [], _, h => by cases h
  | a :: as, b :: bs, h1, h2 => by
    unfold lexB at h1 h2
    by_cases hab : a = b
    · subst hab
      simp only [if_true] at h1 h2
      rw [lexB_total as bs h1 h2]
    · rw [if_neg hab] at h1
      rw [if_neg (Ne.symm hab)] at h2
      simp at h1 h2; (first | lia | omega)
end Mine


/-! part S4 -/
set_option autoImplicit false
set_option maxRecDepth 100000
set_option linter.unusedVariables false
open PySem PySem.W PyProof.Rows
namespace Mine

section
variable {prog : Program} {w : World} {A : Around} {E : Value → Shared → Prop} {s : Shared}
end

end Mine


/-! part S5 -/
set_option autoImplicit false
set_option maxRecDepth 100000
set_option linter.unusedVariables false
open PySem PySem.W PyProof.Rows
namespace Mine

variable {K : Glo} {F : Frm}

section
variable {prog : Program} {w : World} {A : Around} {E : Value → Shared → Prop} {s : Shared}
end

section
variable {prog : Program} {w : World} {A : Around} {E : Value → Shared → Prop} {s : Shared}
end
end Mine


/-! part F22 -/
set_option autoImplicit false
set_option maxRecDepth 100000
set_option linter.unusedVariables false
open PySem PySem.W PyProof.Rows
namespace Mine

variable {K : Glo} {F : Frm}

/-! ### sum of ints -/
def sumB : List V → M V
  | [.obj l] => fun σ => match σ.st[l]? with
    | some (.lst vs) => match intsOf vs with
      | some ns => .ok (.int ns.sum) σ
      | none => .stuck
    | _ => .stuck
  | _ => stuck
theorem ints_items : ∀ {ws : List Value} {ns : List Int}, IntsAre ws ns → ∃ xs : List (Int × Tok), ws = xs.map (fun p => Value.int p.1 p.2) ∧ ns = xs.map (·.1)
  | _, _, .nil => ⟨[], rfl, rfl⟩
  | _, _, .cons n t r => by
    obtain ⟨xs, e1, e2⟩ := ints_items r
    exact ⟨(n, t) :: xs, by simp [e1], by simp [e2]⟩
theorem preSum_nums (xs : List (Int × Tok)) : preSum (numAt xs.toArray) xs.toArray.size = (xs.map (·.1)).sum := by
  rw [preSum_eq, List.take_of_length_le (by simp)]
theorem built_sum : BuiltOk K (.builtin "sum") sumB := by
  intro F fk σ ρ s vs ws rel r
  unfold sumB
  split
  · rename_i l
    obtain ⟨x, r', rfl, r1, r2⟩ := RepL.cons_iff.mp r
    obtain rfl := RepL.nil_iff.mp r2
    cases hl : σ.st[l]? with
    | none => exact Run.stuck
    | some c =>
      cases c with
      | lst us =>
        dsimp only
        cases hi : intsOf us with
        | none => exact Run.stuck
        | some ns =>
          obtain ⟨a, xs, n, rfl, hρ, hL, hr, hn⟩ := rel.list r1 hl
          obtain ⟨ps, e1, e2⟩ := ints_items (intsOf_are hr hi)
          have hl' : s.heap.IsList a (intItems ps.toArray) := by
            have e : intItems ps.toArray = xs.toArray := by rw [e1]; unfold intItems; simp
            rw [e]; exact hL.isList
          refine Run.ok (sum_intListG fk.hd hl' fun h' tk t' hk => ⟨ρ, rel.kept hk rfl rfl, Ext.kept hk, ?_⟩)
          rw [preSum_nums, ← e2]
          exact Rep.int ..
  · exact Run.stuck

/-! ### list * int -/
def mulLV : V → V → M V
  | .int a, b => mulV (.int a) b
  | .obj l, .int k => fun σ => match σ.st[l]? with
    | some (.lst xs) => if 0 ≤ k ∧ k < 1000 ∧ xs.length < 1000 then .ok (.obj σ.st.length) { σ with st := σ.st ++ [.lst (List.replicate k.toNat xs).flatten] } else .stuck
    | _ => .stuck
  | _, _ => fun _ => .stuck
theorem rep_flat {h : Heap} {ρ : List Addr} {vs : List V} {ws : List Value} (r : RepL K h ρ vs ws) : ∀ n : Nat, RepL K h ρ (List.replicate n vs).flatten (List.replicate n ws).flatten
  | 0 => RepL.nil
  | n + 1 => by
    rw [List.replicate_succ, List.replicate_succ, List.flatten_cons, List.flatten_cons]
    exact r.append (rep_flat r n)
theorem bin_mulL : BinOk K .Mult mulLV := by
  intro F fk σ ρ s a b wa wb rel ra rb
  cases a with
  | int i => exact bin_mul F fk σ ρ s (.int i) b wa wb rel ra rb
  | obj l =>
    cases b with
    | int k =>
      obtain ⟨u, rfl⟩ := Rep.int_iff.mp rb
      unfold mulLV
      dsimp only
      cases hl : σ.st[l]? with
      | none => exact Run.stuck
      | some c =>
        cases c with
        | lst xs =>
          dsimp only
          by_cases hz : 0 ≤ k ∧ k < 1000 ∧ xs.length < 1000
          · rw [if_pos hz]
            obtain ⟨x, ws, n, rfl, hρ, hL, hr, hn⟩ := rel.list ra hl
            have hwl : ws.length = xs.length := hr.length
            have hmul : ws.length * k.toNat ≤ 1000000 := by
              have : ws.length * k.toNat ≤ 1000 * 1000 := Nat.mul_le_mul (by (first | lia | omega)) (by (first | lia | omega))
              (first | lia | omega)
            have hbig : (List.replicate k.toNat xs).flatten.length ≤ 1000000 := by
              rw [List.length_flatten, List.map_replicate, List.sum_replicate_nat, Nat.mul_comm, ← hwl]; exact hmul
            refine Run.ok (wpAny_binaryOp_repeat_ref (T := "list") (U := "int") (by decide) ⟨_, hL, rfl⟩ (fun s' => typeIs_int s' k u) noFill_list_mul PySem.F.fills_int_mul PySem.F.slot_int_rmul repeat_list PySem.F.slot_int_index.lookup
              (call_meets PySem.F.slot_int_rmul (typeIs_int s k u) PySem.F.entry_int_rmul (PySem.F.args_int_rmul_2 _ _) (lm_int_rmul_list_any k u x ws.toArray n none #[])
                ⟨hL, rfl, ⟨_, hL, rfl⟩, call_meets PySem.F.slot_list_mul ⟨_, hL, rfl⟩ PySem.F.entry_list_mul (PySem.F.args_list_mul_2 _ _)
                  (lm_list_mul_any x ws.toArray n none #[] k u (by simp [Builtin.List.listFitsIndex]; (first | lia | omega)) (by simp only [List.size_toArray]; (first | lia | omega)) (by simp [Builtin.List.listTooLong, sizeLine]; (first | lia | omega)))
                  ⟨hL, ?_⟩⟩))
            rw [listMul_foldl_if]
            obtain ⟨rel', x'⟩ := rel.newList (o := { cls := .type "list", data := .seq (List.replicate k.toNat ws).flatten.toArray }) rfl (rep_flat hr k.toNat) hbig s.toks
            exact ⟨_, rel', x', Rep.obj_iff.mpr ⟨_, by rw [← rel.len, List.getElem?_concat_length], rfl⟩⟩
          · rw [if_neg hz]; exact Run.stuck
    | _ => exact Run.stuck
  | _ => exact Run.stuck

end Mine


/-! part F23 -/
set_option autoImplicit false
set_option maxRecDepth 100000
set_option linter.unusedVariables false
open PySem PySem.W PyProof.Rows
namespace Mine

variable {K : Glo} {F : Frm}
open PySem.SeqAt PySem.MeetsSeq PySem.MeetsSeq3

/-! ### greater than -/
mutual
def gtD : PyData → PyData → Option Bool
  | .int i, .int j => some (decide (j < i))
  | .tuple xs, .tuple ys => gtAll xs ys
  | .list xs, .list ys => gtAll xs ys
  | _, _ => none
def gtAll : List PyData → List PyData → Option Bool
  | [], [] => some false
  | [], _ :: _ => some false
  | _ :: _, [] => some true
  | x :: xs, y :: ys => if PyData.eqv x y then gtAll xs ys else gtD x y
end
def GtAt (A : Around) (s : Shared) (y x : Value) (b : Bool) : Prop :=
  ∀ (prog : Program) (w : World) (E : Value → Shared → Prop) (Q : Value → Shared → Prop), Q (.bool b) s → wpAny (model prog w) A (richCompare .Gt y x) Q E s

def LexGt (A : Around) (s : Shared) (fin : Bool) : List (Value × Value) → Bool → Prop
  | [], r => r = fin
  | (x, y) :: rest, r => ∃ e, EqAt A s x y e ∧ (if e = true then LexGt A s fin rest r else GtAt A s x y r)

theorem tuple_gtAt (l b : Addr) (items items2 : Array Value) (n n2 : Nat) (dd dd2 : Option Addr) (sl sl2 : Array (Option Value)) (r : Bool) :
    Meets (Builtin.«tuple.__gt__» ⟨[.ref l, .ref b], []⟩)
      (fun A R s => s.heap.get? l = some { cls := .type "tuple", dict := dd, data := .seq items n, slots := sl } ∧ s.heap.get? b = some { cls := .type "tuple", dict := dd2, data := .seq items2 n2, slots := sl2 } ∧
        LexGt A.in1 s (decide (items2.size < items.size)) (items.toList.zip items2.toList) r ∧ R (.ok (.ret (.bool r))) s) :=
  .of_wp fun prog w A R s h => by
    obtain ⟨hp, g, d, tk, os⟩ := s; obtain ⟨hl, hb, he, h⟩ := h
    have f2 := AutoSeq1.sub_tuple_tuple
    wp_walk using wpAny_loadPart' hl, wpAny_loadPart' hb, wpAny_forIn_list _ (fun rest b s' => b.1 = none ∧ s' = ⟨hp, g, d, tk, os⟩ ∧ LexGt A.in1 ⟨hp, g, d, tk, os⟩ (decide (items2.size < items.size)) rest r) _
    case turn =>
      rintro ⟨y, x⟩ rest b s' ⟨hb', rfl, e, he1, he2⟩
      refine wpAny_bind (he1 prog w _ _ ?_)
      cases e with
      | true =>
        simp only [if_true] at he2
        wp_walk
        exact ⟨rfl, rfl, he2⟩
      | false =>
        simp only [Bool.false_eq_true, if_false] at he2
        simp only [Bool.not_false, if_true]
        refine wpAny_bind (wpAny_rule (wpAny_bind (he2 prog w _ _ ?_)))
        wp_walk
        exact ⟨_, rfl, h⟩
    case fin =>
      rintro ⟨b1, b2⟩ s' ⟨hb', rfl, he'⟩
      simp only at hb'
      subst hb'
      wp_walk
      have : r = decide (items2.size < items.size) := he'
      refine ⟨_, rfl, ?_⟩
      rw [this] at h
      exact h
    case h => exact ⟨rfl, rfl, he⟩

theorem gt_loopAt (l b : Addr) (items items2 : Array Value) (n n2 : Nat) (dd dd2 : Option Addr) (sl sl2 : Array (Option Value)) (r : Bool) (k : Nat) :
    ∀ i : Nat, min items.size items2.size - i = k → Meets (Builtin.«list.__eq__.loop» ⟨[.ref l, .ref b, rawInt i, rawInt 4], []⟩)
      (fun A R s => s.heap.get? l = some { cls := .type "list", dict := dd, data := .seq items n, slots := sl } ∧ s.heap.get? b = some { cls := .type "list", dict := dd2, data := .seq items2 n2, slots := sl2 } ∧
        LexGt A.in1 s (decide (items2.size < items.size)) ((items.toList.zip items2.toList).drop i) r ∧ R (.ok (.ret (.bool r))) s) := by
  induction k with
  | zero =>
    intro i hk prog w A R s h
    obtain ⟨hp, g, d, tk, os⟩ := s; obtain ⟨hl, hb, he, h⟩ := h
    wp_walk using wpAny_loadPart' hl, wpAny_loadPart' hb
    have hd : (items.toList.zip items2.toList).drop i = [] := by simp; (first | lia | omega)
    rw [hd] at he
    have hr : r = decide (items2.size < items.size) := he
    have hor : items[((i : Nat) : Int).toNat]? = none ∨ items2[((i : Nat) : Int).toNat]? = none := by
      simp; (first | lia | omega)
    rw [hr] at h
    rcases hor with hi | hi
    · rw [hi]
      wp_walk using wpAny_loadPart' hl, wpAny_loadPart' hb
      exact h
    · rw [hi]
      cases items[((i : Nat) : Int).toNat]? <;> (wp_walk using wpAny_loadPart' hl, wpAny_loadPart' hb; exact h)
  | succ k ih =>
    intro i hk prog w A R s h
    obtain ⟨hp, g, d, tk, os⟩ := s; obtain ⟨hl, hb, he, h⟩ := h
    wp_walk using wpAny_loadPart' hl, wpAny_loadPart' hb
    have hlt : i < items.size := by (first | lia | omega)
    have hlt2 : i < items2.size := by (first | lia | omega)
    have hi1 : items[((i : Nat) : Int).toNat]? = some items[i] := by simp [hlt]
    have hi2 : items2[((i : Nat) : Int).toNat]? = some items2[i] := by simp [hlt2]
    have hd : (items.toList.zip items2.toList).drop i = (items[i], items2[i]) :: (items.toList.zip items2.toList).drop (i + 1) := by
      rw [List.drop_eq_getElem_cons (by simp; (first | lia | omega))]; simp
    have hc : ((i : Int) + 1) = ((i + 1 : Nat) : Int) := by push_cast; rfl
    rw [hd] at he
    obtain ⟨e, he1, he2⟩ := he
    rw [hi1, hi2]
    refine wpAny_bind (he1 prog w _ _ ?_)
    cases e with
    | true =>
      simp only [if_true] at he2
      wp_walk
      rw [hc]
      exact ⟨plainId_quiet plain_eq_loop _, codeAny_builtin entry_eq_loop (by
        rw [Around.under_plainId plain_eq_loop _]
        exact ih (i + 1) (by (first | lia | omega)) prog w A R _ ⟨hl, hb, he2, h⟩)⟩
    | false =>
      simp only [Bool.false_eq_true, if_false] at he2 ⊢
      refine wpAny_bind (listItems_at hl rfl (wpAny_bind (listItems_at hb rfl ?_)))
      rw [hi1, hi2]
      refine wpAny_bind (he2 prog w _ _ ?_)
      wp_walk
      exact h

theorem list_gtAt (l b : Addr) (items items2 : Array Value) (n n2 : Nat) (dd dd2 : Option Addr) (sl sl2 : Array (Option Value)) (r : Bool) :
    Meets (Builtin.«list.__gt__» ⟨[.ref l, .ref b], []⟩)
      (fun A R s => s.heap.get? l = some { cls := .type "list", dict := dd, data := .seq items n, slots := sl } ∧ s.heap.get? b = some { cls := .type "list", dict := dd2, data := .seq items2 n2, slots := sl2 } ∧
        LexGt A.in1 s (decide (items2.size < items.size)) (items.toList.zip items2.toList) r ∧ R (.ok (.ret (.bool r))) s) := by
  intro prog w A R s h
  obtain ⟨hp, g, d, tk, os⟩ := s; obtain ⟨hl, hb, he, h⟩ := h
  have f3 := AutoSeq1.sub_list_list
  wp_walk using wpAny_loadPart' hl, wpAny_loadPart' hb
  exact ⟨plainId_quiet plain_eq_loop _, codeAny_builtin entry_eq_loop (by
    rw [Around.under_plainId plain_eq_loop _]
    exact gt_loopAt l b items items2 n n2 dd dd2 sl sl2 r _ 0 rfl prog w A R _ ⟨hl, hb, by simpa using he, h⟩)⟩

theorem GtAt.lists {A : Around} {s : Shared} {l b : Addr} {items items2 : Array Value} {r : Bool} (hl : s.heap.IsList l items) (hb : s.heap.IsList b items2) (hu : A.units < cLine)
    (he : LexGt A.in1 s (decide (items2.size < items.size)) (items.toList.zip items2.toList) r) : GtAt A s (.ref l) (.ref b) r := fun prog w E Q h => by
  obtain ⟨⟨cls, dd, data, sl⟩, ho, hc, n, hd⟩ := id hl
  obtain ⟨⟨cls2, dd2, data2, sl2⟩, ho2, hc2, n2, hd2⟩ := id hb
  simp only at hc hd hc2 hd2
  subst hc hd hc2 hd2
  exact richCompare_meets_room (op := .Gt) ⟨_, ho, rfl⟩ ⟨_, ho2, rfl⟩ PySem.F.slot_list_gt PySem.F.entry_list_gt (PySem.F.args_list_gt_2 _ _) (list_gtAt l b items items2 n n2 dd dd2 sl sl2 r)
    ⟨ho, ho2, he, show Value.bool r ≠ Value.notImplemented ∧ Q (.bool r) s from ⟨(fun x => nomatch x), h⟩⟩ hu
theorem GtAt.tuples {A : Around} {s : Shared} {l b : Addr} {items items2 : Array Value} {r : Bool} (hl : s.heap.IsTuple l items) (hb : s.heap.IsTuple b items2) (hu : A.units < cLine)
    (he : LexGt A.in1 s (decide (items2.size < items.size)) (items.toList.zip items2.toList) r) : GtAt A s (.ref l) (.ref b) r := fun prog w E Q h => by
  obtain ⟨⟨cls, dd, data, sl⟩, ho, hc, n, hd⟩ := id hl
  obtain ⟨⟨cls2, dd2, data2, sl2⟩, ho2, hc2, n2, hd2⟩ := id hb
  simp only at hc hd hc2 hd2
  subst hc hd hc2 hd2
  exact richCompare_meets_room (op := .Gt) ⟨_, ho, rfl⟩ ⟨_, ho2, rfl⟩ PySem.F.slot_tuple_gt PySem.F.entry_tuple_gt (PySem.F.args_tuple_gt_2 _ _) (tuple_gtAt l b items items2 n n2 dd dd2 sl sl2 r)
    ⟨ho, ho2, he, show Value.bool r ≠ Value.notImplemented ∧ Q (.bool r) s from ⟨(fun x => nomatch x), h⟩⟩ hu

mutual
theorem gtAt_reads : ∀ (da db : PyData) (A : Around) (s : Shared) (a b : Value) (as bs : List Addr) (r : Bool), Reads s.heap a da as → Reads s.heap b db bs → da.canLay0 = true → db.canLay0 = true →
    A.units + min da.depth db.depth < cLine → gtD da db = some r → GtAt A s a b r
  | .int i, db, A, s, a, b, as, bs, r, ra, rb, ha, hb, hu, e => by
    cases ra with
    | int _ t =>
      cases rb with
      | int j u =>
        simp only [gtD, Option.some.injEq] at e
        subst e
        exact fun prog w E Q h => gt_int h
      | _ => simp [gtD] at e
  | .tuple xs, db, A, s, a, b, as, bs, r, ra, rb, ha, hb, hu, e => by
    cases ra with
    | tuple h1 h2 h3 h4 =>
      cases rb with
      | tuple k1 k2 k3 k4 =>
        simp only [gtD] at e
        refine GtAt.tuples ⟨_, h1, h2, _, h3⟩ ⟨_, k1, k2, _, k3⟩ (room_here hu) ?_
        refine lexGt_reads _ _ _ _ _ _ _ _ r _ h4 k4 ha hb (room_in hu) e ?_
        rw [← Array.length_toList, ← Array.length_toList, ReadsAll.length _ _ _ h4, ReadsAll.length _ _ _ k4]
      | _ => simp [gtD] at e
  | .list xs, db, A, s, a, b, as, bs, r, ra, rb, ha, hb, hu, e => by
    cases ra with
    | list h1 h2 h3 h4 =>
      cases rb with
      | list k1 k2 k3 k4 =>
        simp only [gtD] at e
        refine GtAt.lists ⟨_, h1, h2, _, h3⟩ ⟨_, k1, k2, _, k3⟩ (room_here hu) ?_
        refine lexGt_reads _ _ _ _ _ _ _ _ r _ h4 k4 ha hb (room_in hu) e ?_
        rw [← Array.length_toList, ← Array.length_toList, ReadsAll.length _ _ _ h4, ReadsAll.length _ _ _ k4]
      | _ => simp [gtD] at e
  | .none, db, A, s, a, b, as, bs, r, ra, rb, ha, hb, hu, e => by cases db <;> simp [gtD] at e
  | .bool _, db, A, s, a, b, as, bs, r, ra, rb, ha, hb, hu, e => by cases db <;> simp [gtD] at e
  | .str _, db, A, s, a, b, as, bs, r, ra, rb, ha, hb, hu, e => by cases db <;> simp [gtD] at e
  | .dict _, db, A, s, a, b, as, bs, r, ra, rb, ha, hb, hu, e => by cases db <;> simp [gtD] at e
theorem lexGt_reads : ∀ (xs ys : List PyData) (A : Around) (s : Shared) (vs ws : List Value) (as bs : List Addr) (r fin : Bool), ReadsAll s.heap vs xs as → ReadsAll s.heap ws ys bs → PyData.canLayAll0 xs = true → PyData.canLayAll0 ys = true →
    A.units + min (PyData.depthAll xs) (PyData.depthAll ys) < cLine → gtAll xs ys = some r → fin = decide (ys.length < xs.length) → LexGt A s fin (vs.zip ws) r
  | [], ys, A, s, vs, ws, as, bs, r, fin, ra, rb, ha, hb, hu, e, hf => by
    cases ra
    subst hf
    cases ys with
    | nil => simp only [gtAll, Option.some.injEq] at e; subst e; rfl
    | cons y ys => simp only [gtAll, Option.some.injEq] at e; subst e; show false = _; simp
  | x :: xs, [], A, s, vs, ws, as, bs, r, fin, ra, rb, ha, hb, hu, e, hf => by
    cases rb
    subst hf
    simp only [gtAll, Option.some.injEq] at e; subst e
    rw [List.zip_nil_right]; show true = _; simp
  | x :: xs, y :: ys, A, s, vs, ws, as, bs, r, fin, ra, rb, ha, hb, hu, e, hf => by
    cases ra with
    | cons ra1 ra2 =>
      cases rb with
      | cons rb1 rb2 =>
        simp only [PyData.canLayAll0, Bool.and_eq_true] at ha hb
        have hu1 : A.units + min x.depth y.depth < cLine := room_head (by simpa [PyData.depthAll] using hu)
        have hu2 : A.units + min (PyData.depthAll xs) (PyData.depthAll ys) < cLine := room_tail (by simpa [PyData.depthAll] using hu)
        refine ⟨PyData.eqv x y, eqAt_reads x y A s _ _ _ _ ra1 rb1 ha.1 hb.1 hu1, ?_⟩
        simp only [gtAll] at e
        cases he : PyData.eqv x y with
        | true =>
          rw [he] at e
          simp only [if_true] at e ⊢
          exact lexGt_reads xs ys A s _ _ _ _ r fin ra2 rb2 ha.2 hb.2 hu2 e (by rw [hf]; simp)
        | false =>
          rw [he] at e
          simp only [Bool.false_eq_true, if_false] at e ⊢
          exact gtAt_reads x y A s _ _ _ _ r ra1 rb1 ha.1 hb.1 hu1 e
end
end Mine


/-! part F24 -/
set_option autoImplicit false
set_option maxRecDepth 100000
set_option linter.unusedVariables false
open PySem PySem.W PyProof.Rows
namespace Mine

variable {K : Glo} {F : Frm}

/-! ### min, max of data -/
def CmpH (prog : Program) (w : World) (A : Around) (op : CmpOp) (h₀ : Heap) (P : Nat → Value → Prop) (bt : Nat → Nat → Bool) : Prop :=
  ∀ i j vi vj (s : Shared) (Q : Value → Shared → Prop) (E : Value → Shared → Prop), P i vi → P j vj → (∀ b o, h₀.get? b = some o → s.heap.get? b = some o) → Q (.bool (bt i j)) s → wpAny (model prog w) A (richCompare op vi vj) Q E s
def allCmp (cd : PyData → PyData → Option Bool) (ds : List PyData) : Bool := ds.all fun a => ds.all fun b => (cd a b).isSome
def btOf (cd : PyData → PyData → Option Bool) (ds : List PyData) (i j : Nat) : Bool := match ds[i]?, ds[j]? with
  | some a, some b => (cd a b).getD false
  | _, _ => false
theorem allCmp_get {cd : PyData → PyData → Option Bool} {ds : List PyData} {i j : Nat} {a b : PyData} (h : allCmp cd ds = true) (h1 : ds[i]? = some a) (h2 : ds[j]? = some b) : ∃ r, cd a b = some r := by
  have := (List.all_eq_true.mp ((List.all_eq_true.mp h) a (List.mem_of_getElem? h1))) b (List.mem_of_getElem? h2)
  exact Option.isSome_iff_exists.mp this
theorem mapO_get {α β : Type} {f : α → Option β} : ∀ {vs : List α} {ds : List β} {i : Nat} {v : α}, mapO f vs = some ds → vs[i]? = some v → ∃ d, ds[i]? = some d ∧ f v = some d
  | [], _, _, _, _, h => by simp at h
  | u :: vs, ds, i, v, hd, h => by
    unfold mapO at hd
    cases e1 : f u with
    | none => rw [e1] at hd; simp at hd
    | some d =>
      cases e2 : mapO f vs with
      | none => rw [e1, e2] at hd; simp at hd
      | some ds' =>
        rw [e1, e2] at hd
        simp only [Option.some.injEq] at hd
        subst hd
        cases i with
        | zero => simp at h; subst h; exact ⟨d, by simp, e1⟩
        | succ i =>
          obtain ⟨d', h1, h2⟩ := mapO_get (i := i) e2 (by simpa using h)
          exact ⟨d', by simpa using h1, h2⟩
theorem argBest_lt (bt : Nat → Nat → Bool) {n : Nat} (h : 0 < n) : argBest bt (n - 1) < n := by
  have key : ∀ k, argBest bt k ≤ k := by
    intro k
    induction k with
    | zero => exact Nat.le_refl _
    | succ k ih => unfold argBest; split <;> (first | lia | omega)
  have := key (n - 1); (first | lia | omega)

section
variable {prog : Program} {w : World} {A : Around} {R : Result → Shared → Prop} {I : Addr} {fp wr : List Addr} {n : Nat} {P : Nat → Value → Prop} {St : Nat → Heap → Prop} {h₀ : Heap}

theorem min_loopH (W : Walks prog w A.in1 I fp wr n P St) (bt : Nat → Nat → Bool) (hcmp : CmpH prog w A.in1 .Lt h₀ P bt) (hw : ∀ b ∈ wr, h₀.get? b = none) (S : Addr) (hSf : S ∉ fp) (hS0 : h₀.get? S = none) :
    ∀ (k j : Nat) (s : Shared) (vb : Value) (c : Nat), n - (j + 1) = k → j + 1 ≤ n → St (j + 1) s.heap → P (argBest bt j) vb → (∀ b o, h₀.get? b = some o → s.heap.get? b = some o) →
    s.heap.get? S = some { cls := .type "list", dict := none, data := .seq #[vb, vb] c, slots := #[] } →
    (∀ v h' tk, P (argBest bt (n - 1)) v → (∀ b o, b ∉ wr → b ≠ S → s.heap.get? b = some o → h'.get? b = some o) → R (.ok (.ret v)) { s with heap := h', toks := tk }) →
    codeAny (model prog w) A (.builtin "min.loop" ⟨[.ref I, .none, .ref S], []⟩) R s := by
  have hSw : S ∉ wr := fun h => hSf (W.sub _ h)
  have hname : (toString "min" ++ toString ".loop" : String) = "min.loop" := by decide
  have step : ∀ {s s' : Heap}, (∀ b o, h₀.get? b = some o → s.get? b = some o) → (∀ b o, b ∉ wr → s.get? b = some o → s'.get? b = some o) → ∀ b o, h₀.get? b = some o → s'.get? b = some o := by
    intro s s' h1 h2 b o e
    refine h2 b o (fun hb => ?_) (h1 b o e)
    rw [hw b hb] at e; cases e
  intro k
  induction k with
  | zero =>
    intro j s vb c hk hj hst hPb hX hS hR
    have hin : j + 1 = n := by (first | lia | omega)
    refine codeAny_builtin PySem.F.entry_min_loop ?_
    rw [Around.under_plainId PySem.F.plain_min_loop _]
    show wpAny _ A.in1 (seqItems? (.ref S) >>= _) _ _ s
    refine wpAny_bind (wpAny_seqItems hS rfl ?_)
    show wpAny _ A.in1 (tryCatch (pyNext (.ref I)) _ >>= _) _ _ s
    refine wpAny_bind (wpAny_tryCatch (W.done s _ _ (hin ▸ hst) fun h' tk hk' => ?_))
    have hS' := hk' S _ hSw hS
    show wpAny _ A.in1 (updateSeq S (fun _ => #[]) >>= _) _ _ _
    refine wpAny_bind ?_
    refine wpAny_updateSeq hS' rfl (wpAny_bind (wpAny_letGo (wpAny_pure ?_)))
    refine hR vb _ tk (by rw [← hin]; exact hPb) fun b o hbw hbS e => (Heap.get?_update_other _ _ (Ne.symm hbS)).trans (hk' b o hbw e)
  | succ k ih =>
    intro j s vb c hk hj hst hPb hX hS hR
    have hlt : j + 1 < n := by (first | lia | omega)
    refine codeAny_builtin PySem.F.entry_min_loop ?_
    rw [Around.under_plainId PySem.F.plain_min_loop _]
    show wpAny _ A.in1 (seqItems? (.ref S) >>= _) _ _ s
    refine wpAny_bind (wpAny_seqItems hS rfl ?_)
    show wpAny _ A.in1 (tryCatch (pyNext (.ref I)) _ >>= _) _ _ s
    refine wpAny_bind (wpAny_tryCatch (W.item (j + 1) s _ _ hlt hst fun v h' tk hP hst' hk' => ?_))
    have hS' := hk' S _ hSw hS
    have hX' := step hX hk'
    show wpAny _ A.in1 (tryCatch (holding [v, v] (richCompare .Lt v vb >>= _)) _ >>= _) _ _ _
    refine wpAny_bind (wpAny_tryCatch (wpAny_holding (wpAny_bind (hcmp (j + 1) (argBest bt j) v vb _ _ _ hP hPb hX' ?_))))
    refine wpAny_bind (wpAny_holding (wpAny_truthy_bool ?_))
    refine wpAny_bind (wpAny_letGo (wpAny_pure ?_))
    cases hb : bt (j + 1) (argBest bt j) with
    | true =>
      simp only [if_true]
      refine wpAny_bind ?_
      refine wpAny_updateSeq hS' rfl (wpAny_bind (wpAny_letGo ?_))
      rw [hname]
      have other : ∀ b o, b ≠ S → h'.get? b = some o → (h'.update S (Obj.mapSeq fun _ => #[v, v])).get? b = some o := fun b o hbS e => (Heap.get?_update_other _ _ (Ne.symm hbS)).trans e
      refine wpAny_pure ⟨plainId_quiet PySem.F.plain_min_loop _, ih (j + 1) _ v _ (by (first | lia | omega)) hlt (W.frame _ _ _ hst' fun b hbf o e => ?_) (by simp only [argBest, hb, if_true]; exact hP) (fun b o e => ?_) (Heap.get?_update_self _ hS' rfl)
        fun v' h'' tk'' hP' hk'' => ?_⟩
      · exact other b o (fun h => hSf (by rw [← h]; exact hbf)) e
      · exact other b o (fun h => by rw [h, hS0] at e; cases e) (hX' b o e)
      · exact hR v' h'' tk'' hP' fun b o hbw hbS e => hk'' b o hbw hbS (other b o hbS (hk' b o hbw e))
    | false =>
      simp only [Bool.false_eq_true, if_false]
      refine wpAny_bind (wpAny_letGo ?_)
      rw [hname]
      refine wpAny_pure ⟨plainId_quiet PySem.F.plain_min_loop _, ih (j + 1) _ vb c (by (first | lia | omega)) hlt hst' (by simp only [argBest, hb, Bool.false_eq_true, if_false]; exact hPb) hX' hS' fun v' h'' tk'' hP' hk'' => ?_⟩
      exact hR v' h'' tk'' hP' fun b o hbw hbS e => hk'' b o hbw hbS (hk' b o hbw e)

theorem min_firstH (W : Walks prog w A.in1 I fp wr n P St) (bt : Nat → Nat → Bool) (hcmp : CmpH prog w A.in1 .Lt h₀ P bt) (hw : ∀ b ∈ wr, h₀.get? b = none) (S : Addr) (hSf : S ∉ fp) (hS0 : h₀.get? S = none) (hn : 0 < n) {s : Shared} {c : Nat} (hst : St 0 s.heap)
    (hX : ∀ b o, h₀.get? b = some o → s.heap.get? b = some o)
    (hS : s.heap.get? S = some { cls := .type "list", dict := none, data := .seq #[] c, slots := #[] })
    (hR : ∀ v h' tk, P (argBest bt (n - 1)) v → (∀ b o, b ∉ wr → b ≠ S → s.heap.get? b = some o → h'.get? b = some o) → R (.ok (.ret v)) { s with heap := h', toks := tk }) :
    codeAny (model prog w) A (.builtin "min.loop" ⟨[.ref I, .none, .ref S], []⟩) R s := by
  have hSw : S ∉ wr := fun h => hSf (W.sub _ h)
  have hname : (toString "min" ++ toString ".loop" : String) = "min.loop" := by decide
  refine codeAny_builtin PySem.F.entry_min_loop ?_
  rw [Around.under_plainId PySem.F.plain_min_loop _]
  show wpAny _ A.in1 (seqItems? (.ref S) >>= _) _ _ s
  refine wpAny_bind (wpAny_seqItems hS rfl ?_)
  show wpAny _ A.in1 (tryCatch (pyNext (.ref I)) _ >>= _) _ _ s
  refine wpAny_bind (wpAny_tryCatch (W.item 0 s _ _ hn hst fun v h' tk hP hst' hk' => ?_))
  have hS' := hk' S _ hSw hS
  show wpAny _ A.in1 (updateSeq S (fun _ => #[v, v]) >>= _) _ _ _
  refine wpAny_bind ?_
  refine wpAny_updateSeq hS' rfl ?_
  rw [hname]
  have other : ∀ b o, b ≠ S → h'.get? b = some o → (h'.update S (Obj.mapSeq fun _ => #[v, v])).get? b = some o := fun b o hbS e => (Heap.get?_update_other _ _ (Ne.symm hbS)).trans e
  refine wpAny_pure ⟨plainId_quiet PySem.F.plain_min_loop _, min_loopH W bt hcmp hw S hSf hS0 _ 0 _ v _ rfl hn (W.frame _ _ _ hst' fun b hbf o e => ?_) hP (fun b o e => ?_) (Heap.get?_update_self _ hS' rfl) fun v' h'' tk'' hP' hk'' => ?_⟩
  · exact other b o (fun h => hSf (by rw [← h]; exact hbf)) e
  · exact other b o (fun h => by rw [h, hS0] at e; cases e) (hk' b o (fun hb => by rw [hw b hb] at e; cases e) (hX b o e))
  · exact hR v' h'' tk'' hP' fun b o hbw hbS e => hk'' b o hbw hbS (other b o hbS (hk' b o hbw e))
end

section
variable {prog : Program} {w : World} {A : Around} {E : Value → Shared → Prop} {s : Shared}


theorem call_min_walkH {x : Value} {Q : Value → Shared → Prop}
    (h : wpAny (model prog w) A.in1 (pyIter x) (fun it s₂ => ∃ I fp wr n P St bt h₀, it = .ref I ∧ Walks prog w A.in1 I fp wr n P St ∧ St 0 s₂.heap ∧ (∀ b ∈ fp, b < s₂.heap.objs.size) ∧ 0 < n ∧ CmpH prog w A.in1 .Lt h₀ P bt ∧ (∀ b ∈ wr, h₀.get? b = none) ∧
      (∀ b o, h₀.get? b = some o → s₂.heap.get? b = some o) ∧
      ∀ v h' tk, P (argBest bt (n - 1)) v → (∀ b o, b ∉ wr → s₂.heap.get? b = some o → h'.get? b = some o) → Q v { s₂ with heap := h', toks := tk }) E s) :
    wpAny (model prog w) A (call (.builtin "min") [x]) Q E s := by
  have hname : (toString "min" ++ toString ".loop" : String) = "min.loop" := by decide
  refine call_function_tree PySem.F.kind_min PySem.F.plain_min PySem.F.entry_min (PySem.F.args_min1 _) ?_
  show wpAny _ A.in1 (Builtin.Builtins.bindParams "min" ["key", "default"] 0 ⟨[], []⟩ >>= _) _ _ s
  refine wpAny_bind (wpAny_of_eq (show Builtin.Builtins.bindParams "min" ["key", "default"] 0 ⟨[], []⟩ = pure [none, none] from rfl) ?_)
  refine wpAny_bind (wpAny_pure ?_)
  refine wpAny_bind (wpAny_mono h (fun it s₂ h₂ => ?_) fun _ _ e => e)
  obtain ⟨I, fp, wr, n, P, St, bt, h₀, rfl, W, hst, hfp, hn, hcmp, hw, hX, hQ⟩ := h₂
  refine wpAny_bind (wpAny_newObj_type ?_)
  have hSf : s₂.heap.objs.size ∉ fp := fun hm => Nat.lt_irrefl _ (hfp _ hm)
  have hS0 : h₀.get? s₂.heap.objs.size = none := by
    cases e : h₀.get? s₂.heap.objs.size with
    | none => rfl
    | some o => exact absurd (Heap.lt_size (hX _ o e)) (Nat.lt_irrefl _)
  rw [hname]
  refine wpAny_pure ⟨plainId_quiet PySem.F.plain_min_loop _, min_firstH W bt hcmp hw s₂.heap.objs.size hSf hS0 hn (W.frame _ _ _ hst fun b _ o e => Heap.get?_push_of_some _ e) (fun b o e => Heap.get?_push_of_some _ (hX b o e)) (Heap.get?_push_size _ rfl) fun v h' tk hP hk => ?_⟩
  exact hQ v h' tk hP fun b o hbw e => hk b o hbw (Nat.ne_of_lt (Heap.lt_size e)) (Heap.get?_push_of_some _ e)

theorem call_min_twoH {a b : Value} {Q : Value → Shared → Prop}
    (h : wpAny (model prog w) A.in1 (pyIter (.ref s.heap.objs.size)) (fun it s₂ => ∃ I fp wr n P St bt h₀, it = .ref I ∧ Walks prog w A.in1 I fp wr n P St ∧ St 0 s₂.heap ∧ (∀ b ∈ fp, b < s₂.heap.objs.size) ∧ 0 < n ∧ CmpH prog w A.in1 .Lt h₀ P bt ∧ (∀ b ∈ wr, h₀.get? b = none) ∧
      (∀ b o, h₀.get? b = some o → s₂.heap.get? b = some o) ∧
      ∀ v h' tk, P (argBest bt (n - 1)) v → (∀ b o, b ∉ wr → s₂.heap.get? b = some o → h'.get? b = some o) → Q v { s₂ with heap := h', toks := tk }) E
      { s with heap := s.heap.push { cls := .type "tuple", data := .seq #[a, b] } }) :
    wpAny (model prog w) A (call (.builtin "min") [a, b]) Q E s := by
  have hname : (toString "min" ++ toString ".loop" : String) = "min.loop" := by decide
  refine call_function_tree PySem.F.kind_min PySem.F.plain_min PySem.F.entry_min (PySem.F.args_min2 _ _) ?_
  show wpAny _ A.in1 (Builtin.Builtins.bindParams "min" ["key", "default"] 0 ⟨[], []⟩ >>= _) _ _ s
  refine wpAny_bind (wpAny_of_eq (show Builtin.Builtins.bindParams "min" ["key", "default"] 0 ⟨[], []⟩ = pure [none, none] from rfl) ?_)
  show wpAny _ A.in1 (newTuple [a, b] >>= _) _ _ s
  refine wpAny_bind (wpAny_newObj_type ?_)
  refine wpAny_bind (wpAny_mono h (fun it s₂ h₂ => ?_) fun _ _ e => e)
  obtain ⟨I, fp, wr, n, P, St, bt, h₀, rfl, W, hst, hfp, hn, hcmp, hw, hX, hQ⟩ := h₂
  refine wpAny_bind (wpAny_newObj_type ?_)
  have hSf : s₂.heap.objs.size ∉ fp := fun hm => Nat.lt_irrefl _ (hfp _ hm)
  have hS0 : h₀.get? s₂.heap.objs.size = none := by
    cases e : h₀.get? s₂.heap.objs.size with
    | none => rfl
    | some o => exact absurd (Heap.lt_size (hX _ o e)) (Nat.lt_irrefl _)
  rw [hname]
  refine wpAny_pure ⟨plainId_quiet PySem.F.plain_min_loop _, min_firstH W bt hcmp hw s₂.heap.objs.size hSf hS0 hn (W.frame _ _ _ hst fun b _ o e => Heap.get?_push_of_some _ e) (fun b o e => Heap.get?_push_of_some _ (hX b o e)) (Heap.get?_push_size _ rfl) fun v h' tk hP hk => ?_⟩
  exact hQ v h' tk hP fun b o hbw e => hk b o hbw (Nat.ne_of_lt (Heap.lt_size e)) (Heap.get?_push_of_some _ e)
end

section
/-- min of the items of a list, or of two -/
def minL (vs : List V) : M V := fun σ => match mapO (toD σ.st 6) vs with
  | some ds => if 0 < vs.length ∧ allCmp ltD ds = true then .ok (vs.getD (argBest (btOf ltD ds) (vs.length - 1)) .none) σ else .stuck
  | none => .stuck
def minD : List V → M V
  | [.obj l] => fun σ => match σ.st[l]? with
    | some (.lst vs) => minL vs σ
    | _ => .stuck
  | [a, b] => minL [a, b]
  | _ => fun _ => .stuck
theorem min_cmp {A : Around} {σ : S} {ρ : List Addr} {s : Shared} {vs : List V} {ws : List Value} {ds : List PyData} (g : GRel K σ.st ρ s) (r : RepL K s.heap ρ vs ws) (hd : mapO (toD σ.st 6) vs = some ds) (hall : allCmp ltD ds = true) (hu : A.units + 7 < cLine) :
    CmpH K.prog K.w A .Lt s.heap (fun i v => ws.toArray[i]? = some v) (btOf ltD ds) := by
  intro i j vi vj s' Q E hi hj hX hQ
  have g' : GRel K σ.st ρ { s with heap := s'.heap } := g.kept hX rfl rfl
  have r' := r.mono (Ext.kept (mine := []) hX)
  obtain ⟨ui, e1, ri⟩ := r'.getW (i := i) (by simpa using hi)
  obtain ⟨uj, e2, rj⟩ := r'.getW (i := j) (by simpa using hj)
  obtain ⟨di, f1, t1⟩ := mapO_get hd e1
  obtain ⟨dj, f2, t2⟩ := mapO_get hd e2
  obtain ⟨as, r1, c1, p1⟩ := toD_reads g' 6 ui vi di t1 ri
  obtain ⟨bs, r2, c2, p2⟩ := toD_reads g' 6 uj vj dj t2 rj
  obtain ⟨x, hx⟩ := allCmp_get hall f1 f2
  have hb : btOf ltD ds i j = x := by
    unfold btOf
    rw [f1, f2]; dsimp only; rw [hx]; rfl
  rw [hb] at hQ
  exact ltAt_reads di dj A s' vi vj as bs x r1 r2 c1 c2 (by (first | lia | omega)) hx K.prog K.w E Q hQ
theorem built_minD : BuiltOk K (.builtin "min") minD := by
  intro F fk σ ρ s vs ws rel r
  have hu := fk.units
  unfold minD
  split
  · rename_i l
    obtain ⟨x, r', rfl, r1, r2⟩ := RepL.cons_iff.mp r
    obtain rfl := RepL.nil_iff.mp r2
    cases hl : σ.st[l]? with
    | none => exact Run.stuck
    | some c =>
      cases c with
      | lst us =>
        dsimp only
        unfold minL
        cases hd : mapO (toD σ.st 6) us with
        | none => exact Run.stuck
        | some ds =>
          dsimp only
          by_cases hz : 0 < us.length ∧ allCmp ltD ds = true
          · rw [if_pos hz]
            obtain ⟨a, xs, n, rfl, hρ, hL, hr, hn⟩ := rel.list r1 hl
            have hxl : xs.length = us.length := hr.length
            have hlt : a < s.heap.objs.size := by obtain ⟨_, e, _⟩ := hL.isList; exact Heap.lt_size e
            refine Run.ok (call_min_walkH (wpAny_pyIter_list hL.isList ?_))
            refine ⟨_, [s.heap.objs.size, a], [s.heap.objs.size], xs.toArray.size, _, _, btOf ltD ds, s.heap, rfl, Walks.list (A := F.A.in1) (by show F.A.handled = none; exact fk.hd) _ a (Nat.ne_of_lt hlt) xs.toArray, ⟨⟨_, Heap.get?_push_size _ rfl, rfl, rfl⟩, hL.isList.push _⟩, ?_, by simp; (first | lia | omega), min_cmp rel.toGRel hr hd hz.2 (by have : F.A.in1.units = F.A.units + 1 := rfl; (first | lia | omega)), ?_, fun b o e => Heap.get?_push_of_some _ e, ?_⟩
            · intro b hb
              show b < (s.heap.push _).objs.size
              rw [Heap.size_push]
              simp only [List.mem_cons, List.not_mem_nil, or_false] at hb
              rcases hb with rfl | rfl
              · exact Nat.lt_succ_self _
              · exact Nat.lt_succ_of_lt hlt
            · intro b hb
              rw [List.mem_singleton.mp hb]
              exact Heap.get?_none_of_le (Nat.le_refl _)
            · intro v h' tk hP hk
              have hk' : ∀ b o, s.heap.get? b = some o → h'.get? b = some o := fun b o e => hk b o (by simp; exact Nat.ne_of_lt (Heap.lt_size e)) (Heap.get?_push_of_some _ e)
              refine ⟨ρ, rel.kept hk' rfl rfl, Ext.kept hk', ?_⟩
              have hsz : xs.toArray.size - 1 = us.length - 1 := by simp; (first | lia | omega)
              rw [hsz] at hP
              have hlt2 := argBest_lt (btOf ltD ds) hz.1
              obtain ⟨u, e1, ru⟩ := (hr.mono (Ext.kept (mine := []) hk')).getW (by simpa using hP)
              rw [List.getD_eq_getElem?_getD, e1]; exact ru
          · rw [if_neg hz]; exact Run.stuck
  · rename_i va vb
    obtain ⟨x, r', rfl, r1, r2⟩ := RepL.cons_iff.mp r
    obtain ⟨y, r'', rfl, r3, r4⟩ := RepL.cons_iff.mp r2
    obtain rfl := RepL.nil_iff.mp r4
    unfold minL
    cases hd : mapO (toD σ.st 6) [va, vb] with
    | none => exact Run.stuck
    | some ds =>
      dsimp only
      by_cases hz : 0 < [va, vb].length ∧ allCmp ltD ds = true
      · rw [if_pos hz]
        have hX : ∀ b o, s.heap.get? b = some o → (s.heap.push { cls := .type "tuple", data := .seq #[x, y] }).get? b = some o := fun b o e => Heap.get?_push_of_some _ e
        have hT : (s.heap.push { cls := .type "tuple", data := .seq #[x, y] }).IsTuple s.heap.objs.size [x, y].toArray := ⟨_, Heap.get?_push_size _ rfl, rfl, 0, rfl⟩
        have hsz1 : (s.heap.push { cls := .type "tuple", data := .seq #[x, y] }).objs.size = s.heap.objs.size + 1 := Heap.size_push ..
        refine Run.ok (call_min_twoH (wpAny_pyIter_tuple hT ?_))
        refine ⟨_, [_, s.heap.objs.size], [_], [x, y].toArray.size, _, _, btOf ltD ds, s.heap, rfl, Walks.tuple (A := F.A.in1) (by show F.A.handled = none; exact fk.hd) _ s.heap.objs.size (by rw [hsz1]; exact Nat.ne_of_lt (Nat.lt_succ_self _)) [x, y].toArray, ⟨⟨_, Heap.get?_push_size _ rfl, rfl, rfl⟩, hT.push _⟩, ?_, by simp, min_cmp rel.toGRel r hd hz.2 (by have : F.A.in1.units = F.A.units + 1 := rfl; (first | lia | omega)), ?_, fun b o e => Heap.get?_push_of_some _ (hX b o e), ?_⟩
        · intro b hb
          show b < ((s.heap.push _).push _).objs.size
          rw [Heap.size_push, hsz1]
          simp only [List.mem_cons, List.not_mem_nil, or_false] at hb
          rcases hb with rfl | rfl
          · rw [hsz1]; exact Nat.lt_succ_self _
          · exact Nat.lt_succ_of_lt (Nat.lt_succ_self _)
        · intro b hb
          rw [List.mem_singleton.mp hb]
          exact Heap.get?_none_of_le (by rw [hsz1]; exact Nat.le_succ _)
        · intro v h' tk hP hk
          have hk' : ∀ b o, s.heap.get? b = some o → h'.get? b = some o := fun b o e => hk b o (by simp only [List.mem_singleton]; rw [hsz1]; exact Nat.ne_of_lt (Nat.lt_succ_of_lt (Heap.lt_size e))) (Heap.get?_push_of_some _ (hX b o e))
          refine ⟨ρ, rel.kept hk' rfl rfl, Ext.kept hk', ?_⟩
          have hP' : [x, y][argBest (btOf ltD ds) ([va, vb].length - 1)]? = some v := by simpa using hP
          obtain ⟨u, e1, ru⟩ := (r.mono (Ext.kept (mine := []) hk')).getW hP'
          rw [List.getD_eq_getElem?_getD, e1]; exact ru
      · rw [if_neg hz]; exact Run.stuck
  · exact Run.stuck
end

section
variable {prog : Program} {w : World} {A : Around} {R : Result → Shared → Prop} {I : Addr} {fp wr : List Addr} {n : Nat} {P : Nat → Value → Prop} {St : Nat → Heap → Prop} {h₀ : Heap}

theorem max_loopH (W : Walks prog w A.in1 I fp wr n P St) (bt : Nat → Nat → Bool) (hcmp : CmpH prog w A.in1 .Gt h₀ P bt) (hw : ∀ b ∈ wr, h₀.get? b = none) (S : Addr) (hSf : S ∉ fp) (hS0 : h₀.get? S = none) :
    ∀ (k j : Nat) (s : Shared) (vb : Value) (c : Nat), n - (j + 1) = k → j + 1 ≤ n → St (j + 1) s.heap → P (argBest bt j) vb → (∀ b o, h₀.get? b = some o → s.heap.get? b = some o) →
    s.heap.get? S = some { cls := .type "list", dict := none, data := .seq #[vb, vb] c, slots := #[] } →
    (∀ v h' tk, P (argBest bt (n - 1)) v → (∀ b o, b ∉ wr → b ≠ S → s.heap.get? b = some o → h'.get? b = some o) → R (.ok (.ret v)) { s with heap := h', toks := tk }) →
    codeAny (model prog w) A (.builtin "max.loop" ⟨[.ref I, .none, .ref S], []⟩) R s := by
  have hSw : S ∉ wr := fun h => hSf (W.sub _ h)
  have hname : (toString "max" ++ toString ".loop" : String) = "max.loop" := by decide
  have step : ∀ {s s' : Heap}, (∀ b o, h₀.get? b = some o → s.get? b = some o) → (∀ b o, b ∉ wr → s.get? b = some o → s'.get? b = some o) → ∀ b o, h₀.get? b = some o → s'.get? b = some o := by
    intro s s' h1 h2 b o e
    refine h2 b o (fun hb => ?_) (h1 b o e)
    rw [hw b hb] at e; cases e
  intro k
  induction k with
  | zero =>
    intro j s vb c hk hj hst hPb hX hS hR
    have hin : j + 1 = n := by (first | lia | omega)
    refine codeAny_builtin PySem.F.entry_max_loop ?_
    rw [Around.under_plainId PySem.F.plain_max_loop _]
    show wpAny _ A.in1 (seqItems? (.ref S) >>= _) _ _ s
    refine wpAny_bind (wpAny_seqItems hS rfl ?_)
    show wpAny _ A.in1 (tryCatch (pyNext (.ref I)) _ >>= _) _ _ s
    refine wpAny_bind (wpAny_tryCatch (W.done s _ _ (hin ▸ hst) fun h' tk hk' => ?_))
    have hS' := hk' S _ hSw hS
    show wpAny _ A.in1 (updateSeq S (fun _ => #[]) >>= _) _ _ _
    refine wpAny_bind ?_
    refine wpAny_updateSeq hS' rfl (wpAny_bind (wpAny_letGo (wpAny_pure ?_)))
    refine hR vb _ tk (by rw [← hin]; exact hPb) fun b o hbw hbS e => (Heap.get?_update_other _ _ (Ne.symm hbS)).trans (hk' b o hbw e)
  | succ k ih =>
    intro j s vb c hk hj hst hPb hX hS hR
    have hlt : j + 1 < n := by (first | lia | omega)
    refine codeAny_builtin PySem.F.entry_max_loop ?_
    rw [Around.under_plainId PySem.F.plain_max_loop _]
    show wpAny _ A.in1 (seqItems? (.ref S) >>= _) _ _ s
    refine wpAny_bind (wpAny_seqItems hS rfl ?_)
    show wpAny _ A.in1 (tryCatch (pyNext (.ref I)) _ >>= _) _ _ s
    refine wpAny_bind (wpAny_tryCatch (W.item (j + 1) s _ _ hlt hst fun v h' tk hP hst' hk' => ?_))
    have hS' := hk' S _ hSw hS
    have hX' := step hX hk'
    show wpAny _ A.in1 (tryCatch (holding [v, v] (richCompare .Gt v vb >>= _)) _ >>= _) _ _ _
    refine wpAny_bind (wpAny_tryCatch (wpAny_holding (wpAny_bind (hcmp (j + 1) (argBest bt j) v vb _ _ _ hP hPb hX' ?_))))
    refine wpAny_bind (wpAny_holding (wpAny_truthy_bool ?_))
    refine wpAny_bind (wpAny_letGo (wpAny_pure ?_))
    cases hb : bt (j + 1) (argBest bt j) with
    | true =>
      simp only [if_true]
      refine wpAny_bind ?_
      refine wpAny_updateSeq hS' rfl (wpAny_bind (wpAny_letGo ?_))
      rw [hname]
      have other : ∀ b o, b ≠ S → h'.get? b = some o → (h'.update S (Obj.mapSeq fun _ => #[v, v])).get? b = some o := fun b o hbS e => (Heap.get?_update_other _ _ (Ne.symm hbS)).trans e
      refine wpAny_pure ⟨plainId_quiet PySem.F.plain_max_loop _, ih (j + 1) _ v _ (by (first | lia | omega)) hlt (W.frame _ _ _ hst' fun b hbf o e => ?_) (by simp only [argBest, hb, if_true]; exact hP) (fun b o e => ?_) (Heap.get?_update_self _ hS' rfl)
        fun v' h'' tk'' hP' hk'' => ?_⟩
      · exact other b o (fun h => hSf (by rw [← h]; exact hbf)) e
      · exact other b o (fun h => by rw [h, hS0] at e; cases e) (hX' b o e)
      · exact hR v' h'' tk'' hP' fun b o hbw hbS e => hk'' b o hbw hbS (other b o hbS (hk' b o hbw e))
    | false =>
      simp only [Bool.false_eq_true, if_false]
      refine wpAny_bind (wpAny_letGo ?_)
      rw [hname]
      refine wpAny_pure ⟨plainId_quiet PySem.F.plain_max_loop _, ih (j + 1) _ vb c (by (first | lia | omega)) hlt hst' (by simp only [argBest, hb, Bool.false_eq_true, if_false]; exact hPb) hX' hS' fun v' h'' tk'' hP' hk'' => ?_⟩
      exact hR v' h'' tk'' hP' fun b o hbw hbS e => hk'' b o hbw hbS (hk' b o hbw e)

theorem max_firstH (W : Walks prog w A.in1 I fp wr n P St) (bt : Nat → Nat → Bool) (hcmp : CmpH prog w A.in1 .Gt h₀ P bt) (hw : ∀ b ∈ wr, h₀.get? b = none) (S : Addr) (hSf : S ∉ fp) (hS0 : h₀.get? S = none) (hn : 0 < n) {s : Shared} {c : Nat} (hst : St 0 s.heap)
    (hX : ∀ b o, h₀.get? b = some o → s.heap.get? b = some o)
    (hS : s.heap.get? S = some { cls := .type "list", dict := none, data := .seq #[] c, slots := #[] })
    (hR : ∀ v h' tk, P (argBest bt (n - 1)) v → (∀ b o, b ∉ wr → b ≠ S → s.heap.get? b = some o → h'.get? b = some o) → R (.ok (.ret v)) { s with heap := h', toks := tk }) :
    codeAny (model prog w) A (.builtin "max.loop" ⟨[.ref I, .none, .ref S], []⟩) R s := by
  have hSw : S ∉ wr := fun h => hSf (W.sub _ h)
  have hname : (toString "max" ++ toString ".loop" : String) = "max.loop" := by decide
  refine codeAny_builtin PySem.F.entry_max_loop ?_
  rw [Around.under_plainId PySem.F.plain_max_loop _]
  show wpAny _ A.in1 (seqItems? (.ref S) >>= _) _ _ s
  refine wpAny_bind (wpAny_seqItems hS rfl ?_)
  show wpAny _ A.in1 (tryCatch (pyNext (.ref I)) _ >>= _) _ _ s
  refine wpAny_bind (wpAny_tryCatch (W.item 0 s _ _ hn hst fun v h' tk hP hst' hk' => ?_))
  have hS' := hk' S _ hSw hS
  show wpAny _ A.in1 (updateSeq S (fun _ => #[v, v]) >>= _) _ _ _
  refine wpAny_bind ?_
  refine wpAny_updateSeq hS' rfl ?_
  rw [hname]
  have other : ∀ b o, b ≠ S → h'.get? b = some o → (h'.update S (Obj.mapSeq fun _ => #[v, v])).get? b = some o := fun b o hbS e => (Heap.get?_update_other _ _ (Ne.symm hbS)).trans e
  refine wpAny_pure ⟨plainId_quiet PySem.F.plain_max_loop _, max_loopH W bt hcmp hw S hSf hS0 _ 0 _ v _ rfl hn (W.frame _ _ _ hst' fun b hbf o e => ?_) hP (fun b o e => ?_) (Heap.get?_update_self _ hS' rfl) fun v' h'' tk'' hP' hk'' => ?_⟩
  · exact other b o (fun h => hSf (by rw [← h]; exact hbf)) e
  · exact other b o (fun h => by rw [h, hS0] at e; cases e) (hk' b o (fun hb => by rw [hw b hb] at e; cases e) (hX b o e))
  · exact hR v' h'' tk'' hP' fun b o hbw hbS e => hk'' b o hbw hbS (other b o hbS (hk' b o hbw e))
end

section
variable {prog : Program} {w : World} {A : Around} {E : Value → Shared → Prop} {s : Shared}


theorem call_max_walkH {x : Value} {Q : Value → Shared → Prop}
    (h : wpAny (model prog w) A.in1 (pyIter x) (fun it s₂ => ∃ I fp wr n P St bt h₀, it = .ref I ∧ Walks prog w A.in1 I fp wr n P St ∧ St 0 s₂.heap ∧ (∀ b ∈ fp, b < s₂.heap.objs.size) ∧ 0 < n ∧ CmpH prog w A.in1 .Gt h₀ P bt ∧ (∀ b ∈ wr, h₀.get? b = none) ∧
      (∀ b o, h₀.get? b = some o → s₂.heap.get? b = some o) ∧
      ∀ v h' tk, P (argBest bt (n - 1)) v → (∀ b o, b ∉ wr → s₂.heap.get? b = some o → h'.get? b = some o) → Q v { s₂ with heap := h', toks := tk }) E s) :
    wpAny (model prog w) A (call (.builtin "max") [x]) Q E s := by
  have hname : (toString "max" ++ toString ".loop" : String) = "max.loop" := by decide
  refine call_function_tree PySem.F.kind_max PySem.F.plain_max PySem.F.entry_max (PySem.F.args_max1 _) ?_
  show wpAny _ A.in1 (Builtin.Builtins.bindParams "max" ["key", "default"] 0 ⟨[], []⟩ >>= _) _ _ s
  refine wpAny_bind (wpAny_of_eq (show Builtin.Builtins.bindParams "max" ["key", "default"] 0 ⟨[], []⟩ = pure [none, none] from rfl) ?_)
  refine wpAny_bind (wpAny_pure ?_)
  refine wpAny_bind (wpAny_mono h (fun it s₂ h₂ => ?_) fun _ _ e => e)
  obtain ⟨I, fp, wr, n, P, St, bt, h₀, rfl, W, hst, hfp, hn, hcmp, hw, hX, hQ⟩ := h₂
  refine wpAny_bind (wpAny_newObj_type ?_)
  have hSf : s₂.heap.objs.size ∉ fp := fun hm => Nat.lt_irrefl _ (hfp _ hm)
  have hS0 : h₀.get? s₂.heap.objs.size = none := by
    cases e : h₀.get? s₂.heap.objs.size with
    | none => rfl
    | some o => exact absurd (Heap.lt_size (hX _ o e)) (Nat.lt_irrefl _)
  rw [hname]
  refine wpAny_pure ⟨plainId_quiet PySem.F.plain_max_loop _, max_firstH W bt hcmp hw s₂.heap.objs.size hSf hS0 hn (W.frame _ _ _ hst fun b _ o e => Heap.get?_push_of_some _ e) (fun b o e => Heap.get?_push_of_some _ (hX b o e)) (Heap.get?_push_size _ rfl) fun v h' tk hP hk => ?_⟩
  exact hQ v h' tk hP fun b o hbw e => hk b o hbw (Nat.ne_of_lt (Heap.lt_size e)) (Heap.get?_push_of_some _ e)

theorem call_max_twoH {a b : Value} {Q : Value → Shared → Prop}
    (h : wpAny (model prog w) A.in1 (pyIter (.ref s.heap.objs.size)) (fun it s₂ => ∃ I fp wr n P St bt h₀, it = .ref I ∧ Walks prog w A.in1 I fp wr n P St ∧ St 0 s₂.heap ∧ (∀ b ∈ fp, b < s₂.heap.objs.size) ∧ 0 < n ∧ CmpH prog w A.in1 .Gt h₀ P bt ∧ (∀ b ∈ wr, h₀.get? b = none) ∧
      (∀ b o, h₀.get? b = some o → s₂.heap.get? b = some o) ∧
      ∀ v h' tk, P (argBest bt (n - 1)) v → (∀ b o, b ∉ wr → s₂.heap.get? b = some o → h'.get? b = some o) → Q v { s₂ with heap := h', toks := tk }) E
      { s with heap := s.heap.push { cls := .type "tuple", data := .seq #[a, b] } }) :
    wpAny (model prog w) A (call (.builtin "max") [a, b]) Q E s := by
  have hname : (toString "max" ++ toString ".loop" : String) = "max.loop" := by decide
  refine call_function_tree PySem.F.kind_max PySem.F.plain_max PySem.F.entry_max (PySem.F.args_max2 _ _) ?_
  show wpAny _ A.in1 (Builtin.Builtins.bindParams "max" ["key", "default"] 0 ⟨[], []⟩ >>= _) _ _ s
  refine wpAny_bind (wpAny_of_eq (show Builtin.Builtins.bindParams "max" ["key", "default"] 0 ⟨[], []⟩ = pure [none, none] from rfl) ?_)
  show wpAny _ A.in1 (newTuple [a, b] >>= _) _ _ s
  refine wpAny_bind (wpAny_newObj_type ?_)
  refine wpAny_bind (wpAny_mono h (fun it s₂ h₂ => ?_) fun _ _ e => e)
  obtain ⟨I, fp, wr, n, P, St, bt, h₀, rfl, W, hst, hfp, hn, hcmp, hw, hX, hQ⟩ := h₂
  refine wpAny_bind (wpAny_newObj_type ?_)
  have hSf : s₂.heap.objs.size ∉ fp := fun hm => Nat.lt_irrefl _ (hfp _ hm)
  have hS0 : h₀.get? s₂.heap.objs.size = none := by
    cases e : h₀.get? s₂.heap.objs.size with
    | none => rfl
    | some o => exact absurd (Heap.lt_size (hX _ o e)) (Nat.lt_irrefl _)
  rw [hname]
  refine wpAny_pure ⟨plainId_quiet PySem.F.plain_max_loop _, max_firstH W bt hcmp hw s₂.heap.objs.size hSf hS0 hn (W.frame _ _ _ hst fun b _ o e => Heap.get?_push_of_some _ e) (fun b o e => Heap.get?_push_of_some _ (hX b o e)) (Heap.get?_push_size _ rfl) fun v h' tk hP hk => ?_⟩
  exact hQ v h' tk hP fun b o hbw e => hk b o hbw (Nat.ne_of_lt (Heap.lt_size e)) (Heap.get?_push_of_some _ e)
end

section
/-- max of the items of a list, or of two -/
def maxL (vs : List V) : M V := fun σ => match mapO (toD σ.st 6) vs with
  | some ds => if 0 < vs.length ∧ allCmp gtD ds = true then .ok (vs.getD (argBest (btOf gtD ds) (vs.length - 1)) .none) σ else .stuck
  | none => .stuck
def maxD : List V → M V
  | [.obj l] => fun σ => match σ.st[l]? with
    | some (.lst vs) => maxL vs σ
    | _ => .stuck
  | [a, b] => maxL [a, b]
  | _ => fun _ => .stuck
theorem max_cmp {A : Around} {σ : S} {ρ : List Addr} {s : Shared} {vs : List V} {ws : List Value} {ds : List PyData} (g : GRel K σ.st ρ s) (r : RepL K s.heap ρ vs ws) (hd : mapO (toD σ.st 6) vs = some ds) (hall : allCmp gtD ds = true) (hu : A.units + 7 < cLine) :
    CmpH K.prog K.w A .Gt s.heap (fun i v => ws.toArray[i]? = some v) (btOf gtD ds) := by
  intro i j vi vj s' Q E hi hj hX hQ
  have g' : GRel K σ.st ρ { s with heap := s'.heap } := g.kept hX rfl rfl
  have r' := r.mono (Ext.kept (mine := []) hX)
  obtain ⟨ui, e1, ri⟩ := r'.getW (i := i) (by simpa using hi)
  obtain ⟨uj, e2, rj⟩ := r'.getW (i := j) (by simpa using hj)
  obtain ⟨di, f1, t1⟩ := mapO_get hd e1
  obtain ⟨dj, f2, t2⟩ := mapO_get hd e2
  obtain ⟨as, r1, c1, p1⟩ := toD_reads g' 6 ui vi di t1 ri
  obtain ⟨bs, r2, c2, p2⟩ := toD_reads g' 6 uj vj dj t2 rj
  obtain ⟨x, hx⟩ := allCmp_get hall f1 f2
  have hb : btOf gtD ds i j = x := by
    unfold btOf
    rw [f1, f2]; dsimp only; rw [hx]; rfl
  rw [hb] at hQ
  exact gtAt_reads di dj A s' vi vj as bs x r1 r2 c1 c2 (by (first | lia | omega)) hx K.prog K.w E Q hQ
theorem built_maxD : BuiltOk K (.builtin "max") maxD := by
  intro F fk σ ρ s vs ws rel r
  have hu := fk.units
  unfold maxD
  split
  · rename_i l
    obtain ⟨x, r', rfl, r1, r2⟩ := RepL.cons_iff.mp r
    obtain rfl := RepL.nil_iff.mp r2
    cases hl : σ.st[l]? with
    | none => exact Run.stuck
    | some c =>
      cases c with
      | lst us =>
        dsimp only
        unfold maxL
        cases hd : mapO (toD σ.st 6) us with
        | none => exact Run.stuck
        | some ds =>
          dsimp only
          by_cases hz : 0 < us.length ∧ allCmp gtD ds = true
          · rw [if_pos hz]
            obtain ⟨a, xs, n, rfl, hρ, hL, hr, hn⟩ := rel.list r1 hl
            have hxl : xs.length = us.length := hr.length
            have hlt : a < s.heap.objs.size := by obtain ⟨_, e, _⟩ := hL.isList; exact Heap.lt_size e
            refine Run.ok (call_max_walkH (wpAny_pyIter_list hL.isList ?_))
            refine ⟨_, [s.heap.objs.size, a], [s.heap.objs.size], xs.toArray.size, _, _, btOf gtD ds, s.heap, rfl, Walks.list (A := F.A.in1) (by show F.A.handled = none; exact fk.hd) _ a (Nat.ne_of_lt hlt) xs.toArray, ⟨⟨_, Heap.get?_push_size _ rfl, rfl, rfl⟩, hL.isList.push _⟩, ?_, by simp; (first | lia | omega), max_cmp rel.toGRel hr hd hz.2 (by have : F.A.in1.units = F.A.units + 1 := rfl; (first | lia | omega)), ?_, fun b o e => Heap.get?_push_of_some _ e, ?_⟩
            · intro b hb
              show b < (s.heap.push _).objs.size
              rw [Heap.size_push]
              simp only [List.mem_cons, List.not_mem_nil, or_false] at hb
              rcases hb with rfl | rfl
              · exact Nat.lt_succ_self _
              · exact Nat.lt_succ_of_lt hlt
            · intro b hb
              rw [List.mem_singleton.mp hb]
              exact Heap.get?_none_of_le (Nat.le_refl _)
            · intro v h' tk hP hk
              have hk' : ∀ b o, s.heap.get? b = some o → h'.get? b = some o := fun b o e => hk b o (by simp; exact Nat.ne_of_lt (Heap.lt_size e)) (Heap.get?_push_of_some _ e)
              refine ⟨ρ, rel.kept hk' rfl rfl, Ext.kept hk', ?_⟩
              have hsz : xs.toArray.size - 1 = us.length - 1 := by simp; (first | lia | omega)
              rw [hsz] at hP
              have hlt2 := argBest_lt (btOf gtD ds) hz.1
              obtain ⟨u, e1, ru⟩ := (hr.mono (Ext.kept (mine := []) hk')).getW (by simpa using hP)
              rw [List.getD_eq_getElem?_getD, e1]; exact ru
          · rw [if_neg hz]; exact Run.stuck
  · rename_i va vb
    obtain ⟨x, r', rfl, r1, r2⟩ := RepL.cons_iff.mp r
    obtain ⟨y, r'', rfl, r3, r4⟩ := RepL.cons_iff.mp r2
    obtain rfl := RepL.nil_iff.mp r4
    unfold maxL
    cases hd : mapO (toD σ.st 6) [va, vb] with
    | none => exact Run.stuck
    | some ds =>
      dsimp only
      by_cases hz : 0 < [va, vb].length ∧ allCmp gtD ds = true
      · rw [if_pos hz]
        have hX : ∀ b o, s.heap.get? b = some o → (s.heap.push { cls := .type "tuple", data := .seq #[x, y] }).get? b = some o := fun b o e => Heap.get?_push_of_some _ e
        have hT : (s.heap.push { cls := .type "tuple", data := .seq #[x, y] }).IsTuple s.heap.objs.size [x, y].toArray := ⟨_, Heap.get?_push_size _ rfl, rfl, 0, rfl⟩
        have hsz1 : (s.heap.push { cls := .type "tuple", data := .seq #[x, y] }).objs.size = s.heap.objs.size + 1 := Heap.size_push ..
        refine Run.ok (call_max_twoH (wpAny_pyIter_tuple hT ?_))
        refine ⟨_, [_, s.heap.objs.size], [_], [x, y].toArray.size, _, _, btOf gtD ds, s.heap, rfl, Walks.tuple (A := F.A.in1) (by show F.A.handled = none; exact fk.hd) _ s.heap.objs.size (by rw [hsz1]; exact Nat.ne_of_lt (Nat.lt_succ_self _)) [x, y].toArray, ⟨⟨_, Heap.get?_push_size _ rfl, rfl, rfl⟩, hT.push _⟩, ?_, by simp, max_cmp rel.toGRel r hd hz.2 (by have : F.A.in1.units = F.A.units + 1 := rfl; (first | lia | omega)), ?_, fun b o e => Heap.get?_push_of_some _ (hX b o e), ?_⟩
        · intro b hb
          show b < ((s.heap.push _).push _).objs.size
          rw [Heap.size_push, hsz1]
          simp only [List.mem_cons, List.not_mem_nil, or_false] at hb
          rcases hb with rfl | rfl
          · rw [hsz1]; exact Nat.lt_succ_self _
          · exact Nat.lt_succ_of_lt (Nat.lt_succ_self _)
        · intro b hb
          rw [List.mem_singleton.mp hb]
          exact Heap.get?_none_of_le (by rw [hsz1]; exact Nat.le_succ _)
        · intro v h' tk hP hk
          have hk' : ∀ b o, s.heap.get? b = some o → h'.get? b = some o := fun b o e => hk b o (by simp only [List.mem_singleton]; rw [hsz1]; exact Nat.ne_of_lt (Nat.lt_succ_of_lt (Heap.lt_size e))) (Heap.get?_push_of_some _ (hX b o e))
          refine ⟨ρ, rel.kept hk' rfl rfl, Ext.kept hk', ?_⟩
          have hP' : [x, y][argBest (btOf gtD ds) ([va, vb].length - 1)]? = some v := by simpa using hP
          obtain ⟨u, e1, ru⟩ := (r.mono (Ext.kept (mine := []) hk')).getW hP'
          rw [List.getD_eq_getElem?_getD, e1]; exact ru
      · rw [if_neg hz]; exact Run.stuck
  · exact Run.stuck
end

end Mine


/-! part F26 -/
set_option autoImplicit false
set_option maxRecDepth 100000
set_option linter.unusedVariables false
open PySem PySem.W PyProof.Rows
namespace Mine

variable {K : Glo} {F : Frm}

def compTailG (free : List String) (mc : Nat → (Nat → M (Option V)) → M Unit) (nx : Nat → M (Option V)) : M V := fun σ => match mc σ.st.length nx ⟨σ.st ++ [.lst []], restr free σ.lo⟩ with
    | .ok _ σ' => .ok (.obj σ.st.length) ⟨σ'.st, σ.lo⟩
    | .exc e σ' => .exc e ⟨σ'.st, σ.lo⟩
    | .stuck => .stuck
/-- an expression that gives an iterator of its own -/
def SimIt (K : Glo) (F : Frm) (target e : Expr) (mi : M (Nat → M (Option V))) : Prop := ∀ σ ρ s, Rel K F σ ρ s → mi σ ≠ .stuck →
  wpAny (model K.prog K.w) F.A (eval e F.env) (fun x s₁ => wpAny (model K.prog K.w) F.A (pyIter x) (fun it s₂ => ∃ I nx σ₁ s₁' ρ₁ fp St, it = .ref I ∧ mi σ = .ok nx σ₁ ∧ Rel K F σ₁ ρ₁ s₁' ∧ Ext F.mine ρ ρ₁ s.heap s₁'.heap ∧
    Rel K F σ₁ ρ₁ s₂ ∧ Ext [] ρ₁ ρ₁ s₁'.heap s₂.heap ∧ (∀ b ∈ fp, s₁'.heap.get? b = none) ∧ (∀ F' : Frm, FOk F' → GIter K F' target I fp St nx ρ₁ s₁'.heap) ∧ St 0 s₂.heap) (EO K F (mi σ) ρ s.heap) s₁) (EO K F (mi σ) ρ s.heap) s
def SimClausesG (K : Glo) (F : Frm) (elt target : Expr) (gens : List Comprehension) (scope : Scope) (pos : Pos) (d : Nat) (m : Nat → (Nat → M (Option V)) → M Unit) : Prop :=
  ∀ (l : Nat) (a : Addr) (I : Addr) (fp : List Addr) (St : Nat → Heap → Prop) (nx : Nat → M (Option V)) σ ρ ρ₀ s h₀, GIter K F target I fp St nx ρ₀ h₀ → Rel K F σ ρ s → ρ[l]? = some a → Ext F.mine ρ₀ ρ h₀ s.heap → (∀ b ∈ fp, h₀.get? b = none) → (∀ b ∈ fp, K.base.get? b = none) →
    (∀ b ∈ fp, b ∉ F.mine) → (∀ b ∈ fp, b ∉ ρ) → St 0 s.heap → m l nx σ ≠ .stuck →
    codeAny (model K.prog K.w) F.A (.compStart (.ListComp elt gens scope pos) d (.ref I) (.ref a) F.env) (fun r s' => match r with
      | .ok _ => ∃ σ' ρ', m l nx σ = .ok () σ' ∧ Rel K F σ' ρ' s' ∧ Ext F.mine ρ₀ ρ' h₀ s'.heap ∧ ρ'[l]? = some a
      | .error v => EO K F (m l nx σ) ρ₀ h₀ v s') s
def loopCG (n : Nat) (t : V → M Unit) (c : M Bool) (mi : M Unit) (nx : Nat → M (Option V)) : M Unit := do
  let _ ← forN nx t (compB c mi) n 0
  pure ()
theorem clauses_ofG {elt target iter : Expr} {ifs : List Expr} {gens : List Comprehension} {scope : Scope} {pos : Pos} {d : Nat} {test : Option Expr} {inner : Value → Sem Unit} {t : V → M Unit} {c : M Bool} {mi : Nat → M Unit} (n : Nat)
    (hg : gens[d]? = some ⟨target, iter, ifs, 0⟩)
    (hto : ∀ acc, TurnOk (.ListComp elt gens scope pos) d F.env acc target test (inner acc)) (ht : SimT K F target t) (hc : SimTest K F test c) (hin : ∀ l a, SimA K F l a (inner (.ref a)) (mi l)) :
    SimClausesG K F elt target gens scope pos d (fun l nx => loopCG n t c (mi l) nx) := by
  intro l a I fp St nx σ ρ ρ₀ s h₀ hI rel hla x₀ h0 hb hm hρ hs hne
  have hne' : forN nx t (compB c (mi l)) n 0 σ ≠ .stuck := fun e => hne (by show loopCG n t c (mi l) nx σ = _; unfold loopCG; rw [M.bind_def, e])
  refine codeAny_compStartD hg ?_ (fun Q E q => hI.self 0 s _ Q E hs q)
  refine codeAny_mono (run_compLoopG (hto _) ht hc (hin l a) hI rel hla x₀ h0 hb hm hρ hs n hne') fun r s' h => ?_
  cases r with
  | ok f =>
    obtain ⟨f', σ', ρ', e, r1, r2, r4⟩ := h
    exact ⟨σ', ρ', by show loopCG n t c (mi l) nx σ = _; unfold loopCG; rw [M.bind_def, e]; rfl, r1, r2, r4⟩
  | error v =>
    obtain ⟨x, σ', ρ', e, r1, r2, r3⟩ := h
    exact ⟨x, σ', ρ', by show loopCG n t c (mi l) nx σ = _; unfold loopCG; rw [M.bind_def, e], r1, r2, r3⟩

theorem wp_compG (fk : FOk F) {elt target iter : Expr} {ifs : List Expr} {gs : List Comprehension} {scope : Scope} {pos fpos : Pos} {cl : List (Str × Addr)} {free : List String} {mi : M (Nat → M (Option V))} {mc : Nat → (Nat → M (Option V)) → M Unit}
    {use : Option (Value → Sem Unit)} {Q : Value → Shared → Prop} {E : Value → Shared → Prop} (hs : ∀ x, foldedSetIterable iter F.env x = pure x) (ck : CompOk F scope cl free) (hi : SimIt K F target iter mi)
    (hc : ∀ C, SimClausesG K (compFrm F scope cl C) elt target (⟨target, iter, ifs, 0⟩ :: gs) scope pos 0 mc) {σ : S} {ρ : List Addr} {s : Shared} (rel : Rel K F σ ρ s) (hne : (mi >>= compTailG free mc) σ ≠ .stuck)
    (hQ : ∀ v σ' ρ' s' w C m, (mi >>= compTailG free mc) σ = .ok v σ' → Rel K F σ' ρ' s' → Ext F.mine ρ ρ' s.heap s'.heap → Rep K s'.heap ρ' v w → s'.heap.Ns C m → C ∉ F.mine → C ∉ ρ' → K.base.get? C = none → s.heap.get? C = none →
      compPost (model K.prog K.w) F.A E use Q w C (.ok .next) s')
    (hE : ∀ v s', EO K F ((mi >>= compTailG free mc) σ) ρ s.heap v s' → E v s') :
    wpAny (model K.prog K.w) F.A (comprehension (.ListComp elt (⟨target, iter, ifs, 0⟩ :: gs) scope pos) scope F.env fpos (newList []) false (eval iter F.env) use) Q E s := by
  refine wpAny_comprehension_free (use := use) rfl hs ck.clos ck.kind ck.names ?_
  have hne0 : mi σ ≠ .stuck := fun e => hne (by rw [M.bind_def, e])
  have hEx : ∀ v s', EO K F (mi σ) ρ s.heap v s' → E v s' := by
    rintro v s' ⟨x, σ', ρ', e1, r1, r2, r3⟩
    exact hE v s' ⟨x, σ', ρ', by rw [M.bind_def, e1], r1, r2, r3⟩
  refine wpAny_mono (hi σ ρ s rel hne0) (fun x s₁ h₁ => wpAny_mono h₁ (fun it s₂ h₂ => ?_) hEx) hEx
  obtain ⟨I, nx, σ₁, s₁', ρ₁, fp, St, rfl, e1, rel₀, x₁, rel₁, x₁₂, hfp, hIt, hsrc⟩ := h₂
  have e2 : (mi >>= compTailG free mc) σ = compTailG free mc nx σ₁ := M.bind_ok e1
  rw [e2] at hne hQ hE
  have eT : compTailG free mc nx σ₁ = (match mc σ₁.st.length nx ⟨σ₁.st ++ [.lst []], restr free σ₁.lo⟩ with
      | .ok _ σ' => .ok (.obj σ₁.st.length) ⟨σ'.st, σ₁.lo⟩
      | .exc e σ' => .exc e ⟨σ'.st, σ₁.lo⟩
      | .stuck => .stuck) := rfl
  refine wpAny_newList ?_ (by simp [sizeLine_eq])
  obtain ⟨rel₃, x₃⟩ := rel₁.newList (vs := []) (ws := []) (o := { cls := .type "list", data := .seq ([] : List Value).toArray }) rfl RepL.nil (by simp) s₂.toks
  refine wpAny_newFunctionEnv ck.nocell (by intro y hy; simp at hy) (fun h₄ hns hsb => ?_) ck.kind
  dsimp only at hns hsb rel₃ x₃ ⊢
  generalize hH : s₂.heap.push { cls := .type "list", data := .seq ([] : List Value).toArray } = H at hns hsb rel₃ x₃ ⊢
  have hC : H.objs.size = s₂.heap.objs.size + 1 := by rw [← hH, Heap.size_push]
  generalize hCd : H.objs.size = C at hns hsb hC ⊢
  have hkeep : ∀ b o, H.get? b = some o → h₄.get? b = some o := fun b o e => (hsb.2 b (by rw [← hCd]; exact Nat.ne_of_lt (Heap.lt_size e))).trans (Heap.get?_push_of_some _ e)
  have hkeep2 : ∀ b o, s₂.heap.get? b = some o → h₄.get? b = some o := fun b o e => hkeep b o (by rw [← hH]; exact Heap.get?_push_of_some _ e)
  have fC : s₂.heap.get? C = none := Heap.get?_none_of_le (by rw [hC]; (first | lia | omega))
  have fC1 : s₁'.heap.get? C = none := by
    cases e : s₁'.heap.get? C with
    | none => rfl
    | some o => obtain ⟨o', e'⟩ := x₁₂.alive _ _ e; rw [fC] at e'; cases e'
  have bC : K.base.get? C = none := by
    cases e : K.base.get? C with
    | none => rfl
    | some o => have := rel₁.base _ _ e; rw [fC] at this; cases this
  have rel₄ : Rel K (compFrm F scope cl C) ⟨σ₁.st ++ [.lst []], restr free σ₁.lo⟩ (ρ₁ ++ [s₂.heap.objs.size]) { s₂ with heap := h₄, toks := s₂.toks + 0 } := by
    refine { toGRel := rel₃.toGRel.kept hkeep rfl rfl, vars := ?_, loc := ⟨_, hns⟩, cels := ?_, mineAbove := ?_, mineApart := ?_, mineLoc := List.mem_singleton.mpr rfl }
    · intro x v' e
      have hx : x ∈ free := by
        by_cases h : x ∈ free
        · exact h
        · simp only [restr, if_neg h] at e; cases e
      simp only [restr, if_pos hx] at e
      obtain ⟨w', h1, h2⟩ := rel₃.vars x v' e
      refine ⟨w', ?_, Rep.mono' (List.prefix_refl _) (kept_tup hkeep) h2⟩
      obtain ⟨q1, q2, q3⟩ := ck.free x hx
      rcases h1 with ⟨k1, _⟩ | ⟨k1, c, ec, n⟩
      · exact absurd k1 q2
      · exact .inr ⟨q1, c, q3 c ec, n.keeps hkeep⟩
    · intro x c e
      obtain ⟨v', n⟩ := rel₃.cels x c (ck.cells x c e)
      exact ⟨v', n.keeps hkeep⟩
    · intro a ha
      have : a = C := List.mem_singleton.mp ha
      subst this
      obtain ⟨o, _, _, e, _⟩ := hns
      exact ⟨bC, o, e⟩
    · intro a ha hb
      have : a = C := List.mem_singleton.mp ha
      subst this
      obtain ⟨_, o, e, _⟩ := rel₃.toGRel.alive hb
      rw [Heap.get?_none_of_le (by rw [hCd]; exact Nat.le_refl _)] at e; cases e
  have x₄ : Ext [C] ρ₁ (ρ₁ ++ [s₂.heap.objs.size]) s₁'.heap h₄ := by
    refine ⟨x₁₂.pre.trans (List.prefix_append _ _), fun b o e => ?_, fun a ha => ?_, fun b o e n1 n2 => ?_, fun b o e f => hkeep2 b o (x₁₂.froz b o e f)⟩
    · obtain ⟨o', e'⟩ := x₁₂.alive b o e
      exact ⟨o', hkeep2 b o' e'⟩
    · rcases List.mem_append.mp ha with ha | ha
      · exact x₁₂.new a ha
      · have := List.mem_singleton.mp ha
        subst this
        refine .inr ?_
        cases e : s₁'.heap.get? s₂.heap.objs.size with
        | none => rfl
        | some o => obtain ⟨o', e'⟩ := x₁₂.alive _ _ e; exact absurd (Heap.lt_size e') (Nat.lt_irrefl _)
    · obtain ⟨o', e', l⟩ := x₁₂.keep b o e n1 (by simp)
      exact ⟨o', hkeep2 b o' e', l⟩
  have hne' : mc σ₁.st.length nx ⟨σ₁.st ++ [.lst []], restr free σ₁.lo⟩ ≠ .stuck := fun e => hne (by rw [eT, e])
  have hb1 : ∀ b ∈ fp, K.base.get? b = none := fun b hb => by
    cases e : K.base.get? b with
    | none => rfl
    | some o => have := rel₀.base _ _ e; rw [hfp b hb] at this; cases this
  have hfC : ∀ b ∈ fp, b ≠ C := fun b hb q => by
    obtain ⟨o, vs, g, _⟩ := (hIt _ (fk.comp ck.kind (cl := cl) (C := C))).hid 0 _ hsrc b hb
    rw [q, fC] at g; cases g
  have hfr : ∀ b ∈ fp, b ∉ ρ₁ ++ [s₂.heap.objs.size] := fun b hb h => by
    rcases List.mem_append.mp h with h | h
    · obtain ⟨_, o, e, _⟩ := rel₀.toGRel.alive h
      rw [hfp b hb] at e; cases e
    · have := List.mem_singleton.mp h
      subst this
      obtain ⟨o, vs, g, _⟩ := (hIt _ (fk.comp ck.kind (cl := cl) (C := C))).hid 0 _ hsrc _ hb
      exact absurd (Heap.lt_size g) (Nat.lt_irrefl _)
  have main := hc C σ₁.st.length s₂.heap.objs.size I fp St nx ⟨σ₁.st ++ [.lst []], restr free σ₁.lo⟩ (ρ₁ ++ [s₂.heap.objs.size]) ρ₁ { s₂ with heap := h₄, toks := s₂.toks + 0 } s₁'.heap
      (hIt _ (fk.comp ck.kind)) rel₄ (by rw [← rel₁.len, List.getElem?_concat_length]) x₄ hfp hb1 (fun b hb h => hfC b hb (List.mem_singleton.mp h)) hfr
      ((hIt _ (fk.comp ck.kind (cl := cl) (C := C))).frame 0 _ _ hsrc fun b _ o e => hkeep2 b o e) hne'
  refine codeAny_mono main fun r s' h => ?_
  cases r with
  | error v' =>
    obtain ⟨_, _, _, _, _, _, hx⟩ := h
    exact hx.elim
  | ok f =>
    obtain ⟨σ', ρ', em, r1, r2, r4⟩ := h
    rw [em] at eT
    have xn : Ext [] ρ₁ ρ' s₁'.heap s'.heap := ⟨r2.pre, r2.alive, r2.new, fun b o e n1 _ => r2.keep b o e n1 (fun hm => by have := List.mem_singleton.mp hm; subst this; rw [fC1] at e; cases e), r2.froz⟩
    have relF := rel₀.called r1.toGRel xn fk
    obtain ⟨m, hm⟩ := r1.loc
    have hsC : s.heap.get? C = none := by
      cases e : s.heap.get? C with
      | none => rfl
      | some o => obtain ⟨o', e'⟩ := x₁.alive _ _ e; rw [fC1] at e'; cases e'
    have hmC : C ∉ F.mine := fun h => by
      obtain ⟨_, o, e⟩ := rel₀.mineAbove _ h
      rw [fC1] at e; cases e
    have := hQ (.obj σ₁.st.length) ⟨σ'.st, σ₁.lo⟩ ρ' s' (.ref s₂.heap.objs.size) C m eT relF (x₁.trans (ext_of_nil xn)) (Rep.obj_iff.mpr ⟨_, r4, rfl⟩) hm hmC (r1.mineApart C (List.mem_singleton.mpr rfl)) bC hsC
    cases use <;> exact this

/-- name = [.. for ..], where the stores are exchanged -/
theorem simS_assign_compG (fk : FOk F) {elt target iter : Expr} {ifs : List Expr} {gs : List Comprehension} {scope : Scope} {pos spos tpos : Pos} {cl : List (Str × Addr)} {free : List String} {mi : M (Nat → M (Option V))} {mc : Nat → (Nat → M (Option V)) → M Unit} {x : String} {mt : V → M Unit}
    (ck : CompOk F scope cl free) (ht : SimT K F (.Name (Str.ofString x) tpos) mt) (hi : SimIt K F target iter mi)
    (hc : ∀ C, SimClausesG K (compFrm F scope cl C) elt target (⟨target, iter, ifs, 0⟩ :: gs) scope pos 0 mc)
    (hsw : swapsWith (.ListComp elt (⟨target, iter, ifs, 0⟩ :: gs) scope pos) (some (.Name (Str.ofString x) tpos)) spos.line F.env = pure true := by rfl)
    (hs : ∀ x, foldedSetIterable iter F.env x = pure x := by intro _; rfl) :
    SimS K F (.Assign [.Name (Str.ofString x) tpos] (.ListComp elt (⟨target, iter, ifs, 0⟩ :: gs) scope pos) spos) (do let v ← mi >>= compTailG free mc; mt v; pure .next) := by
  intro σ ρ s rel
  rw [exec_Assign_Name_used _ _ _ _ hsw]
  refine Run.standAt ?_
  refine Run.of_wp fun hne => ?_
  have hne1 : (mi >>= compTailG free mc) σ ≠ .stuck := fun e => hne (by rw [M.bind_def, e])
  refine wpAny_bind ?_
  show wpAny _ _ (do let _ ← comprehension (.ListComp elt (⟨target, iter, ifs, 0⟩ :: gs) scope pos) scope F.env _ (newList []) false (eval iter F.env) (some (assign (.Name (Str.ofString x) tpos) F.env))) _ _ s
  refine wpAny_bind (wpAny_mono (wp_compG fk (use := some (assign (.Name (Str.ofString x) tpos) F.env)) (Q := fun _ s' => QO K F (FlRep K) ((do let v ← mi >>= compTailG free mc; mt v; pure .next : M Fl) σ) ρ s.heap .next s') (E := EO K F ((do let v ← mi >>= compTailG free mc; mt v; pure .next : M Fl) σ) ρ s.heap) hs ck hi hc rel hne1 ?_ ?_)
    (fun _ s' hq => wpAny_pure (wpAny_pure hq)) fun _ _ e => e)
  · intro v σ' ρ' s' w C m e r1 x1 rv hm q1 q2 q3 q4
    have e2 : (do let v ← mi >>= compTailG free mc; mt v; pure .next : M Fl) σ = (mt v >>= fun _ => (Pure.pure Fl.next : M Fl)) σ' := M.bind_ok e
    rw [e2] at hne ⊢
    show wpAny _ _ (assign (.Name (Str.ofString x) tpos) F.env w) _ _ s'
    refine wpAny_mono (Run.bindWp (P := fun _ s'' => ∃ m, s''.heap.Ns C m ∧ ∀ h', Heap.SameBut C s''.heap h' → QO K F (FlRep K) ((mt v >>= fun _ => (Pure.pure Fl.next : M Fl)) σ') ρ s.heap .next { s'' with heap := h' }) (ht σ' ρ' s' v w r1 rv) hne ?_) (fun _ _ q => q) (fun v s'' q => q.up x1)
    intro u σ₂ ρ₂ s₂ _ e3 e4 rel₂ x₂ _
    rw [e4]
    obtain ⟨o, es, ep, g, d, k, f⟩ := hm
    obtain ⟨o', g', l⟩ := x₂.keep C o g q2 q1
    have hC' : C ∉ ρ₂ := fun hin => by
      rcases x₂.new C hin with h1 | h1
      · exact q2 h1
      · rw [g] at h1; cases h1
    have hm' : s₂.heap.Ns C m := ⟨o', es, ep, g', l.data.1.trans d, k, f⟩
    exact ⟨m, hm', fun h' hsb => ⟨.next, σ₂, ρ₂, rfl, rel₂.butC q3 q1 hC' hm' hsb rfl rfl, (x1.trans x₂).butC q4 hsb, rfl⟩⟩
  · intro v s' q
    obtain ⟨e, σ', ρ', e1, r1, r2, r3⟩ := q
    exact ⟨e, σ', ρ', by rw [M.bind_def, e1], r1, r2, r3⟩


end Mine


/-! part F27 -/
set_option autoImplicit false
set_option maxRecDepth 100000
set_option linter.unusedVariables false
open PySem PySem.W PyProof.Rows
namespace Mine

variable {K : Glo} {F : Frm}

/-! ### enumerate of a list -/
def nxEnum (l : Nat) (i : Nat) : M (Option V) := fun σ => match σ.st[l]? with
  | some (.lst vs) => .ok (vs[i]?.map fun v => .tup [.int (i : Int), v]) σ
  | _ => .stuck
def enumIt : V → M (Nat → M (Option V))
  | .obj l => fun σ => match σ.st[l]? with
    | some (.lst _) => .ok (nxEnum l) σ
    | _ => .stuck
  | _ => fun _ => .stuck

theorem giter_enum (fk : FOk F) {e it a : Addr} {l : Nat} {ρ₁ : List Addr} {h₁ : Heap} {elts : List Expr} {k : Nat} {pos : Pos} (hne : e ≠ it) (hρ : ρ₁[l]? = some a) :
    GIter K F (.Tuple elts k pos) e [e, it] (fun i h => ∃ old, IsEnum h e it i old ∧ h.IsListIter it a i) (nxEnum l) ρ₁ h₁ where
  hid := by
    rintro i h ⟨old, h1, o, g, c, d⟩ b hb
    simp only [List.mem_cons, List.not_mem_nil, or_false] at hb
    rcases hb with rfl | rfl
    · exact ⟨_, _, h1, rfl, by simp⟩
    · exact ⟨o, _, g, d, by rw [c]; decide⟩
  frame := by
    rintro i h h' ⟨old, h1, o, g, c, d⟩ hk
    exact ⟨old, hk e (by simp) _ h1, o, hk it (by simp) _ g, c, d⟩
  self := by
    rintro i s A Q E ⟨old, h1, _⟩ q
    exact wpAny_pyIter_enum h1 q
  step := by
    rintro σ ρ s i rel x hfρ hfm hfb ⟨old, he, hit⟩
    have hρ' := getElem?_prefix x.pre hρ
    unfold nxEnum
    cases hl : σ.st[l]? with
    | none => trivial
    | some c =>
      cases c with
      | lst vs =>
        obtain ⟨a', ws, n, ea, hρ2, hL, hr, hn⟩ := rel.list (Rep.obj_iff.mpr ⟨a, hρ', rfl⟩) hl
        cases ea
        have hhid : ∀ b ∈ [e, it], Hid s.heap b := by
          intro b hb
          obtain ⟨o, g, c, d⟩ := hit
          simp only [List.mem_cons, List.not_mem_nil, or_false] at hb
          rcases hb with rfl | rfl
          · exact ⟨_, _, he, rfl, by simp⟩
          · exact ⟨o, _, g, d, by rw [c]; decide⟩
        dsimp only
        cases hv : vs[i]? with
        | none =>
          have hw : ws.toArray[i]? = none := by
            have := hr.length
            simp only [List.getElem?_toArray, List.getElem?_eq_none_iff] at hv ⊢; (first | lia | omega)
          dsimp only [Option.map]
          refine wpAny_pyNext_enum_end fk.hd he hit hL.isList hw fun h' hx => ?_
          have hx' : ∀ b o, b ∉ [e, it] → s.heap.get? b = some o → h'.get? b = some o := fun b o hb g => hx b o (by simp at hb; exact hb.2) g
          exact ⟨rfl, ρ, rel.hid hfb hfm hhid hx' rfl rfl, List.prefix_refl _, fun ρ₀ h₀ x h0 => x.butHid h0 hx'⟩
        | some v =>
          obtain ⟨w, hw, rw'⟩ := hr.get? hv
          dsimp only [Option.map]
          refine wpAny_pyNext_enum_item he hit hL.isList (by simpa using hw) hne fun h' heo hit' ht hz hk => ?_
          refine ⟨_, rfl, fun Q E q => ?_⟩
          refine wpAny_letOwnedTupleGo_enum heo fun h'' he'' hs'' => ?_
          have hx' : ∀ b o, b ∉ [e, it] → s.heap.get? b = some o → h''.get? b = some o := fun b o hb g => by
            simp only [List.mem_cons, List.not_mem_nil, or_false, not_or] at hb
            exact (hs''.2 b hb.1).trans (hk b o hb.1 hb.2 g)
          have hit'' : h''.IsListIter it a (i + 1) := by
            obtain ⟨o, g, c, d⟩ := hit'
            exact ⟨o, (hs''.2 it (Ne.symm hne)).trans g, c, d⟩
          have hel : e < s.heap.objs.size := Heap.lt_size he
          have ht'' : h''.get? s.heap.objs.size = some { cls := .type "tuple", data := .seq #[.int i s.toks, w] } := (hs''.2 _ (Nat.ne_of_gt hel)).trans ht
          have hy : Ext ([e, it] ++ F.mine) ρ ρ s.heap h'' := Ext.hidden hhid (fun b hb => by
            simp only [List.mem_cons, List.not_mem_nil, or_false] at hb
            rcases hb with rfl | rfl
            · exact ⟨_, he''⟩
            · obtain ⟨o, g, _⟩ := hit''; exact ⟨o, g⟩) hx'
          refine q { s with heap := h'', toks := s.toks + 1 } ρ (rel.hid hfb hfm hhid hx' rfl rfl) hy ⟨w, by exact_mod_cast he'', hit''⟩ ?_
          refine Rep.tup_iff.mpr ⟨by simp, _, [.int i s.toks, w], rfl, ⟨_, ht'', rfl, 0, rfl⟩, RepL.cons (Rep.int _ _) (RepL.cons (rw'.mono hy) RepL.nil)⟩

theorem simIt_enum (fk : FOk F) {arg : Expr} {ma : M V} {np cpos pos : Pos} {elts : List Expr} {k : Nat} (hx : F.env.kindOf (Str.ofString "enumerate") = some .globalImplicit) (hm : K.mg (Str.ofString "enumerate") = none)
    (ha : SimE K F arg ma) (hpl : (starEach [arg] F.env).any (·.1) = false := by rfl) (hst : starEach (arg :: []) F.env = (false, eval arg F.env) :: starEach [] F.env := by rfl) :
    SimIt K F (.Tuple elts k pos) (.Call (.Name (Str.ofString "enumerate") np) [arg] [] cpos) (do let v ← ma; enumIt v) := by
  intro σ ρ s rel hne
  rw [eval_CallName]
  refine wpAny_bind (wp_builtin fk rel hx hm (v := .type "enumerate") (by decide +kernel) ?_)
  refine wp_callWith rfl (by rw [backTo_any]; exact hpl) ?_
  have hEs : SimEs K F [arg] (do let v ← ma; let vs ← (pure [] : M (List V)); pure (v :: vs)) := simEs_cons ha simEs_nil hst
  have hEq : (do let v ← ma; enumIt v : M (Nat → M (Option V))) σ = ((do let v ← ma; let vs ← (pure [] : M (List V)); pure (v :: vs)) >>= fun vs => (match vs with | [v] => enumIt v | _ => stuck)) σ := by
    simp only [M.bind_def]
    cases ma σ <;> rfl
  rw [hEq] at hne ⊢
  refine wpAny_mono (Run.bindWp (P := fun vs s₁ => wpAny (model K.prog K.w) F.A (PySem.call (.type "enumerate") ([] ++ vs)) _ _ s₁) (hEs cpos σ ρ s rel) hne fun vs σ₁ ρ₁ s₁ ws e1 e2 rel₁ x₁ rv => ?_) (fun _ _ q => q) (fun _ _ q => q)
  rw [e2] at hne ⊢
  rcases vs with _ | ⟨v, _ | ⟨v2, vs⟩⟩
  · exact absurd rfl hne
  · obtain ⟨w, r', rfl, rv1, rv2⟩ := RepL.cons_iff.mp rv
    obtain rfl := RepL.nil_iff.mp rv2
    dsimp only at hne ⊢
    cases v with
    | obj l =>
      unfold enumIt at hne ⊢
      dsimp only at hne ⊢
      cases hl : σ₁.st[l]? with
      | none => rw [hl] at hne; exact absurd rfl hne
      | some c =>
        cases c with
        | lst us =>
          dsimp only
          obtain ⟨a, xs, n, rfl, hρ, hL, hr, hn⟩ := rel₁.list rv1 hl
          refine call_enumerate_list hL.isList fun h' he hit hsz hk => ?_
          refine wpAny_pyIter_enum he ?_
          refine ⟨_, _, σ₁, s₁, ρ₁, [s₁.heap.objs.size + 1, s₁.heap.objs.size], _, rfl, rfl, rel₁, x₁, rel₁.kept hk rfl rfl, Ext.kept hk, ?_, fun F' fk' => giter_enum fk' (Nat.succ_ne_self _) hρ, ⟨.none, he, hit⟩⟩
          intro b hb
          simp only [List.mem_cons, List.not_mem_nil, or_false] at hb
          rcases hb with rfl | rfl
          · exact Heap.get?_none_of_le (Nat.le_succ _)
          · exact Heap.get?_none_of_le (Nat.le_refl _)
    | _ => exact absurd rfl hne
  · exact absurd rfl hne

/-! ### list.index -/
def indexG : V → List V → M V
  | .obj l, [.int k] => fun σ => match σ.st[l]? with
    | some (.lst vs) => match intsOf vs with
      | some ns => if k ∈ ns ∧ PyData.layable0 (.list (ns.map .int)) = true then .ok (.int (ns.idxOf k : Nat)) σ else .stuck
      | none => .stuck
    | _ => .stuck
  | _, _ => fun _ => .stuck
theorem meth_index : MethOk K "list.index" indexG := by
  intro F fk σ ρ s o wo vs ws rel ro r
  unfold indexG
  split
  · rename_i l k
    obtain ⟨w, ws', rfl, r1, r2⟩ := RepL.cons_iff.mp r
    obtain rfl := RepL.nil_iff.mp r2
    obtain ⟨t, rfl⟩ := Rep.int_iff.mp r1
    cases hl : σ.st[l]? with
    | none => exact Run.stuck
    | some c =>
      cases c with
      | lst us =>
        dsimp only
        cases hi : intsOf us with
        | none => exact Run.stuck
        | some ns =>
          dsimp only
          by_cases hz : k ∈ ns ∧ PyData.layable0 (.list (ns.map .int)) = true
          · rw [if_pos hz]
            obtain ⟨a, xs, n, rfl, hρ, hL, hr, hn⟩ := rel.list ro hl
            exact Run.ok (index_list_ints hL.isList (intsOf_are hr hi) hz.2 hz.1 ⟨ρ, rel.tok _, Ext.refl .., Rep.int _ _⟩)
          · rw [if_neg hz]; exact Run.stuck
  · exact Run.stuck

/-! ### t[:b] of a tuple -/
section
variable {prog : Program} {w : World} {A : Around} {E : Value → Shared → Prop} {s : Shared}
theorem adjust_to (b n : Nat) (hb : b ≤ n) : Builtin.Slice.sliceAdjust none (some (b : Int)) 1 (n : Int) = (0, (b : Int)) := by
  unfold Builtin.Slice.sliceAdjust
  have h1 : ¬ ((1 : Int) < 0) := by (first | lia | omega)
  have h2 : ¬ ((b : Int) < 0) := by (first | lia | omega)
  simp only [h1, h2, if_false]
  congr 1
  (first | lia | omega)
theorem places_to (b : Nat) : Builtin.Slice.slicePlaces 0 (b : Int) 1 = b := by
  unfold Builtin.Slice.slicePlaces
  have h1 : (1 : Int) > 0 := by (first | lia | omega)
  simp only [h1, if_true, Int.ediv_one]
  split <;> (first | lia | omega)
theorem sliceApplied_to {sl : Addr} {b n : Nat} {u : Tok} {Q : Int × Int × Nat → Shared → Prop} (hs : s.heap.IsSliceOf sl .none (.int b u) .none) (hb : b ≤ n) (h : Q (0, 1, b) s) :
    wpAny (model prog w) A (Builtin.Slice.sliceApplied (.ref sl) (pure (n : Int))) Q E s := by
  obtain ⟨os, hos, hcs, hds⟩ := id hs
  unfold Builtin.Slice.sliceApplied Builtin.Slice.sliceFields
  refine wpAny_bind (wpAny_bind (wpAny_field hos hds (x := .none) rfl (wpAny_bind (wpAny_field hos hds (x := .int b u) rfl (wpAny_bind (wpAny_field hos hds (x := .none) rfl (wpAny_pure ?_)))))))
  refine wpAny_bind (slicePart_none ?_)
  show wpAny _ _ (if ((1 : Int) == 0) = true then _ else _) _ _ s
  rw [if_neg (by decide)]
  refine wpAny_bind (slicePart_none (wpAny_bind (slicePart_int (wpAny_bind (wpAny_pure ?_)))))
  show wpAny _ _ (match Builtin.Slice.sliceAdjust none (some (b : Int)) 1 (n : Int) with | (lo, hi) => pure (lo, (1 : Int), Builtin.Slice.slicePlaces lo hi 1)) _ _ s
  rw [adjust_to b n hb]
  show wpAny _ _ (pure ((0 : Int), (1 : Int), Builtin.Slice.slicePlaces 0 (b : Int) 1)) _ _ s
  rw [places_to b]
  exact wpAny_pure h
theorem pick_to (xs : List Value) (b : Nat) : (List.range b).filterMap (fun (k : Nat) => xs.toArray[((0 : Int) + (k : Int) * 1).toNat]?) = xs.take b := by
  induction b with
  | zero => simp
  | succ b ih =>
    rw [List.range_succ, List.filterMap_append, ih, List.take_add_one]
    congr 1
    have : ((0 : Int) + (b : Int) * 1).toNat = b := by (first | lia | omega)
    simp only [List.filterMap_cons, List.filterMap_nil, this, List.getElem?_toArray]
    cases xs[b]? <;> rfl
theorem getItem_tuple_to {t sl : Addr} {items : List Value} {b : Nat} {u : Tok} {Q : Value → Shared → Prop} (ht : IsTup s.heap t items.toArray) (hs : s.heap.IsSliceOf sl .none (.int b u) .none) (hb : b < items.length) (hn : items.length ≤ 1000000)
    (h : Q (.ref s.heap.objs.size) { s with heap := s.heap.push { cls := .type "tuple", data := .seq (items.take b).toArray } }) : wpAny (model prog w) A (getItem (.ref t) (.ref sl)) Q E s := by
  have hdrop : sizeOk (.seq (items.take b).toArray) := by
    show (items.take b).toArray.size ≤ sizeLine
    rw [List.size_toArray, List.length_take, sizeLine_eq]
    (first | lia | omega)
  obtain ⟨os, hos, hcs, hds⟩ := id hs
  have hTs : s.TypeIs (.ref sl) "slice" := ⟨os, hos, hcs⟩
  unfold getItem
  refine wpAny_holding ?_
  first | refine wpAny_bind (wpAny_pure ?_) | skip
  refine wpAny_bind (wpAny_sequenceKey ht.typeIs (by decide) ?_)
  refine wpAny_bind (wpAny_callSpecial?_slot (name := Str.ofString "__getitem__") ht.typeIs slot_tuple_getitem
    (wpAny_call_entry slot_tuple_getitem ht.typeIs entry_tuple_getitem ?_ (args_tuple_getitem _ _)))
  show wpAny _ _ (Builtin.Tuple.tupleItemsOf (.ref t) >>= _) _ _ s
  refine wpAny_bind (tupleItemsOf_ ht ?_)
  refine wpAny_bind (wpAny_typeOf hTs ?_)
  rw [if_pos (by decide)]
  refine wpAny_bind (sliceApplied_to (n := items.toArray.size) hs (by simp; (first | lia | omega)) ?_)
  show wpAny _ _ (if ((0 : Int) == 0 && (1 : Int) == 1 && b == items.toArray.size) = true then _ else _) _ _ s
  have hno : ¬ (((0 : Int) == 0 && (1 : Int) == 1 && b == items.toArray.size) = true) := by
    have : (b == items.toArray.size) = false := by rw [beq_eq_false_iff_ne]; simp; (first | lia | omega)
    rw [this]; simp
  rw [if_neg hno, pick_to items b]
  exact wpAny_bind (m := Builtin.Tuple.tupleExact _) (wpAny_newObj_type (wpAny_pure ⟨_, rfl, wpAny_pure h⟩) hdrop)
end
def sliceT : V → V × V × V → M V
  | .tup vs, (.none, .int b, .none) => fun σ => if 0 ≤ b ∧ b < vs.length then .ok (.tup (vs.take b.toNat)) σ else .stuck
  | _, _ => fun _ => .stuck
theorem simE_sliceT (fk : FOk F) {value : Expr} {lo hi st : Option Expr} {mv ml mh ms : M V} (p pos : Pos) (hv : SimE K F value mv) (h1 : SimO K F lo ml) (h2 : SimO K F hi mh) (h3 : SimO K F st ms) {ops : Value → Value → List Value}
    (hs : ∀ o i, subscripted (.Slice lo hi st p) false o i = PySem.operate (ops o i) (getItem o i) := by intro _ _; rfl) :
    SimE K F (.Subscript value (.Slice lo hi st p) pos) (do let o ← mv; let i ← (do let a ← ml; let b ← mh; let c ← ms; pure (a, b, c)); sliceT o i) := by
  intro σ ρ s rel
  rw [eval_Subscript]
  refine Run.bind (hv σ ρ s rel) fun a σ₁ ρ₁ s₁ wa _ rel₁ x₁ ra => ?_
  refine Run.bind (Run.holding (run_Slice p h1 h2 h3 rel₁)) fun b σ₂ ρ₂ s₂ wb _ rel₂ x₂ rb => ?_
  refine Run.standAt ?_
  show Run K F (subscriptTail value (.Slice lo hi st p) wa wb) (Rep K) (sliceT a b σ₂) ρ₂ s₂
  obtain ⟨b1, b2, b3⟩ := b
  obtain ⟨ad, va, vb, vc, rfl, hsl, r1, r2, r3⟩ := rb
  cases a with
  | tup vs =>
    cases b1 with
    | none =>
      cases b2 with
      | int k =>
        cases b3 with
        | none =>
          unfold sliceT
          dsimp only
          by_cases hz : 0 ≤ k ∧ k < vs.length
          · rw [if_pos hz]
            obtain ⟨hn, t, ws, rfl, ht, hr⟩ := Rep.tup_iff.mp (ra.mono x₂)
            obtain rfl := Rep.none_iff.mp r1
            obtain ⟨u, rfl⟩ := Rep.int_iff.mp r2
            obtain rfl := Rep.none_iff.mp r3
            have ek : k = ((k.toNat : Nat) : Int) := by (first | lia | omega)
            rw [ek] at hsl
            have hwl := hr.length
            refine Run.ok (tail_any ht.typeIs slot_tuple_getitem.lookup (getItem_tuple_to ht hsl (by (first | lia | omega)) (by (first | lia | omega)) ?_) (hs _ _))
            exact ⟨ρ₂, rel₂.push _ s₂.toks, Ext.push _, Rep.tup_iff.mpr ⟨by rw [List.length_take]; (first | lia | omega), _, ws.take k.toNat, rfl, ⟨_, Heap.get?_push_size _ rfl, rfl, 0, rfl⟩, (hr.take _).mono (Ext.push (mine := []) _)⟩⟩
          · rw [if_neg hz]; exact Run.stuck
        | _ => exact Run.stuck
      | _ => exact Run.stuck
    | _ => exact Run.stuck
  | _ => exact Run.stuck

end Mine


/-! part H1 -/
set_option autoImplicit false
set_option linter.unusedVariables false
namespace Mine

/-! ### heaps, plain -/
section
variable {α : Type} [Inhabited α]

def nth (vs : List α) (i : Nat) : α := vs[i]?.getD default
theorem nth_set_self {vs : List α} {i : Nat} {x : α} (h : i < vs.length) : nth (vs.set i x) i = x := by
  unfold nth; rw [List.getElem?_set_self h]; rfl
theorem nth_set_ne {vs : List α} {i j : Nat} {x : α} (h : i ≠ j) : nth (vs.set i x) j = nth vs j := by
  unfold nth; rw [List.getElem?_set_ne h]
theorem nth_eq {vs : List α} {i : Nat} (h : i < vs.length) : vs[i]? = some (nth vs i) := by
  unfold nth; rw [List.getElem?_eq_getElem h]; rfl
theorem nth_getElem {vs : List α} {i : Nat} (h : i < vs.length) : nth vs i = vs[i] := by
  unfold nth; rw [List.getElem?_eq_getElem h]; rfl
theorem nth_mem {vs : List α} {i : Nat} (h : i < vs.length) : nth vs i ∈ vs := by rw [nth_getElem h]; exact List.getElem_mem h

/-- the way up -/
def sd (lt : α → α → Bool) (x : α) (start : Nat) (vs : List α) (pos : Nat) : List α :=
  if h : start < pos then
    if lt x (nth vs ((pos - 1) / 2)) = true then sd lt x start (vs.set pos (nth vs ((pos - 1) / 2))) ((pos - 1) / 2)
    else vs.set pos x
  else vs.set pos x
termination_by pos
decreasing_by (first | lia | omega)

/-- the way down to a leaf -/
def kid (lt : α → α → Bool) (vs : List α) (pos : Nat) : Nat :=
  if 2 * pos + 2 < vs.length ∧ lt (nth vs (2 * pos + 1)) (nth vs (2 * pos + 2)) = false then 2 * pos + 2 else 2 * pos + 1
theorem kid_gt (lt : α → α → Bool) (vs : List α) (pos : Nat) : pos < kid lt vs pos := by unfold kid; split <;> (first | lia | omega)
theorem kid_lt {lt : α → α → Bool} {vs : List α} {pos : Nat} (h : 2 * pos + 1 < vs.length) : kid lt vs pos < vs.length := by unfold kid; split <;> (first | lia | omega)
theorem kid_par (lt : α → α → Bool) (vs : List α) (pos : Nat) : (kid lt vs pos - 1) / 2 = pos := by unfold kid; split <;> (first | lia | omega)

def down (lt : α → α → Bool) (vs : List α) (pos : Nat) : List α × Nat :=
  if h : 2 * pos + 1 < vs.length then down lt (vs.set pos (nth vs (kid lt vs pos))) (kid lt vs pos) else (vs, pos)
termination_by vs.length - pos
decreasing_by
  have := kid_gt lt vs pos
  have := kid_lt (lt := lt) h
  simp only [List.length_set]; (first | lia | omega)

def su (lt : α → α → Bool) (vs : List α) (pos : Nat) : List α :=
  sd lt (nth vs pos) pos ((down lt vs pos).1.set (down lt vs pos).2 (nth vs pos)) (down lt vs pos).2

/-- a weak order on the items P -/
structure SWO (P : α → Prop) (lt : α → α → Bool) : Prop where
  asymm : ∀ a b, P a → P b → lt a b = true → lt b a = false
  trans : ∀ a b c, P a → P b → P c → lt b a = false → lt c b = false → lt c a = false

theorem down_length (lt : α → α → Bool) : ∀ (k : Nat) (vs : List α) (pos : Nat), vs.length - pos ≤ k → (down lt vs pos).1.length = vs.length := by
  intro k
  induction k with
  | zero => intro vs pos h; rw [down, dif_neg (by (first | lia | omega))]
  | succ k ih =>
    intro vs pos h
    rw [down]
    split
    · rename_i hc
      have := kid_gt lt vs pos
      rw [ih _ _ (by simp; (first | lia | omega))]; simp
    · rfl
theorem down_pos_lt (lt : α → α → Bool) : ∀ (k : Nat) (vs : List α) (pos : Nat), vs.length - pos ≤ k → pos < vs.length → (down lt vs pos).2 < vs.length := by
  intro k
  induction k with
  | zero => intro vs pos h h2; (first | lia | omega)
  | succ k ih =>
    intro vs pos h h2
    rw [down]
    split
    · rename_i hc
      have h3 := kid_gt lt vs pos
      have h4 := kid_lt (lt := lt) hc
      have := ih (vs.set pos (nth vs (kid lt vs pos))) (kid lt vs pos) (by simp; (first | lia | omega)) (by simpa using h4)
      simpa using this
    · exact h2
theorem swap_perm {vs : List α} {i j : Nat} {x : α} (hi : i < vs.length) (hj : j < vs.length) (hne : i ≠ j) : ((vs.set i (nth vs j)).set j x).Perm (vs.set i x) := by
  have h := List.set_set_perm (as := vs.set i x) (i := i) (j := j) (by simpa using hi) (by simpa using hj)
  have e1 : (vs.set i x)[j]'(by simpa using hj) = nth vs j := by
    rw [List.getElem_set_ne hne, nth_getElem hj]
  have e2 : (vs.set i x)[i]'(by simpa using hi) = x := by rw [List.getElem_set_self]
  rw [e1, e2, List.set_set] at h
  exact h

theorem sd_perm (lt : α → α → Bool) (x : α) (start : Nat) : ∀ (pos : Nat) (vs : List α), pos < vs.length → (sd lt x start vs pos).Perm (vs.set pos x) := by
  intro pos
  induction pos using Nat.strongRecOn with
  | _ pos ih =>
    intro vs hp
    rw [sd]
    split
    · split
      · refine (ih _ (by (first | lia | omega)) _ (by simp; (first | lia | omega))).trans ?_
        exact swap_perm hp (by (first | lia | omega)) (by (first | lia | omega))
      · exact List.Perm.refl _
    · exact List.Perm.refl _
theorem down_perm (lt : α → α → Bool) (x : α) : ∀ (k : Nat) (vs : List α) (pos : Nat), vs.length - pos ≤ k → pos < vs.length → ((down lt vs pos).1.set (down lt vs pos).2 x).Perm (vs.set pos x) := by
  intro k
  induction k with
  | zero => intro vs pos h h2; (first | lia | omega)
  | succ k ih =>
    intro vs pos h h2
    rw [down]
    split
    · rename_i hc
      have h3 := kid_gt lt vs pos
      have h4 := kid_lt (lt := lt) hc
      exact (ih _ _ (by simp; (first | lia | omega)) (by simpa using h4)).trans (swap_perm h2 h4 (by (first | lia | omega)))
    · exact List.Perm.refl _
theorem set_nth {vs : List α} {i : Nat} : vs.set i (nth vs i) = vs := by
  by_cases h : i < vs.length
  · rw [nth_getElem h]; exact List.set_getElem_self h
  · exact List.set_eq_of_length_le (by (first | lia | omega))
theorem su_perm (lt : α → α → Bool) (vs : List α) (pos : Nat) (h : pos < vs.length) : (su lt vs pos).Perm vs := by
  unfold su
  have h1 := down_pos_lt lt _ vs pos (Nat.le_refl _) h
  have h2 := down_length lt _ vs pos (Nat.le_refl _)
  refine (sd_perm lt _ _ _ _ (by rw [List.length_set, h2]; exact h1)).trans ?_
  rw [List.set_set]
  refine (down_perm lt _ _ vs pos (Nat.le_refl _) h).trans ?_
  rw [set_nth]

/-! the order -/
def HeapFrom (lt : α → α → Bool) (s : Nat) (vs : List α) : Prop := ∀ j, 0 < j → j < vs.length → s ≤ (j - 1) / 2 → lt (nth vs j) (nth vs ((j - 1) / 2)) = false

def Desc (s p : Nat) : Prop := if h : s < p then Desc s ((p - 1) / 2) else p = s
termination_by p
decreasing_by (first | lia | omega)
theorem desc_iff (s p : Nat) : Desc s p ↔ p = s ∨ (s < p ∧ Desc s ((p - 1) / 2)) := by
  rw [Desc]
  split
  · rename_i h
    exact ⟨fun x => .inr ⟨h, x⟩, fun x => by
      rcases x with x | x
      · (first | lia | omega)
      · exact x.2⟩
  · rename_i h
    exact ⟨fun x => .inl x, fun x => by
      rcases x with x | x
      · exact x
      · exact absurd x.1 h⟩
theorem Desc.refl (s : Nat) : Desc s s := by rw [desc_iff]; exact .inl rfl
theorem Desc.up {s p : Nat} (h : Desc s p) (hlt : s < p) : Desc s ((p - 1) / 2) := by
  rw [desc_iff] at h; rcases h with h | h
  · (first | lia | omega)
  · exact h.2
theorem Desc.le {s p : Nat} (h : Desc s p) : s ≤ p := by
  rw [desc_iff] at h; rcases h with h | h <;> (first | lia | omega)
theorem Desc.kid {s p c : Nat} (h : Desc s p) (hc : (c - 1) / 2 = p) (hlt : p < c) : Desc s c := by
  rw [desc_iff]; right
  have := h.le
  exact ⟨by (first | lia | omega), by rw [hc]; exact h⟩

/-- a heap with a hole at pos -/
structure Hole (lt : α → α → Bool) (s : Nat) (vs : List α) (pos : Nat) : Prop where
  pair : ∀ j, 0 < j → j < vs.length → s ≤ (j - 1) / 2 → j ≠ pos → (j - 1) / 2 ≠ pos → lt (nth vs j) (nth vs ((j - 1) / 2)) = false
  skip : s < pos → ∀ j, 0 < j → j < vs.length → (j - 1) / 2 = pos → lt (nth vs j) (nth vs ((pos - 1) / 2)) = false
  desc : Desc s pos
  lt : pos < vs.length

theorem Hole.set {lt : α → α → Bool} {s : Nat} {vs : List α} {pos : Nat} (h : Hole lt s vs pos) (x : α) : Hole lt s (vs.set pos x) pos where
  pair := fun j h0 hl hs hj hp => by
    rw [List.length_set] at hl
    rw [nth_set_ne (Ne.symm hj), nth_set_ne (Ne.symm hp)]; exact h.pair j h0 hl hs hj hp
  skip := fun hs j h0 hl hp => by
    rw [List.length_set] at hl
    have := h.lt
    rw [nth_set_ne (by (first | lia | omega)), nth_set_ne (by (first | lia | omega))]; exact h.skip hs j h0 hl hp
  desc := h.desc
  lt := by rw [List.length_set]; exact h.lt

variable {P : α → Prop} {lt : α → α → Bool}

omit [Inhabited α] in
theorem all_set {vs : List α} {i : Nat} {x : α} (h : ∀ a ∈ vs, P a) (hx : P x) : ∀ a ∈ vs.set i x, P a := by
  intro a ha
  rcases List.mem_or_eq_of_mem_set ha with h1 | h1
  · exact h a h1
  · subst h1; exact hx

theorem sd_heap (O : SWO P lt) (x : α) (s : Nat) (hx : P x) : ∀ (pos : Nat) (vs : List α), (∀ a ∈ vs, P a) → Hole lt s vs pos → (∀ j, 0 < j → j < vs.length → (j - 1) / 2 = pos → lt (nth vs j) x = false) → HeapFrom lt s (sd lt x s vs pos) := by
  intro pos
  induction pos using Nat.strongRecOn with
  | _ pos ih =>
    intro vs hP hh hb
    have hpl := hh.lt
    rw [sd]
    split
    · rename_i hsp
      have hpar : s ≤ (pos - 1) / 2 := (hh.desc.up hsp).le
      have hpp : P (nth vs ((pos - 1) / 2)) := hP _ (nth_mem (by (first | lia | omega)))
      split
      · rename_i hlt
        refine ih _ (by (first | lia | omega)) _ (all_set hP hpp) ⟨?_, ?_, hh.desc.up hsp, by simp; (first | lia | omega)⟩ ?_
        · intro j h0 hl hs hj hp
          rw [List.length_set] at hl
          by_cases hjp : j = pos
          · subst hjp; exact absurd rfl hp
          · rw [nth_set_ne (Ne.symm hjp)]
            by_cases hp2 : (j - 1) / 2 = pos
            · rw [hp2, nth_set_self hpl]; exact hh.skip hsp j h0 hl hp2
            · rw [nth_set_ne (Ne.symm hp2)]; exact hh.pair j h0 hl hs hjp hp2
        · intro hs2 j h0 hl hp
          rw [List.length_set] at hl
          have hgp : s ≤ ((pos - 1) / 2 - 1) / 2 := ((hh.desc.up hsp).up hs2).le
          have hq : nth (vs.set pos (nth vs ((pos - 1) / 2))) (((pos - 1) / 2 - 1) / 2) = nth vs (((pos - 1) / 2 - 1) / 2) := nth_set_ne (by (first | lia | omega))
          rw [hq]
          have hpair := hh.pair ((pos - 1) / 2) (by (first | lia | omega)) (by (first | lia | omega)) hgp (by (first | lia | omega)) (by (first | lia | omega))
          by_cases hjp : j = pos
          · subst hjp; rw [nth_set_self hpl]; exact hpair
          · rw [nth_set_ne (Ne.symm hjp)]
            have h2 := hh.pair j h0 hl (by (first | lia | omega)) hjp (by (first | lia | omega))
            rw [hp] at h2
            exact O.trans _ _ _ (hP _ (nth_mem (by (first | lia | omega)))) hpp (hP _ (nth_mem hl)) hpair h2
        · intro j h0 hl hp
          rw [List.length_set] at hl
          by_cases hjp : j = pos
          · subst hjp; rw [nth_set_self hpl]; exact O.asymm _ _ hx hpp hlt
          · rw [nth_set_ne (Ne.symm hjp)]
            have h2 := hh.pair j h0 hl (by (first | lia | omega)) hjp (by (first | lia | omega))
            rw [hp] at h2
            exact O.trans _ _ _ hx hpp (hP _ (nth_mem hl)) (O.asymm _ _ hx hpp hlt) h2
      · rename_i hlt
        have hlt' : lt x (nth vs ((pos - 1) / 2)) = false := by simpa using hlt
        intro j h0 hl hs
        rw [List.length_set] at hl
        by_cases hjp : j = pos
        · subst hjp; rw [nth_set_self hpl, nth_set_ne (by (first | lia | omega))]; exact hlt'
        · rw [nth_set_ne (Ne.symm hjp)]
          by_cases hp2 : (j - 1) / 2 = pos
          · rw [hp2, nth_set_self hpl]; exact hb j h0 hl hp2
          · rw [nth_set_ne (Ne.symm hp2)]; exact hh.pair j h0 hl hs hjp hp2
    · rename_i hsp
      intro j h0 hl hs
      rw [List.length_set] at hl
      have hds := hh.desc.le
      by_cases hjp : j = pos
      · (first | lia | omega)
      · rw [nth_set_ne (Ne.symm hjp)]
        by_cases hp2 : (j - 1) / 2 = pos
        · rw [hp2, nth_set_self hpl]; exact hb j h0 hl hp2
        · rw [nth_set_ne (Ne.symm hp2)]; exact hh.pair j h0 hl hs hjp hp2

theorem kid_min (O : SWO P lt) {vs : List α} {pos j : Nat} (hP : ∀ a ∈ vs, P a) (hc : 2 * pos + 1 < vs.length) (h0 : 0 < j) (hl : j < vs.length) (hp : (j - 1) / 2 = pos) : lt (nth vs j) (nth vs (kid lt vs pos)) = false := by
  have refl : ∀ a, P a → lt a a = false := fun a ha => by
    cases e : lt a a with
    | false => rfl
    | true => have := O.asymm a a ha ha e; rw [e] at this; cases this
  unfold kid
  split
  · rename_i h
    rcases (show j = 2 * pos + 1 ∨ j = 2 * pos + 2 by (first | lia | omega)) with rfl | rfl
    · exact h.2
    · exact refl _ (hP _ (nth_mem hl))
  · rename_i h
    rcases (show j = 2 * pos + 1 ∨ j = 2 * pos + 2 by (first | lia | omega)) with rfl | rfl
    · exact refl _ (hP _ (nth_mem hl))
    · have : lt (nth vs (2 * pos + 1)) (nth vs (2 * pos + 2)) = true := by
        cases e : lt (nth vs (2 * pos + 1)) (nth vs (2 * pos + 2)) with
        | true => rfl
        | false => exact absurd ⟨hl, e⟩ h
      exact O.asymm _ _ (hP _ (nth_mem hc)) (hP _ (nth_mem hl)) this

theorem down_hole (O : SWO P lt) (s : Nat) : ∀ (k : Nat) (vs : List α) (pos : Nat), vs.length - pos ≤ k → (∀ a ∈ vs, P a) → Hole lt s vs pos →
    Hole lt s (down lt vs pos).1 (down lt vs pos).2 ∧ (∀ a ∈ (down lt vs pos).1, P a) ∧ ¬ 2 * (down lt vs pos).2 + 1 < (down lt vs pos).1.length := by
  intro k
  induction k with
  | zero => intro vs pos h hP hh; have := hh.lt; (first | lia | omega)
  | succ k ih =>
    intro vs pos h hP hh
    rw [down]
    split
    · rename_i hc
      have h3 := kid_gt lt vs pos
      have h4 := kid_lt (lt := lt) hc
      have h5 := kid_par lt vs pos
      have hpl := hh.lt
      have hds := hh.desc.le
      refine ih _ _ (by simp; (first | lia | omega)) (all_set hP (hP _ (nth_mem h4))) ⟨?_, ?_, hh.desc.kid h5 h3, by simpa using h4⟩
      · intro j h0 hl hs hj hp
        rw [List.length_set] at hl
        by_cases hjp : j = pos
        · subst hjp
          rw [nth_set_self hpl, nth_set_ne (by (first | lia | omega))]
          exact hh.skip (by (first | lia | omega)) _ (by (first | lia | omega)) h4 h5
        · rw [nth_set_ne (Ne.symm hjp)]
          by_cases hp2 : (j - 1) / 2 = pos
          · rw [hp2, nth_set_self hpl]; exact kid_min O hP hc h0 hl hp2
          · rw [nth_set_ne (Ne.symm hp2)]; exact hh.pair j h0 hl hs hjp hp2
      · intro hs2 j h0 hl hp
        rw [List.length_set] at hl
        rw [h5, nth_set_self hpl, nth_set_ne (by (first | lia | omega))]
        have := hh.pair j h0 hl (by (first | lia | omega)) (by (first | lia | omega)) (by (first | lia | omega))
        rw [hp] at this; exact this
    · rename_i hc
      exact ⟨hh, hP, hc⟩

theorem su_heap (O : SWO P lt) (vs : List α) (pos : Nat) (hP : ∀ a ∈ vs, P a) (hl : pos < vs.length) (hh : HeapFrom lt (pos + 1) vs) : HeapFrom lt pos (su lt vs pos) := by
  have h0 : Hole lt pos vs pos := ⟨fun j h0 hl hs hj hp => hh j h0 hl (by (first | lia | omega)), fun h => by (first | lia | omega), Desc.refl _, hl⟩
  obtain ⟨h1, h2, h3⟩ := down_hole O pos _ vs pos (Nat.le_refl _) hP h0
  unfold su
  have hx : P (nth vs pos) := hP _ (nth_mem hl)
  refine sd_heap O _ _ hx _ _ (all_set h2 hx) (h1.set _) ?_
  intro j hj hjl hjp
  rw [List.length_set] at hjl
  (first | lia | omega)

theorem heap_min (O : SWO P lt) {vs : List α} (hP : ∀ a ∈ vs, P a) (hh : HeapFrom lt 0 vs) : ∀ j, j < vs.length → lt (nth vs j) (nth vs 0) = false := by
  intro j
  induction j using Nat.strongRecOn with
  | _ j ih =>
    intro hl
    by_cases h0 : j = 0
    · subst h0
      cases e : lt (nth vs 0) (nth vs 0) with
      | false => rfl
      | true => have := O.asymm _ _ (hP _ (nth_mem hl)) (hP _ (nth_mem hl)) e; rw [e] at this; cases this
    · have h1 := ih ((j - 1) / 2) (by (first | lia | omega)) (by (first | lia | omega))
      have h2 := hh j (by (first | lia | omega)) hl (by (first | lia | omega))
      exact O.trans _ _ _ (hP _ (nth_mem (by (first | lia | omega)))) (hP _ (nth_mem (by (first | lia | omega)))) (hP _ (nth_mem hl)) h1 h2

/-- push -/
def hpush (lt : α → α → Bool) (vs : List α) (x : α) : List α := sd lt x 0 (vs ++ [x]) vs.length
theorem desc_zero : ∀ p : Nat, Desc 0 p := by
  intro p
  induction p using Nat.strongRecOn with
  | _ p ih =>
    rw [desc_iff]
    by_cases h : p = 0
    · exact .inl h
    · exact .inr ⟨by (first | lia | omega), ih _ (by (first | lia | omega))⟩
theorem nth_append_left {vs ws : List α} {i : Nat} (h : i < vs.length) : nth (vs ++ ws) i = nth vs i := by
  unfold nth; rw [List.getElem?_append_left h]
theorem hpush_heap (O : SWO P lt) {vs : List α} {x : α} (hP : ∀ a ∈ vs, P a) (hx : P x) (hh : HeapFrom lt 0 vs) : HeapFrom lt 0 (hpush lt vs x) := by
  unfold hpush
  refine sd_heap O x 0 hx _ _ ?_ ⟨?_, ?_, desc_zero _, by simp⟩ ?_
  · intro a ha
    rcases List.mem_append.mp ha with h | h
    · exact hP a h
    · rw [List.mem_singleton.mp h]; exact hx
  · intro j h0 hl hs hj hp
    have hl' : j < vs.length := by simp at hl; (first | lia | omega)
    rw [nth_append_left hl', nth_append_left (by (first | lia | omega))]
    exact hh j h0 hl' hs
  · intro h j h0 hl hp
    simp at hl; (first | lia | omega)
  · intro j h0 hl hp
    simp at hl; (first | lia | omega)

/-- pop -/
def hpop (lt : α → α → Bool) (vs : List α) : α × List α :=
  if vs.length ≤ 1 then (nth vs 0, []) else (nth vs 0, su lt ((vs.eraseIdx (vs.length - 1)).set 0 (nth vs (vs.length - 1))) 0)
theorem eraseLast_append {vs : List α} (h : 0 < vs.length) : vs.eraseIdx (vs.length - 1) ++ [nth vs (vs.length - 1)] = vs := by
  rw [List.eraseIdx_eq_take_drop_succ, List.drop_eq_nil_of_le (by (first | lia | omega)), List.append_nil, nth_getElem (by (first | lia | omega))]
  have := List.take_append_getElem (l := vs) (i := vs.length - 1) (by (first | lia | omega))
  rw [this, List.take_of_length_le (by (first | lia | omega))]
theorem hpop_perm (lt : α → α → Bool) {vs : List α} (h : 0 < vs.length) : ((hpop lt vs).1 :: (hpop lt vs).2).Perm vs := by
  unfold hpop
  split
  · rename_i h1
    match vs, h with
    | [a], _ => exact List.Perm.refl _
    | _ :: _ :: _, _ => simp at h1
  · rename_i h1
    have hlen : (vs.eraseIdx (vs.length - 1)).length = vs.length - 1 := by rw [List.length_eraseIdx]; simp; (first | lia | omega)
    dsimp only
    refine (List.Perm.cons _ (su_perm lt _ 0 (by rw [List.length_set]; (first | lia | omega)))).trans ?_
    have h2 := eraseLast_append h
    generalize hL : nth vs (vs.length - 1) = lst at h2 ⊢
    generalize hE : vs.eraseIdx (vs.length - 1) = es at h2 hlen ⊢
    have h3 : nth vs 0 = nth es 0 := by rw [← h2, nth_append_left (by (first | lia | omega))]
    rw [h3, ← h2]
    match es, hlen with
    | [], hlen => simp at hlen; (first | lia | omega)
    | e :: es, _ =>
      show (e :: lst :: es).Perm (e :: es ++ [lst])
      exact List.Perm.cons _ (List.perm_append_singleton lst es).symm
theorem hpop_heap (O : SWO P lt) {vs : List α} (hP : ∀ a ∈ vs, P a) (h : 0 < vs.length) (hh : HeapFrom lt 0 vs) : HeapFrom lt 0 (hpop lt vs).2 := by
  unfold hpop
  split
  · intro j h0 hl; simp at hl
  · rename_i h1
    have hlen : (vs.eraseIdx (vs.length - 1)).length = vs.length - 1 := by rw [List.length_eraseIdx]; simp; (first | lia | omega)
    dsimp only
    have h2 := eraseLast_append h
    have hn : ∀ j, j < vs.length - 1 → nth (vs.eraseIdx (vs.length - 1)) j = nth vs j := by
      intro j hj
      conv => rhs; rw [← h2]
      rw [nth_append_left (by (first | lia | omega))]
    refine su_heap O _ 0 (all_set (fun a ha => hP a ?_) (hP _ (nth_mem (by (first | lia | omega))))) (by rw [List.length_set]; (first | lia | omega)) ?_
    · exact List.mem_of_mem_eraseIdx ha
    · intro j h0 hl hs
      rw [List.length_set, hlen] at hl
      rw [nth_set_ne (by (first | lia | omega)), nth_set_ne (by (first | lia | omega)), hn j hl, hn _ (by (first | lia | omega))]
      exact hh j h0 (by (first | lia | omega)) (by (first | lia | omega))
theorem hpop_min (O : SWO P lt) {vs : List α} (hP : ∀ a ∈ vs, P a) (hh : HeapFrom lt 0 vs) : ∀ a ∈ vs, lt a (hpop lt vs).1 = false := by
  intro a ha
  obtain ⟨j, hj, rfl⟩ := List.mem_iff_getElem.mp ha
  have : (hpop lt vs).1 = nth vs 0 := by unfold hpop; split <;> rfl
  rw [this, ← nth_getElem hj]
  exact heap_min O hP hh j hj
end

end Mine


/-! part Q1 -/
set_option autoImplicit false
set_option maxRecDepth 100000
set_option linter.unusedVariables false
open PySem PySem.W PyProof.Rows
namespace Mine


/-! _siftdown -/
def siftdown_w1_c : M Bool := (do let a ← (getv "pos"); let b ← (getv "startpos"); let c ← gtV a b; truV c)
def siftdown_w1_b : M Fl := (seqM (do let v ← (do let a ← (do let a ← (getv "pos"); let b ← (pure (V.int 1) : M V); subV a b); let b ← (pure (V.int 1) : M V); shrV a b); (fun v => setv "parentpos" v) v; pure .next : M Fl) (seqM (do let v ← (do let o ← (getv "heap"); let i ← (getv "parentpos"); getI o i); (fun v => setv "parent" v) v; pure .next : M Fl) (seqM (do if (← (do let a ← (getv "newitem"); let b ← (getv "parent"); let c ← ltV a b; truV c)) = true then (seqM (do let v ← (getv "parent"); (fun v => do let a ← (getv "heap"); let b ← (getv "pos"); setI a b v) v; pure .next : M Fl) (seqM (do let v ← (getv "parentpos"); (fun v => setv "pos" v) v; pure .next : M Fl) (pure .cont : M Fl))) else (pure .next : M Fl) : M Fl) (pure .brk : M Fl))))
def siftdown_m : M Fl := (seqM (do let v ← (do let o ← (getv "heap"); let i ← (getv "pos"); getI o i); (fun v => setv "newitem" v) v; pure .next : M Fl) (seqM (whileM siftdown_w1_c siftdown_w1_b 4096) (do let v ← (getv "newitem"); (fun v => do let a ← (getv "heap"); let b ← (getv "pos"); setI a b v) v; pure .next : M Fl)))
def f_siftdown : Fun := funM ["heap", "startpos", "pos"] siftdown_m

/-! _siftup -/
def siftup_w1_c : M Bool := (do let a ← (getv "childpos"); let b ← (getv "endpos"); let c ← ltV a b; truV c)
def siftup_w1_b : M Fl := (seqM (do let v ← (do let a ← (getv "childpos"); let b ← (pure (V.int 1) : M V); addV a b); (fun v => setv "rightpos" v) v; pure .next : M Fl) (seqM (do if (← (do if (← (do let a ← (getv "rightpos"); let b ← (getv "endpos"); let c ← ltV a b; truV c)) = true then (do if (← (do let b ← (do let a ← (do let o ← (getv "heap"); let i ← (getv "childpos"); getI o i); let b ← (do let o ← (getv "heap"); let i ← (getv "rightpos"); getI o i); let c ← ltV a b; truV c); pure (!b))) = true then (pure true : M Bool) else pure false) else pure false)) = true then (do let v ← (getv "rightpos"); (fun v => setv "childpos" v) v; pure .next : M Fl) else (pure .next : M Fl) : M Fl) (seqM (do let v ← (do let o ← (getv "heap"); let i ← (getv "childpos"); getI o i); (fun v => do let a ← (getv "heap"); let b ← (getv "pos"); setI a b v) v; pure .next : M Fl) (seqM (do let v ← (getv "childpos"); (fun v => setv "pos" v) v; pure .next : M Fl) (do let v ← (do let a ← (do let a ← (pure (V.int 2) : M V); let b ← (getv "pos"); mulV a b); let b ← (pure (V.int 1) : M V); addV a b); (fun v => setv "childpos" v) v; pure .next : M Fl)))))
def siftup_m : M Fl := (seqM (do let v ← (do let vs ← (do let v ← (getv "heap"); let vs ← (pure [] : M (List V)); pure (v :: vs)); lenB vs); (fun v => setv "endpos" v) v; pure .next : M Fl) (seqM (do let v ← (getv "pos"); (fun v => setv "startpos" v) v; pure .next : M Fl) (seqM (do let v ← (do let o ← (getv "heap"); let i ← (getv "pos"); getI o i); (fun v => setv "newitem" v) v; pure .next : M Fl) (seqM (do let v ← (do let a ← (do let a ← (pure (V.int 2) : M V); let b ← (getv "pos"); mulV a b); let b ← (pure (V.int 1) : M V); addV a b); (fun v => setv "childpos" v) v; pure .next : M Fl) (seqM (whileM siftup_w1_c siftup_w1_b 4096) (seqM (do let v ← (getv "newitem"); (fun v => do let a ← (getv "heap"); let b ← (getv "pos"); setI a b v) v; pure .next : M Fl) (do let _ ← (do let vs ← (do let v ← (getv "heap"); let vs ← (do let v ← (getv "startpos"); let vs ← (do let v ← (getv "pos"); let vs ← (pure [] : M (List V)); pure (v :: vs)); pure (v :: vs)); pure (v :: vs)); callF f_siftdown vs); pure .next : M Fl)))))))
def f_siftup : Fun := funM ["heap", "pos"] siftup_m

/-! heappop -/
def heappop_m : M Fl := (seqM (do let v ← (do let ov ← (getv "heap"); chkL ov; let vs ← (pure [] : M (List V)); popG ov vs); (fun v => setv "lastelt" v) v; pure .next : M Fl) (seqM (do if (← (do let v ← (getv "heap"); truV v)) = true then (seqM (do let v ← (do let o ← (getv "heap"); let i ← (pure (V.int 0) : M V); getI o i); (fun v => setv "returnitem" v) v; pure .next : M Fl) (seqM (do let v ← (getv "lastelt"); (fun v => do let a ← (getv "heap"); let b ← (pure (V.int 0) : M V); setI a b v) v; pure .next : M Fl) (seqM (do let _ ← (do let vs ← (do let v ← (getv "heap"); let vs ← (do let v ← (pure (V.int 0) : M V); let vs ← (pure [] : M (List V)); pure (v :: vs)); pure (v :: vs)); callF f_siftup vs); pure .next : M Fl) (do let v ← (getv "returnitem"); pure (.ret v) : M Fl)))) else (pure .next : M Fl) : M Fl) (do let v ← (getv "lastelt"); pure (.ret v) : M Fl)))
def f_heappop : Fun := funM ["heap"] heappop_m

end Mine


/-! part H2 -/
set_option autoImplicit false
set_option maxRecDepth 100000
set_option linter.unusedVariables false
open PySem PySem.W PyProof.Rows
namespace Mine

/-! ### what M-programs do -/
def MW {α : Type} (m : M α) (σ : S) (Q : α → S → Prop) : Prop := ∃ a σ', m σ = .ok a σ' ∧ Q a σ'
section
variable {α β : Type} {σ : S}
theorem MW.mono {m : M α} {Q Q' : α → S → Prop} (h : MW m σ Q) (k : ∀ a σ', Q a σ' → Q' a σ') : MW m σ Q' := by
  obtain ⟨a, σ', e, q⟩ := h; exact ⟨a, σ', e, k _ _ q⟩
theorem MW_fun_ok {m : S → Res S α} {Q : α → S → Prop} {a : α} {σ' : S} (e : m σ = .ok a σ') : MW m σ Q ↔ Q a σ' := by
  constructor
  · rintro ⟨a', σ'', e', q⟩; rw [e] at e'; cases e'; exact q
  · exact fun q => ⟨a, σ', e, q⟩
theorem MW_pure {a : α} {Q : α → S → Prop} : MW (pure a : M α) σ Q ↔ Q a σ := MW_fun_ok rfl
theorem MW_bind {m : M α} {f : α → M β} {Q : β → S → Prop} : MW (m >>= f) σ Q ↔ MW m σ (fun a σ' => MW (f a) σ' Q) := by
  constructor
  · rintro ⟨b, σ', e, q⟩
    rw [M.bind_def] at e
    cases em : m σ with
    | ok a σ₁ => rw [em] at e; exact ⟨a, σ₁, em, b, σ', e, q⟩
    | exc x y => rw [em] at e; cases e
    | stuck => rw [em] at e; cases e
  · rintro ⟨a, σ₁, em, b, σ', e, q⟩
    exact ⟨b, σ', by rw [M.bind_def, em]; exact e, q⟩
theorem MW_seq {a b : M Fl} {Q : Fl → S → Prop} : MW (seqM a b) σ Q ↔ MW a σ (fun f σ' => match f with | .next => MW b σ' Q | .brk => Q .brk σ' | .cont => Q .cont σ' | .ret v => Q (.ret v) σ') := by
  unfold seqM
  rw [MW_bind]
  constructor
  · rintro ⟨f, σ', e, q⟩
    refine ⟨f, σ', e, ?_⟩
    cases f <;> first | exact q | exact MW_pure.mp q
  · rintro ⟨f, σ', e, q⟩
    refine ⟨f, σ', e, ?_⟩
    cases f <;> first | exact q | exact MW_pure.mpr q
theorem MW_getv {x : String} {Q : V → S → Prop} : MW (getv x) σ Q ↔ ∃ v, σ.lo x = some v ∧ Q v σ := by
  constructor
  · rintro ⟨a, σ', e, q⟩
    unfold getv at e
    cases h : σ.lo x with
    | none => rw [h] at e; cases e
    | some v => rw [h] at e; cases e; exact ⟨_, rfl, q⟩
  · rintro ⟨v, e, q⟩
    exact ⟨v, σ, by unfold getv; rw [e], q⟩
theorem MW_setv {x : String} {v : V} {Q : Unit → S → Prop} : MW (setv x v) σ Q ↔ Q () (σ.put x v) := MW_fun_ok rfl
theorem put_st {x : String} {v : V} : (σ.put x v).st = σ.st := rfl
theorem put_lo {x y : String} {v : V} : (σ.put x v).lo y = if y = x then some v else σ.lo y := rfl

theorem MW_gt {a b : Int} {Q : V → S → Prop} : MW (gtV (.int a) (.int b)) σ Q ↔ Q (.bool (decide (b < a))) σ := MW_fun_ok rfl
theorem MW_ge {a b : Int} {Q : V → S → Prop} : MW (geV (.int a) (.int b)) σ Q ↔ Q (.bool (decide (b ≤ a))) σ := MW_fun_ok rfl
theorem MW_le {a b : Int} {Q : V → S → Prop} : MW (leV (.int a) (.int b)) σ Q ↔ Q (.bool (decide (a ≤ b))) σ := MW_fun_ok rfl
theorem MW_add {a b : Int} {Q : V → S → Prop} : MW (addV (.int a) (.int b)) σ Q ↔ Q (.int (a + b)) σ := MW_fun_ok rfl
theorem MW_sub {a b : Int} {Q : V → S → Prop} : MW (subV (.int a) (.int b)) σ Q ↔ Q (.int (a - b)) σ := MW_fun_ok rfl
theorem MW_neg {a : Int} {Q : V → S → Prop} : MW (negV (.int a)) σ Q ↔ Q (.int (-a)) σ := MW_fun_ok rfl
theorem MW_tru {b : Bool} {Q : Bool → S → Prop} : MW (truV (.bool b)) σ Q ↔ Q b σ := MW_fun_ok rfl
theorem MW_lt_int {a b : Int} {Q : V → S → Prop} : MW (ltV (.int a) (.int b)) σ Q ↔ Q (.bool (decide (a < b))) σ := by
  refine MW_fun_ok ?_
  unfold ltV
  simp only [toD, ltD]
theorem MW_shr {a : Int} {Q : V → S → Prop} : MW (shrV (.int a) (.int 1)) σ Q ↔ 0 ≤ a ∧ Q (.int (a / 2)) σ := by
  by_cases h : 0 ≤ a
  · rw [MW_fun_ok (a := .int (a / 2)) (σ' := σ) (by simp [shrV, h])]; simp [h]
  · constructor
    · rintro ⟨_, _, e, _⟩; simp [shrV, h] at e
    · exact fun q => absurd q.1 h
theorem MW_mul {a b : Int} {Q : V → S → Prop} : MW (mulV (.int a) (.int b)) σ Q ↔ (-1000000000 < a ∧ a < 1000000000) ∧ Q (.int (a * b)) σ := by
  by_cases h : -1000000000 < a ∧ a < 1000000000
  · rw [MW_fun_ok (a := .int (a * b)) (σ' := σ) (by simp only [mulV, if_pos h])]; simp [h]
  · constructor
    · rintro ⟨_, _, e, _⟩; simp only [mulV, if_neg h] at e; cases e
    · exact fun q => absurd q.1 h
theorem MW_fdiv {a b : Int} {Q : V → S → Prop} : MW (fdivV (.int a) (.int b)) σ Q ↔ (0 < b ∧ b < 1000000000) ∧ Q (.int (a / b)) σ := by
  by_cases h : 0 < b ∧ b < 1000000000
  · rw [MW_fun_ok (a := .int (a / b)) (σ' := σ) (by simp only [fdivV, if_pos h])]; simp [h]
  · constructor
    · rintro ⟨_, _, e, _⟩; simp only [fdivV, if_neg h] at e; cases e
    · exact fun q => absurd q.1 h
theorem MW_fmod {a b : Int} {Q : V → S → Prop} : MW (fmodV (.int a) (.int b)) σ Q ↔ (0 < b ∧ b < 1000000000) ∧ Q (.int (a % b)) σ := by
  by_cases h : 0 < b ∧ b < 1000000000
  · rw [MW_fun_ok (a := .int (a % b)) (σ' := σ) (by simp only [fmodV, if_pos h])]; simp [h]
  · constructor
    · rintro ⟨_, _, e, _⟩; simp only [fmodV, if_neg h] at e; cases e
    · exact fun q => absurd q.1 h
theorem ix_nat {n j : Nat} : ix n (j : Int) = if j < n then some j else none := by
  unfold ix; rw [if_pos (by (first | lia | omega))]; simp
theorem ix_neg1 {n : Nat} (h : 0 < n) : ix n (-1) = some (n - 1) := by
  unfold ix; rw [if_neg (by (first | lia | omega)), if_pos (by (first | lia | omega))]
  congr 1; (first | lia | omega)
theorem MW_getI {l : Nat} {k : Int} {vs : List V} {j : Nat} {v : V} {Q : V → S → Prop} (h : σ.st[l]? = some (.lst vs)) (hk : ix vs.length k = some j) (hv : vs[j]? = some v) : MW (getI (.obj l) (.int k)) σ Q ↔ Q v σ := by
  refine MW_fun_ok ?_
  simp only [getI, h, hk, hv]
theorem MW_getT {vs : List V} {k : Int} {j : Nat} {v : V} {Q : V → S → Prop} (hk : ix vs.length k = some j) (hv : vs[j]? = some v) : MW (getI (.tup vs) (.int k)) σ Q ↔ Q v σ := by
  refine MW_fun_ok ?_
  simp only [getI, hk, hv]
theorem MW_setI {l : Nat} {k : Int} {vs : List V} {v : V} {j : Nat} {Q : Unit → S → Prop} (h : σ.st[l]? = some (.lst vs)) (hl : l ≠ 0) (hk : k = j) (hj : j < vs.length) :
    MW (setI (.obj l) (.int k) v) σ Q ↔ Q () { σ with st := σ.st.set l (.lst (vs.set j v)) } := by
  refine MW_fun_ok ?_
  subst hk
  simp [setI, h, hl, hj]
theorem MW_len {l : Nat} {vs : List V} {Q : V → S → Prop} (h : σ.st[l]? = some (.lst vs)) : MW (lenB [.obj l]) σ Q ↔ Q (.int vs.length) σ := by
  refine MW_fun_ok ?_
  simp only [lenB, h]
theorem MW_truL {l : Nat} {vs : List V} {Q : Bool → S → Prop} (h : σ.st[l]? = some (.lst vs)) : MW (truV (.obj l)) σ Q ↔ Q (!vs.isEmpty) σ := by
  refine MW_fun_ok ?_
  simp only [truV, h]
theorem MW_chkL {l : Nat} {vs : List V} {Q : Unit → S → Prop} (h : σ.st[l]? = some (.lst vs)) : MW (chkL (.obj l)) σ Q ↔ Q () σ := MW_fun_ok (chkL_ok h)
theorem MW_append {l : Nat} {vs : List V} {v : V} {Q : V → S → Prop} (h : σ.st[l]? = some (.lst vs)) (hl : l ≠ 0) (hn : vs.length < 1000000) : MW (appendG (.obj l) [v]) σ Q ↔ Q .none { σ with st := σ.st.set l (.lst (vs ++ [v])) } := by
  refine MW_fun_ok ?_
  simp [appendG, h, hl, hn]
theorem MW_pop {l : Nat} {vs : List V} {v : V} {Q : V → S → Prop} (h : σ.st[l]? = some (.lst vs)) (hl : l ≠ 0) (hv : vs[vs.length - 1]? = some v) : MW (popG (.obj l) []) σ Q ↔ Q v { σ with st := σ.st.set l (.lst (vs.eraseIdx (vs.length - 1))) } := by
  refine MW_fun_ok ?_
  simp only [popG, if_neg hl, h, hv]
theorem MW_newL {vs : List V} {Q : V → S → Prop} (hn : vs.length ≤ 1000000) : MW (newL vs) σ Q ↔ Q (.obj σ.st.length) { σ with st := σ.st ++ [.lst vs] } := by
  refine MW_fun_ok ?_
  simp only [newL, if_pos hn]
theorem MW_mkT {vs : List V} {Q : V → S → Prop} (hn : vs.length ≤ 1000000) : MW (mkT vs) σ Q ↔ Q (.tup vs) σ := by
  refine MW_fun_ok ?_
  simp only [mkT, if_pos hn]
theorem MW_callF {g : Fun} {vs : List V} {v : V} {st' : Store} {Q : V → S → Prop} (h : g vs σ.st = .ok v st') : MW (callF g vs) σ Q ↔ Q v { σ with st := st' } := by
  refine MW_fun_ok ?_
  simp only [callF, h]

theorem MW_while {c : M Bool} {b : M Fl} {Q : Fl → S → Prop} (I : Nat → S → Prop)
    (h : ∀ k σ, I k σ → MW c σ (fun t σ₁ => if t = true then MW b σ₁ (fun f σ₂ => match f with | .next => ∃ j, j < k ∧ I j σ₂ | .cont => ∃ j, j < k ∧ I j σ₂ | .brk => Q .next σ₂ | .ret v => Q (.ret v) σ₂) else Q .next σ₁)) :
    ∀ (n k : Nat) (σ : S), k < n → I k σ → MW (whileM c b n) σ Q := by
  intro n
  induction n with
  | zero => intro k σ hk; (first | lia | omega)
  | succ n ih =>
    intro k σ hk hI
    unfold whileM
    rw [MW_bind]
    refine (h k σ hI).mono fun t σ₁ ht => ?_
    cases t with
    | false => simp only [Bool.false_eq_true, if_false] at ht ⊢; exact MW_pure.mpr ht
    | true =>
      simp only [if_true] at ht ⊢
      rw [MW_bind]
      refine ht.mono fun f σ₂ hf => ?_
      cases f with
      | next => obtain ⟨j, hj, hI'⟩ := hf; exact ih j σ₂ (by (first | lia | omega)) hI'
      | cont => obtain ⟨j, hj, hI'⟩ := hf; exact ih j σ₂ (by (first | lia | omega)) hI'
      | brk => exact MW_pure.mpr hf
      | ret v => exact MW_pure.mpr hf

theorem MW_for {nxt : S → Nat → Option (Option V)} {t : V → M Unit} {b : M Fl} {Q : Fl → S → Prop} (N : Nat) (I : Nat → S → Prop)
    (hend : ∀ σ, I N σ → nxt σ N = some none ∧ Q .next σ)
    (h : ∀ i σ, i < N → I i σ → ∃ v, nxt σ i = some (some v) ∧ MW (t v) σ (fun _ σ₁ => MW b σ₁ (fun f σ₂ => match f with | .next => I (i + 1) σ₂ | .cont => I (i + 1) σ₂ | .brk => Q .next σ₂ | .ret v => Q (.ret v) σ₂))) :
    ∀ (n i : Nat) (σ : S), i ≤ N → N - i < n → I i σ → MW (forG nxt t b n i) σ Q := by
  intro n
  induction n with
  | zero => intro i σ _ hk; (first | lia | omega)
  | succ n ih =>
    intro i σ hi hk hI
    by_cases hN : i = N
    · subst hN
      obtain ⟨e, q⟩ := hend σ hI
      refine ⟨.next, σ, ?_, q⟩
      rw [forG]; dsimp only; rw [e]
    · obtain ⟨v, e, hw⟩ := h i σ (by (first | lia | omega)) hI
      have key : MW (do
        t v
        match ← b with
        | .next => forG nxt t b n (i + 1)
        | .cont => forG nxt t b n (i + 1)
        | .brk => pure .next
        | .ret v => pure (.ret v)) σ Q := by
        rw [MW_bind]
        refine hw.mono fun _ σ₁ h1 => ?_
        rw [MW_bind]
        refine h1.mono fun f σ₂ hf => ?_
        cases f with
        | next => exact ih (i + 1) σ₂ (by (first | lia | omega)) (by (first | lia | omega)) hf
        | cont => exact ih (i + 1) σ₂ (by (first | lia | omega)) (by (first | lia | omega)) hf
        | brk => exact MW_pure.mpr hf
        | ret v => exact MW_pure.mpr hf
      obtain ⟨a, σ', e2, q⟩ := key
      refine ⟨a, σ', ?_, q⟩
      rw [forG]; dsimp only; rw [e]; exact e2
end

theorem funM_of {params : List String} {body : M Fl} {vs : List V} {st st' : Store} {v : V} (hl : vs.length = params.length)
    (h : MW body ⟨st, bindP params vs⟩ (fun f σ' => (match f with | .ret u => u | _ => .none) = v ∧ σ'.st = st')) : funM params body vs st = .ok v st' := by
  obtain ⟨f, σ', e, h1, h2⟩ := h
  unfold funM
  rw [if_pos hl, e]
  subst h1 h2
  cases f <;> rfl

/-! ### the heap functions -/
/-- a < b, whatever stands at place l -/
def LtAtL (st : Store) (l : Nat) (P : V → Prop) (lt : V → V → Bool) : Prop :=
  ∀ ws : List V, ∀ a b, P a → P b → ∀ lo, ltV a b ⟨st.set l (.lst ws), lo⟩ = .ok (.bool (lt a b)) ⟨st.set l (.lst ws), lo⟩

end Mine


/-! part H3 -/
set_option autoImplicit false
set_option maxRecDepth 100000
set_option linter.unusedVariables false
set_option linter.unusedSimpArgs false
open PySem PySem.W PyProof.Rows
namespace Mine

variable {P : V → Prop} {lt : V → V → Bool}

theorem set_get {st : Store} {l : Nat} {ws : List V} {c : Cel} (h : st[l]? = some c) : (st.set l (.lst ws))[l]? = some (.lst ws) := by
  rw [List.getElem?_set_self]; exact (List.getElem?_eq_some_iff.mp h).1
theorem set_id {st : Store} {l : Nat} {ws : List V} (h : st[l]? = some (.lst ws)) : st.set l (.lst ws) = st := by
  obtain ⟨h1, h2⟩ := List.getElem?_eq_some_iff.mp h
  rw [← h2]; exact List.set_getElem_self h1
theorem MW_ltP {st : Store} {l : Nat} {σ : S} {ws : List V} {a b : V} {Q : V → S → Prop} (h : LtAtL st l P lt) (hs : σ.st = st.set l (.lst ws)) (ha : P a) (hb : P b) : MW (ltV a b) σ Q ↔ Q (.bool (lt a b)) σ := by
  refine MW_fun_ok ?_
  obtain ⟨s1, lo⟩ := σ
  dsimp only at hs
  subst hs
  exact h ws a b ha hb lo

theorem siftdown_spec {st : Store} {l : Nat} {vs : List V} {s p : Nat} (hl : st[l]? = some (.lst vs)) (hl0 : l ≠ 0) (hp : p < vs.length) (hn : vs.length ≤ 4000) (hP : ∀ a ∈ vs, P a) (hlt : LtAtL st l P lt) :
    f_siftdown [.obj l, .int s, .int p] st = .ok .none (st.set l (.lst (sd lt (nth vs p) s vs p))) := by
  refine funM_of rfl ?_
  unfold siftdown_m
  simp only [MW_seq, MW_bind, MW_getv, MW_pure, MW_setv, bindP, put_lo, put_st, String.reduceEq, if_true, if_false, Option.some.injEq, exists_eq_left']
  rw [MW_getI hl (j := p) (by rw [ix_nat, if_pos hp]) (nth_eq hp)]
  refine MW_while (fun k σ => ∃ ws q, σ.lo "heap" = some (.obj l) ∧ σ.lo "startpos" = some (.int s) ∧ σ.lo "newitem" = some (nth vs p) ∧ σ.lo "pos" = some (.int (q : Nat)) ∧ σ.st = st.set l (.lst ws) ∧ q < ws.length ∧
    (∀ a ∈ ws, P a) ∧ ws.length = vs.length ∧ sd lt (nth vs p) s ws q = sd lt (nth vs p) s vs p ∧ k = q) ?_ 4096 p _ (by (first | lia | omega)) ⟨vs, p, rfl, rfl, rfl, rfl, (set_id hl).symm, hp, hP, rfl, rfl, rfl⟩
  rintro k σ ⟨ws, q, h1, h2, h3, h4, h5, h6, h7, h8, h9, rfl⟩
  unfold siftdown_w1_c siftdown_w1_b
  simp only [MW_seq, MW_bind, MW_getv, MW_pure, MW_setv, MW_gt, MW_tru, MW_sub, put_lo, put_st, h1, h2, h3, h4, String.reduceEq, if_true, if_false, Option.some.injEq, exists_eq_left', decide_eq_true_eq]
  have hget : ∀ σ' : S, σ'.st = σ.st → σ'.st[l]? = some (.lst ws) := fun σ' e => by rw [e, h5]; exact set_get hl
  split
  · rename_i hlt'
    have hsk : s < k := by (first | lia | omega)
    have hq : (k - 1) / 2 < ws.length := by (first | lia | omega)
    have ek : ((k : Int) - 1) / 2 = (((k - 1) / 2 : Nat) : Int) := by (first | lia | omega)
    rw [MW_shr, ek]
    refine ⟨by (first | lia | omega), ?_⟩
    simp only [h1, Option.some.injEq, exists_eq_left']
    refine (MW_getI (by exact hget _ rfl) (j := (k - 1) / 2) (by rw [ix_nat, if_pos hq]) (nth_eq hq)).mpr ?_
    simp only [put_lo, String.reduceEq, if_true, if_false, h3, Option.some.injEq, exists_eq_left']
    have hPx : P (nth vs p) := hP _ (nth_mem hp)
    have hPy : P (nth ws ((k - 1) / 2)) := h7 _ (nth_mem hq)
    refine (MW_ltP hlt (by exact h5) hPx hPy).mpr ?_
    rw [MW_tru]
    have e9 := h9
    rw [sd, dif_pos hsk] at e9
    by_cases hc : lt (nth vs p) (nth ws ((k - 1) / 2)) = true
    · rw [if_pos hc] at e9
      simp only [hc, if_true, MW_seq, MW_bind, MW_getv, MW_pure, MW_setv, put_lo, put_st, h1, h2, h3, h4, String.reduceEq, if_false, Option.some.injEq, exists_eq_left']
      refine (MW_setI (by exact hget _ rfl) hl0 rfl h6).mpr ?_
      simp only [put_lo, put_st, h1, h2, h3, h4, String.reduceEq, if_true, if_false, Option.some.injEq, exists_eq_left']
      refine ⟨(k - 1) / 2, by (first | lia | omega), ws.set k (nth ws ((k - 1) / 2)), (k - 1) / 2, trivial, trivial, trivial, rfl, ?_, by rw [List.length_set]; exact hq, all_set h7 hPy, by rw [List.length_set]; exact h8, e9, rfl⟩
      rw [h5, List.set_set]
    · rw [if_neg hc] at e9
      simp only [hc, if_false, MW_pure, put_lo, put_st, h1, h2, h3, h4, String.reduceEq, Option.some.injEq, exists_eq_left', Bool.false_eq_true]
      refine (MW_setI (by exact hget _ rfl) hl0 rfl h6).mpr ?_
      refine ⟨trivial, ?_⟩
      show (σ.st.set l _) = _
      rw [h5, List.set_set, e9]
  · rename_i hlt'
    have e9 := h9
    rw [sd, dif_neg (by (first | lia | omega))] at e9
    refine (MW_setI (by exact hget _ rfl) hl0 rfl h6).mpr ?_
    refine ⟨trivial, ?_⟩
    show (σ.st.set l _) = _
    rw [h5, List.set_set, e9]

theorem LtAtL.set {st : Store} {l : Nat} (h : LtAtL st l P lt) (ws : List V) : LtAtL (st.set l (.lst ws)) l P lt := by
  intro us a b ha hb lo
  rw [List.set_set]
  exact h us a b ha hb lo

theorem siftup_spec {st : Store} {l : Nat} {vs : List V} {p : Nat} (hl : st[l]? = some (.lst vs)) (hl0 : l ≠ 0) (hp : p < vs.length) (hn : vs.length ≤ 4000) (hP : ∀ a ∈ vs, P a) (hlt : LtAtL st l P lt) :
    f_siftup [.obj l, .int p] st = .ok .none (st.set l (.lst (su lt vs p))) := by
  refine funM_of rfl ?_
  unfold siftup_m
  simp only [MW_seq, MW_bind, MW_getv, MW_pure, MW_setv, bindP, put_lo, put_st, String.reduceEq, if_true, if_false, Option.some.injEq, exists_eq_left']
  refine (MW_len (by exact hl)).mpr ?_
  simp only [put_lo, put_st, String.reduceEq, if_true, if_false, Option.some.injEq, exists_eq_left']
  refine (MW_getI (by exact hl) (j := p) (by rw [ix_nat, if_pos hp]) (nth_eq hp)).mpr ?_
  simp only [put_lo, put_st, String.reduceEq, if_true, if_false, Option.some.injEq, exists_eq_left']
  rw [MW_mul]
  refine ⟨by (first | lia | omega), ?_⟩
  rw [MW_add]
  refine MW_while (fun k σ => ∃ ws q, σ.lo "heap" = some (.obj l) ∧ σ.lo "endpos" = some (.int vs.length) ∧ σ.lo "startpos" = some (.int p) ∧ σ.lo "newitem" = some (nth vs p) ∧ σ.lo "pos" = some (.int (q : Nat)) ∧
    σ.lo "childpos" = some (.int (2 * (q : Int) + 1)) ∧ σ.st = st.set l (.lst ws) ∧ q < ws.length ∧
    (∀ a ∈ ws, P a) ∧ ws.length = vs.length ∧ down lt ws q = down lt vs p ∧ k = vs.length - q) ?_ 4096 (vs.length - p) _ (by (first | lia | omega))
    ⟨vs, p, rfl, rfl, rfl, rfl, rfl, rfl, (set_id hl).symm, hp, hP, rfl, rfl, rfl⟩
  rintro k σ ⟨ws, q, h1, h2, h3, h4, h5, h6, h7, h8, h9, h10, h11, rfl⟩
  have hget : ∀ σ' : S, σ'.st = σ.st → σ'.st[l]? = some (.lst ws) := fun σ' e => by rw [e, h7]; exact set_get hl
  have hPx : P (nth vs p) := hP _ (nth_mem hp)
  unfold siftup_w1_c
  simp only [MW_bind, MW_getv, MW_lt_int, MW_tru, h2, h6, Option.some.injEq, exists_eq_left', decide_eq_true_eq]
  split
  · rename_i hc
    have hc' : 2 * q + 1 < ws.length := by (first | lia | omega)
    have e11 := h11
    rw [down, dif_pos hc'] at e11
    have hk1 := kid_gt lt ws q
    have hk2 := kid_lt (lt := lt) hc'
    unfold siftup_w1_b
    rw [MW_seq]
    simp only [MW_bind, MW_getv, MW_pure, MW_setv, MW_add, h6, Option.some.injEq, exists_eq_left']
    rw [MW_seq]
    refine MW.mono (Q := fun f σ' => f = .next ∧ σ'.st = σ.st ∧ (∀ y, y ≠ "childpos" → y ≠ "rightpos" → σ'.lo y = σ.lo y) ∧ σ'.lo "childpos" = some (.int ((kid lt ws q : Nat) : Int))) ?_ ?_
    · simp only [MW_bind, MW_getv, MW_pure, MW_setv, MW_lt_int, MW_tru, put_lo, put_st, h1, h2, h6, String.reduceEq, if_true, if_false, Option.some.injEq, exists_eq_left', decide_eq_true_eq]
      by_cases hr : 2 * q + 2 < ws.length
      · rw [if_pos (by (first | lia | omega))]
        simp only [MW_bind, MW_getv, MW_pure, put_lo, put_st, h1, h2, h6, String.reduceEq, if_true, if_false, Option.some.injEq, exists_eq_left']
        refine (MW_getI (by exact hget _ rfl) (j := 2 * q + 1) (by have : (2 * (q : Int) + 1) = ((2 * q + 1 : Nat) : Int) := by (first | lia | omega)
                                                                   rw [this, ix_nat, if_pos hc']) (nth_eq hc')).mpr ?_
        simp only [MW_bind, MW_getv, MW_pure, put_lo, put_st, h1, h2, h6, String.reduceEq, if_true, if_false, Option.some.injEq, exists_eq_left']
        refine (MW_getI (by exact hget _ rfl) (j := 2 * q + 2) (by have : (2 * (q : Int) + 1 + 1) = ((2 * q + 2 : Nat) : Int) := by (first | lia | omega)
                                                                   rw [this, ix_nat, if_pos hr]) (nth_eq hr)).mpr ?_
        refine (MW_ltP hlt (by exact h7) (h9 _ (nth_mem hc')) (h9 _ (nth_mem hr))).mpr ?_
        rw [MW_tru]
        cases hb : lt (nth ws (2 * q + 1)) (nth ws (2 * q + 2)) with
        | true =>
          simp only [Bool.not_true, Bool.false_eq_true, if_false, MW_pure]
          have hkid : kid lt ws q = 2 * q + 1 := by unfold kid; rw [if_neg (by rw [hb]; simp)]
          refine ⟨trivial, rfl, fun y hy hy' => ?_, ?_⟩
          · simp only [put_lo, if_neg hy']
          · simp only [put_lo, String.reduceEq, if_false, h6, hkid]
            congr 2
        | false =>
          simp only [Bool.not_false, if_true, MW_pure, MW_bind, MW_getv, MW_setv, put_lo, Option.some.injEq, exists_eq_left']
          have hkid : kid lt ws q = 2 * q + 2 := by unfold kid; rw [if_pos ⟨hr, hb⟩]
          refine ⟨trivial, rfl, fun y hy hy' => ?_, ?_⟩
          · simp only [put_lo, if_neg hy, if_neg hy']
          · rw [hkid]; congr 2
      · rw [if_neg (by (first | lia | omega))]
        simp only [MW_pure, Bool.false_eq_true, if_false]
        have hkid : kid lt ws q = 2 * q + 1 := by unfold kid; rw [if_neg (fun h => hr h.1)]
        refine ⟨trivial, rfl, fun y hy hy' => ?_, ?_⟩
        · simp only [put_lo, if_neg hy']
        · simp only [put_lo, String.reduceEq, if_false, h6, hkid]
          congr 2
    · rintro f σ' ⟨rfl, g7, g, g6⟩
      have g1 := (g "heap" (by decide) (by decide)).trans h1
      have g2 := (g "endpos" (by decide) (by decide)).trans h2
      have g3 := (g "startpos" (by decide) (by decide)).trans h3
      have g4 := (g "newitem" (by decide) (by decide)).trans h4
      have g5 := (g "pos" (by decide) (by decide)).trans h5
      simp only [MW_seq, MW_bind, MW_getv, MW_pure, MW_setv, MW_lt_int, MW_tru, MW_add, put_lo, put_st, g1, g2, g3, g4, g5, g6, String.reduceEq, if_true, if_false, Option.some.injEq, exists_eq_left']
      refine (MW_getI (by exact hget _ g7) (j := kid lt ws q) (by rw [ix_nat, if_pos hk2]) (nth_eq hk2)).mpr ?_
      simp only [g1, g5, Option.some.injEq, exists_eq_left']
      refine (MW_setI (by exact hget _ g7) hl0 rfl h8).mpr ?_
      simp only [g1, g2, g3, g4, g5, g6, put_lo, put_st, String.reduceEq, if_true, if_false, Option.some.injEq, exists_eq_left']
      rw [MW_mul]
      refine ⟨by (first | lia | omega), ?_⟩
      simp only [MW_add, g1, g2, g3, g4, g5, g6, put_lo, put_st, String.reduceEq, if_true, if_false, Option.some.injEq, exists_eq_left']
      refine ⟨vs.length - kid lt ws q, by (first | lia | omega), ws.set q (nth ws (kid lt ws q)), kid lt ws q, trivial, trivial, trivial, trivial, rfl, rfl, ?_, by rw [List.length_set]; exact hk2, all_set h9 (h9 _ (nth_mem hk2)), by rw [List.length_set]; exact h10, e11, rfl⟩
      show σ'.st.set l _ = _
      rw [g7, h7, List.set_set]
  · rename_i hc
    have hc' : ¬ 2 * q + 1 < ws.length := by (first | lia | omega)
    have e11 := h11
    rw [down, dif_neg hc'] at e11
    simp only [MW_seq, MW_bind, MW_getv, MW_pure, h1, h2, h3, h4, h5, Option.some.injEq, exists_eq_left']
    refine (MW_setI (by exact hget _ rfl) hl0 rfl h8).mpr ?_
    simp only [MW_seq, MW_bind, MW_getv, MW_pure, h1, h2, h3, h4, h5, Option.some.injEq, exists_eq_left']
    have hst : σ.st.set l (.lst (ws.set q (nth vs p))) = st.set l (.lst (ws.set q (nth vs p))) := by rw [h7, List.set_set]
    refine (MW_callF (by
      show f_siftdown [.obj l, .int p, .int q] (σ.st.set l (.lst (ws.set q (nth vs p)))) = _
      rw [hst]
      exact siftdown_spec (set_get hl) hl0 (by rw [List.length_set]; exact h8) (by rw [List.length_set]; (first | lia | omega)) (all_set h9 hPx) (hlt.set _))).mpr ?_
    refine ⟨trivial, ?_⟩
    show (st.set l _).set l _ = _
    rw [List.set_set, nth_set_self h8]
    unfold su
    rw [← e11]

end Mine


/-! part H4 -/
set_option autoImplicit false
set_option maxRecDepth 100000
set_option linter.unusedVariables false
set_option linter.unusedSimpArgs false
open PySem PySem.W PyProof.Rows
namespace Mine

variable {P : V → Prop} {lt : V → V → Bool}

theorem LtAtL.id {st : Store} {l : Nat} {vs : List V} (h : LtAtL st l P lt) (hl : st[l]? = some (.lst vs)) (ws : List V) : LtAtL (st.set l (.lst ws)) l P lt := h.set ws

theorem heappop_spec {st : Store} {l : Nat} {vs : List V} (hl : st[l]? = some (.lst vs)) (hl0 : l ≠ 0) (h0 : 0 < vs.length) (hn : vs.length ≤ 4000) (hP : ∀ a ∈ vs, P a) (hlt : LtAtL st l P lt) :
    f_heappop [.obj l] st = .ok (hpop lt vs).1 (st.set l (.lst (hpop lt vs).2)) := by
  refine funM_of rfl ?_
  unfold heappop_m
  have hlen : (vs.eraseIdx (vs.length - 1)).length = vs.length - 1 := by rw [List.length_eraseIdx]; simp; (first | lia | omega)
  simp only [MW_seq, MW_bind, MW_getv, MW_pure, MW_setv, bindP, put_lo, put_st, String.reduceEq, if_true, if_false, Option.some.injEq, exists_eq_left']
  refine (MW_chkL (by exact hl)).mpr ?_
  refine (MW_pop (by exact hl) hl0 (nth_eq (by (first | lia | omega)))).mpr ?_
  simp only [put_lo, put_st, String.reduceEq, if_true, if_false, Option.some.injEq, exists_eq_left']
  refine (MW_truL (vs := vs.eraseIdx (vs.length - 1)) (by exact set_get hl)).mpr ?_
  by_cases h1 : vs.length ≤ 1
  · have he : vs.eraseIdx (vs.length - 1) = [] := List.eq_nil_of_length_eq_zero (by (first | lia | omega))
    have hp : hpop lt vs = (nth vs 0, []) := by unfold hpop; rw [if_pos h1]
    rw [he]
    simp only [List.isEmpty_nil, Bool.not_true, Bool.false_eq_true, if_false, MW_pure, put_lo, put_st, String.reduceEq, if_true, Option.some.injEq, exists_eq_left']
    rw [hp]
    have : vs.length - 1 = 0 := by (first | lia | omega)
    rw [this]
    exact ⟨rfl, rfl⟩
  · have he : (vs.eraseIdx (vs.length - 1)).isEmpty = false := by
      cases h : vs.eraseIdx (vs.length - 1) with
      | nil => rw [h] at hlen; simp at hlen; (first | lia | omega)
      | cons a b => rfl
    have hn0 : nth (vs.eraseIdx (vs.length - 1)) 0 = nth vs 0 := by
      have h2 := eraseLast_append h0
      conv => rhs; rw [← h2]
      rw [nth_append_left (by (first | lia | omega))]
    have hp : hpop lt vs = (nth vs 0, su lt ((vs.eraseIdx (vs.length - 1)).set 0 (nth vs (vs.length - 1))) 0) := by unfold hpop; rw [if_neg h1]
    rw [he]
    simp only [Bool.not_false, if_true, MW_seq, MW_bind, MW_getv, MW_pure, MW_setv, put_lo, put_st, String.reduceEq, if_false, Option.some.injEq, exists_eq_left']
    refine (MW_getI (vs := vs.eraseIdx (vs.length - 1)) (by exact set_get hl) (j := 0) (by rw [show (0 : Int) = ((0 : Nat) : Int) from rfl, ix_nat, if_pos (by (first | lia | omega))]) (nth_eq (by (first | lia | omega)))).mpr ?_
    simp only [put_lo, put_st, String.reduceEq, if_true, if_false, Option.some.injEq, exists_eq_left']
    refine (MW_setI (vs := vs.eraseIdx (vs.length - 1)) (j := 0) (by exact set_get hl) hl0 rfl (by (first | lia | omega))).mpr ?_
    simp only [put_lo, put_st, String.reduceEq, if_true, if_false, Option.some.injEq, exists_eq_left', List.set_set]
    refine (MW_callF (by
      show f_siftup [.obj l, .int ((0 : Nat) : Int)] (st.set l (.lst ((vs.eraseIdx (vs.length - 1)).set 0 (nth vs (vs.length - 1))))) = _
      exact siftup_spec (set_get hl) hl0 (by rw [List.length_set]; (first | lia | omega)) (by rw [List.length_set]; (first | lia | omega)) (all_set (fun a ha => hP a (List.mem_of_mem_eraseIdx ha)) (hP _ (nth_mem (by (first | lia | omega))))) (hlt.set _))).mpr ?_
    simp only [put_lo, put_st, String.reduceEq, if_true, if_false, Option.some.injEq, exists_eq_left', bindP, List.set_set, hp, hn0]
    exact ⟨trivial, trivial⟩

theorem nxt_rng (a b c : Int) (σ : S) (i : Nat) : nxtOf (.rng a b c) σ i = some (if i < rngLen a b c then some (.int (a + i * c)) else none) := rfl

end Mine


/-! part H5 -/
set_option autoImplicit false
set_option maxRecDepth 100000
set_option linter.unusedVariables false
set_option linter.unusedSimpArgs false
open PySem PySem.W PyProof.Rows
namespace Mine

/-! ### lists of ints -/
section
variable {σ : S}

theorem toD_int {st : Store} {n : Nat} {i : Int} : toD st (n + 1) (.int i) = some (.int i) := by simp only [toD]
theorem mapO_ints {st : Store} {n : Nat} : ∀ ns : List Int, mapO (toD st (n + 1)) (ns.map V.int) = some (ns.map PyData.int)
  | [] => rfl
  | a :: ns => by
    show mapO (toD st (n + 1)) (V.int a :: ns.map V.int) = _
    unfold mapO
    rw [toD_int, mapO_ints ns]
    rfl
theorem toD_intL {st : Store} {n l : Nat} {ns : List Int} (h : st[l]? = some (.lst (ns.map V.int))) : toD st (n + 2) (.obj l) = some (.list (ns.map PyData.int)) := by
  rw [toD]
  simp only [h]
  rw [mapO_ints]; rfl
theorem eqvAll_ints : ∀ as bs : List Int, PyData.eqvAll (as.map PyData.int) (bs.map PyData.int) = decide (as = bs)
  | [], [] => by simp [PyData.eqvAll]
  | [], _ :: _ => by simp [PyData.eqvAll]
  | _ :: _, [] => by simp [PyData.eqvAll]
  | a :: as, b :: bs => by
    simp only [List.map_cons, PyData.eqvAll, eqvAll_ints as bs, PyData.eqv]
    by_cases h : a = b
    · subst h; simp
    · simp [h]
theorem MW_eqL {l k : Nat} {as bs : List Int} {Q : V → S → Prop} (h1 : σ.st[l]? = some (.lst (as.map V.int))) (h2 : σ.st[k]? = some (.lst (bs.map V.int))) : MW (eqV (.obj l) (.obj k)) σ Q ↔ Q (.bool (decide (as = bs))) σ := by
  refine MW_fun_ok ?_
  unfold eqV
  rw [toD_intL h1, toD_intL h2]
  simp only [PyData.eqv, eqvAll_ints]
theorem MW_eqI {a b : Int} {Q : V → S → Prop} : MW (eqV (.int a) (.int b)) σ Q ↔ Q (.bool (decide (a = b))) σ := by
  refine MW_fun_ok ?_
  unfold eqV
  rw [toD_int, toD_int]
  simp only [PyData.eqv]
  rfl
theorem MW_neI {a b : Int} {Q : V → S → Prop} : MW (neV (.int a) (.int b)) σ Q ↔ Q (.bool (!decide (a = b))) σ := by
  refine MW_fun_ok ?_
  unfold neV
  rw [toD_int, toD_int]
  simp only [PyData.eqv]
  rfl
theorem MW_isNone {v : V} {Q : V → S → Prop} : MW (isV v .none) σ Q ↔ Q (.bool v.isNone) σ := by
  refine MW_fun_ok ?_
  cases v <;> rfl
theorem MW_isNotNone {v : V} {Q : V → S → Prop} : MW (isNotV v .none) σ Q ↔ Q (.bool (!v.isNone)) σ := by
  refine MW_fun_ok ?_
  cases v <;> rfl
theorem intsOf_map : ∀ ns : List Int, intsOf (ns.map V.int) = some ns
  | [] => rfl
  | a :: ns => by simp only [List.map_cons, intsOf, intsOf_map ns]; rfl
theorem MW_sorted {l : Nat} {ns : List Int} {Q : V → S → Prop} (h : σ.st[l]? = some (.lst (ns.map V.int))) (hn : ns.length < 64) :
    MW (sortedB [.obj l]) σ Q ↔ Q (.obj σ.st.length) { σ with st := σ.st ++ [.lst ((sortI ns).map V.int)] } := by
  refine MW_fun_ok ?_
  simp only [sortedB, h, intsOf_map, List.length_map, if_pos hn]
theorem MW_addL {l k : Nat} {as bs : List V} {Q : V → S → Prop} (h1 : σ.st[l]? = some (.lst as)) (h2 : σ.st[k]? = some (.lst bs)) (hn : (as ++ bs).length ≤ 1000000) :
    MW (addV (.obj l) (.obj k)) σ Q ↔ Q (.obj σ.st.length) { σ with st := σ.st ++ [.lst (as ++ bs)] } := by
  refine MW_fun_ok ?_
  simp only [addV, h1, h2, newL, if_pos hn]
end
end Mine


/-! part H6 -/
set_option autoImplicit false
set_option maxRecDepth 100000
set_option linter.unusedVariables false
set_option linter.unusedSimpArgs false
open PySem PySem.W PyProof.Rows
namespace Mine

/-! ### stores: all stays but the places L -/
def Pres (L : List Nat) (st st' : Store) : Prop := st.length ≤ st'.length ∧ ∀ k, k < st.length → k ∉ L → st'[k]? = st[k]?
theorem lt_of_get {st : Store} {l : Nat} {c : Cel} (h : st[l]? = some c) : l < st.length := (List.getElem?_eq_some_iff.mp h).1
theorem Pres.refl (L : List Nat) (st : Store) : Pres L st st := ⟨Nat.le_refl _, fun _ _ _ => rfl⟩
theorem Pres.trans {L : List Nat} {a b c : Store} (x : Pres L a b) (y : Pres L b c) : Pres L a c :=
  ⟨Nat.le_trans x.1 y.1, fun k hk hl => (y.2 k (Nat.lt_of_lt_of_le hk x.1) hl).trans (x.2 k hk hl)⟩
theorem Pres.get {L : List Nat} {a b : Store} {k : Nat} {c : Cel} (x : Pres L a b) (h : a[k]? = some c) (hk : k ∉ L) : b[k]? = some c := (x.2 k (lt_of_get h) hk).trans h
theorem Pres.get0 {a b : Store} {k : Nat} {c : Cel} (x : Pres [] a b) (h : a[k]? = some c) : b[k]? = some c := x.get h (by simp)
theorem Pres.mono {L L' : List Nat} {a b : Store} (x : Pres L a b) (h : ∀ k ∈ L, k ∈ L') : Pres L' a b := ⟨x.1, fun k hk hl => x.2 k hk fun q => hl (h k q)⟩
theorem Pres.nil {L : List Nat} {a b : Store} (x : Pres [] a b) : Pres L a b := x.mono (by simp)
theorem Pres.app (L : List Nat) (st xs : Store) : Pres L st (st ++ xs) := ⟨by simp, fun k hk _ => List.getElem?_append_left hk⟩
theorem Pres.set {L : List Nat} {st : Store} {l : Nat} {c : Cel} (h : l ∈ L) : Pres L st (st.set l c) :=
  ⟨by simp, fun k hk hl => List.getElem?_set_ne (by rintro rfl; exact hl h)⟩
theorem set_self {st : Store} {l : Nat} {c : Cel} (h : l < st.length) : (st.set l c)[l]? = some c := List.getElem?_set_self h

section
variable {σ : S}
theorem MW_newL' {vs : List V} {Q : V → S → Prop} (hn : vs.length ≤ 1000000) (h : ∀ k st', Pres [] σ.st st' → σ.st.length ≤ k → st'[k]? = some (.lst vs) → Q (.obj k) ⟨st', σ.lo⟩) : MW (newL vs) σ Q :=
  (MW_newL hn).mpr (h _ _ (Pres.app ..) (Nat.le_refl _) List.getElem?_concat_length)
theorem MW_addL' {l k : Nat} {as bs : List V} {Q : V → S → Prop} (h1 : σ.st[l]? = some (.lst as)) (h2 : σ.st[k]? = some (.lst bs)) (hn : (as ++ bs).length ≤ 1000000)
    (h : ∀ k st', Pres [] σ.st st' → σ.st.length ≤ k → st'[k]? = some (.lst (as ++ bs)) → Q (.obj k) ⟨st', σ.lo⟩) : MW (addV (.obj l) (.obj k)) σ Q :=
  (MW_addL h1 h2 hn).mpr (h _ _ (Pres.app ..) (Nat.le_refl _) List.getElem?_concat_length)
theorem MW_callF' {g : Fun} {vs : List V} {v : V} {st' : Store} {Q : V → S → Prop} (h : g vs σ.st = .ok v st') (q : Q v ⟨st', σ.lo⟩) : MW (callF g vs) σ Q := (MW_callF h).mpr q
end
theorem funM_ex {params : List String} {body : M Fl} {vs : List V} {st : Store} {R : V → Store → Prop} (hl : vs.length = params.length)
    (h : MW body ⟨st, bindP params vs⟩ (fun f σ' => R (match f with | .ret u => u | _ => .none) σ'.st)) : ∃ v st', funM params body vs st = .ok v st' ∧ R v st' := by
  obtain ⟨f, σ', e, h1⟩ := h
  exact ⟨_, _, funM_of hl ⟨f, σ', e, rfl, rfl⟩, h1⟩

section
variable {σ : S}
end
theorem nthV {ns : List Int} {i : Nat} (h : i < ns.length) : nth (ns.map V.int) i = .int (nth ns i) := by
  rw [nth_getElem (by simpa using h), nth_getElem h]; simp
section
variable {σ : S}
end

end Mine


/-! part H7 -/
set_option autoImplicit false
set_option maxRecDepth 100000
set_option linter.unusedVariables false
set_option linter.unusedSimpArgs false
open PySem PySem.W PyProof.Rows
namespace Mine

theorem MW_loopC {nxt : S → Nat → Option (Option V)} {t : V → M Unit} {c : M Bool} {mi : M Unit} {Q : Unit → S → Prop} (N : Nat) (I : Nat → S → Prop)
    (hend : ∀ σ, I N σ → nxt σ N = some none ∧ Q () σ)
    (h : ∀ i σ, i < N → I i σ → ∃ v, nxt σ i = some (some v) ∧ MW (t v) σ (fun _ σ₁ => MW c σ₁ (fun b σ₂ => if b = true then MW mi σ₂ (fun _ σ₃ => I (i + 1) σ₃) else I (i + 1) σ₂)))
    (n : Nat) (σ : S) (hn : N < n) (h0 : I 0 σ) : MW (loopC n t c mi nxt) σ Q := by
  unfold loopC
  rw [MW_bind]
  refine MW_for (Q := fun _ σ' => MW (pure ()) σ' Q) N I (fun σ hI => ⟨(hend σ hI).1, MW_pure.mpr (hend σ hI).2⟩) ?_ n 0 σ (Nat.zero_le _) (by (first | lia | omega)) h0
  intro i σ hi hI
  obtain ⟨v, e, hw⟩ := h i σ hi hI
  refine ⟨v, e, hw.mono fun _ σ₁ h1 => ?_⟩
  unfold compB
  rw [MW_bind]
  refine h1.mono fun b σ₂ h2 => ?_
  cases b with
  | true =>
    simp only [if_true] at h2 ⊢
    rw [MW_bind]
    exact h2.mono fun _ σ₃ h3 => MW_pure.mpr h3
  | false =>
    simp only [Bool.false_eq_true, if_false] at h2 ⊢
    exact MW_pure.mpr h2

theorem MW_compTail {free : List String} {mc : Nat → (S → Nat → Option (Option V)) → M Unit} {v : V} {σ : S} {Q : V → S → Prop} (hok : okIter v σ = .ok () σ)
    (h : MW (mc σ.st.length (nxtOf v)) ⟨σ.st ++ [.lst []], restr free σ.lo⟩ (fun _ σ' => Q (.obj σ.st.length) ⟨σ'.st, σ.lo⟩)) : MW (compTail free mc v) σ Q := by
  obtain ⟨u, σ', e, q⟩ := h
  refine ⟨.obj σ.st.length, ⟨σ'.st, σ.lo⟩, ?_, q⟩
  unfold compTail
  rw [hok]
  dsimp only
  rw [e]

def Agree (st st' : Store) : Prop := ∀ k, k < st.length → st'[k]? = st[k]?

theorem MW_appendAt {l : Nat} {vs : List V} {v : V} {σ : S} {Q : Unit → S → Prop} (h : σ.st[l]? = some (.lst vs)) (hl : l ≠ 0) (hn : vs.length < 1000000) (q : Q () ⟨σ.st.set l (.lst (vs ++ [v])), σ.lo⟩) : MW (appendAt l v) σ Q := by
  unfold appendAt
  rw [MW_bind]
  exact (MW_append h hl hn).mpr (MW_pure.mpr q)

/-- a comprehension whose tests and items leave the store alone -/
theorem MW_compPure {free : List String} {mc : Nat → (S → Nat → Option (Option V)) → M Unit} {t : V → M Unit} {c : M Bool} {e : M V} {n : Nat} {v0 : V} {us : List V} {σ : S} {Q : V → S → Prop} (g : V → Option V)
    (hmc : ∀ l nxt, mc l nxt = loopC n t c (do let v ← e; appendAt l v) nxt)
    (hok : okIter v0 σ = .ok () σ) (h0 : 0 < σ.st.length) (hnx : ∀ σ' i, Agree σ.st σ'.st → nxtOf v0 σ' i = some us[i]?) (hn : us.length < n) (hn2 : us.length < 1000000)
    (h : ∀ v ∈ us, ∀ σ', Agree σ.st σ'.st → (∀ x ∈ free, σ'.lo x = σ.lo x) → MW (t v) σ' (fun _ σ₁ => σ₁.st = σ'.st ∧ (∀ x ∈ free, σ₁.lo x = σ'.lo x) ∧
      MW c σ₁ (fun b σ₂ => σ₂ = σ₁ ∧ (match g v with | none => b = false | some w => b = true ∧ MW e σ₁ (fun u σ₃ => u = w ∧ σ₃ = σ₁)))))
    (q : ∀ k st', Pres [] σ.st st' → σ.st.length ≤ k → st'[k]? = some (.lst (us.filterMap g)) → Q (.obj k) ⟨st', σ.lo⟩) : MW (compTail free mc v0) σ Q := by
  refine MW_compTail hok ?_
  rw [hmc]
  refine MW_loopC us.length (fun i σ' => σ'.st = σ.st ++ [.lst ((us.take i).filterMap g)] ∧ ∀ x ∈ free, σ'.lo x = σ.lo x) ?_ ?_ n _ hn ⟨by simp, fun x hx => by simp only [restr, if_pos hx]⟩
  · rintro σ' ⟨e1, _⟩
    refine ⟨?_, ?_⟩
    · rw [hnx σ' _ (by rw [e1]; intro k hk; exact List.getElem?_append_left hk)]; simp
    · rw [e1, List.take_length]
      exact q _ _ (Pres.app ..) (Nat.le_refl _) List.getElem?_concat_length
  · rintro i σ' hi ⟨e1, e2⟩
    have hag : Agree σ.st σ'.st := by rw [e1]; intro k hk; exact List.getElem?_append_left hk
    refine ⟨us[i], by rw [hnx σ' i hag, List.getElem?_eq_getElem hi], ?_⟩
    refine (h us[i] (List.getElem_mem hi) σ' hag e2).mono fun _ σ₁ h1 => ?_
    obtain ⟨e3, e4, h2⟩ := h1
    refine h2.mono fun b σ₂ h3 => ?_
    obtain ⟨rfl, h3⟩ := h3
    have htake : us.take (i + 1) = us.take i ++ [us[i]] := by rw [List.take_add_one, List.getElem?_eq_getElem hi]; rfl
    cases hg : g us[i] with
    | none =>
      rw [hg] at h3
      simp only at h3
      subst h3
      simp only [Bool.false_eq_true, if_false]
      refine ⟨?_, fun x hx => (e4 x hx).trans (e2 x hx)⟩
      rw [e3, e1, htake, List.filterMap_append]
      simp [hg]
    | some w =>
      rw [hg] at h3
      obtain ⟨rfl, h4⟩ := h3
      simp only [if_true]
      rw [MW_bind]
      refine h4.mono fun u σ₃ h5 => ?_
      obtain ⟨rfl, rfl⟩ := h5
      have hlt : ((us.take i).filterMap g).length < 1000000 := by
        have h6 := List.length_filterMap_le g (us.take i)
        rw [List.length_take] at h6
        (first | lia | omega)
      have hst : σ₃.st = σ.st ++ [.lst ((us.take i).filterMap g)] := e3.trans e1
      refine MW_appendAt (by rw [hst]; exact List.getElem?_concat_length) (by (first | lia | omega)) hlt ⟨?_, fun x hx => (e4 x hx).trans (e2 x hx)⟩
      dsimp only
      rw [hst, htake, List.filterMap_append, List.set_append_right _ _ (Nat.le_refl _)]
      simp [hg]

theorem nxt_obj {l : Nat} {vs : List V} {st : Store} (h : st[l]? = some (.lst vs)) : ∀ (σ' : S) i, Agree st σ'.st → nxtOf (.obj l) σ' i = some vs[i]? := by
  intro σ' i hag
  have : σ'.st[l]? = some (.lst vs) := (hag l (lt_of_get h)).trans h
  show (match σ'.st[l]? with | some (.lst vs) => some vs[i]? | _ => none) = _
  rw [this]
theorem ok_rng {a b c : Int} {σ : S} (h : Builtin.Range.small a b c = true) : okIter (.rng a b c) σ = .ok () σ := by simp only [okIter, h, if_true]
theorem ok_obj {l : Nat} {vs : List V} {σ : S} (h : σ.st[l]? = some (.lst vs)) : okIter (.obj l) σ = .ok () σ := chkL_ok h

end Mine


/-! part H8 -/
set_option autoImplicit false
set_option maxRecDepth 100000
set_option linter.unusedVariables false
set_option linter.unusedSimpArgs false
open PySem PySem.W PyProof.Rows
namespace Mine

section
variable {σ : S}
theorem MW_unpack {n : Nat} {m : List V → M Unit} {vs : List V} {Q : Unit → S → Prop} (h : vs.length = n) : MW (unpackT n m (.tup vs)) σ Q ↔ MW (m vs) σ Q := by
  unfold unpackT; dsimp only; rw [if_pos h]
theorem MW_unpack2 {m : List V → M Unit} {a b : V} {Q : Unit → S → Prop} : MW (unpackT 2 m (.tup [a, b])) σ Q ↔ MW (m [a, b]) σ Q := MW_unpack rfl
theorem MW_consT {m : V → M Unit} {ms : List V → M Unit} {v : V} {vs : List V} {Q : Unit → S → Prop} : MW (consT m ms (v :: vs)) σ Q ↔ MW (m v) σ (fun _ σ' => MW (ms vs) σ' Q) := by
  show MW (m v >>= fun _ => ms vs) σ Q ↔ _
  rw [MW_bind]
theorem MW_sum {l : Nat} {ns : List Int} {Q : V → S → Prop} (h : σ.st[l]? = some (.lst (ns.map V.int))) : MW (sumB [.obj l]) σ Q ↔ Q (.int ns.sum) σ := by
  refine MW_fun_ok ?_
  simp only [sumB, h, intsOf_map]
theorem MW_mulL' {l : Nat} {k : Int} {vs : List V} {Q : V → S → Prop} (h : σ.st[l]? = some (.lst vs)) (hk : 0 ≤ k ∧ k < 1000 ∧ vs.length < 1000)
    (q : ∀ j st', Pres [] σ.st st' → σ.st.length ≤ j → st'[j]? = some (.lst (List.replicate k.toNat vs).flatten) → Q (.obj j) ⟨st', σ.lo⟩) : MW (mulLV (.obj l) (.int k)) σ Q := by
  refine (MW_fun_ok (a := .obj σ.st.length) (σ' := { σ with st := σ.st ++ [.lst (List.replicate k.toNat vs).flatten] }) ?_).mpr (q _ _ (Pres.app ..) (Nat.le_refl _) List.getElem?_concat_length)
  simp only [mulLV, h, if_pos hk]
theorem nxt_objI {l : Nat} {vs : List V} (h : σ.st[l]? = some (.lst vs)) (i : Nat) : nxtOf (.obj l) σ i = some vs[i]? := by
  show (match σ.st[l]? with | some (.lst vs) => some vs[i]? | _ => none) = _
  rw [h]
theorem MW_okL {l : Nat} {vs : List V} {Q : Unit → S → Prop} (h : σ.st[l]? = some (.lst vs)) : MW (okIter (.obj l)) σ Q ↔ Q () σ := MW_fun_ok (ok_obj h)
end

/-! ### ranges -/
theorem rngS_pos {a b c : Int} (hc : 0 < c) : Builtin.Range.rangeSize a b c = if a < b then (b - a - 1) / c + 1 else 0 := by
  unfold Builtin.Range.rangeSize; rw [if_pos hc]
theorem rngU_small {a b c : Int} (ha : -100000 ≤ a ∧ a ≤ 100000) (hb : -100000 ≤ b ∧ b ≤ 100000) (hc : 0 < c ∧ c ≤ 100000) : Builtin.Range.small a b c = true := by
  have hz : 0 ≤ Builtin.Range.rangeSize a b c ∧ Builtin.Range.rangeSize a b c ≤ 300000 := by
    refine ⟨rangeSize_nonneg a b c, ?_⟩
    rw [rngS_pos hc.1]
    split
    · have := Int.ediv_le_self (a := b - a - 1) c (by (first | lia | omega))
      (first | lia | omega)
    · (first | lia | omega)
  unfold Builtin.Range.small
  simp only [Bool.and_eq_true]
  refine ⟨⟨⟨⟨fits_of (by (first | lia | omega)), fits_of (by (first | lia | omega))⟩, fits_of (by (first | lia | omega))⟩, fits_of (by (first | lia | omega))⟩, ?_⟩
  simp only [Bool.or_eq_true]
  right
  rw [if_pos (by (first | lia | omega))]
  exact fits_of (by (first | lia | omega))
/-- range(a, b) as a list -/
theorem nxt_rngU {a b : Int} {n : Nat} (σ : S) (i : Nat) (hn : n = (b - a).toNat) : nxtOf (.rng a b 1) σ i = some ((List.range n).map fun (j : Nat) => V.int (a + j))[i]? := by
  rw [nxt_rng]
  have h1 := rngLen_eq a b 1
  rw [rngS_pos (by (first | lia | omega))] at h1
  have : rngLen a b 1 = n := by split at h1 <;> (first | lia | omega)
  rw [this]
  by_cases hi : i < n
  · rw [if_pos hi]; simp [hi]
  · rw [if_neg hi, List.getElem?_eq_none (by simp; (first | lia | omega))]

section
variable {σ : S}
end
end Mine


/-! part H9 -/
set_option autoImplicit false
set_option maxRecDepth 100000
set_option linter.unusedVariables false
set_option linter.unusedSimpArgs false
open PySem PySem.W PyProof.Rows
namespace Mine

/-! ### tuples of ints -/
def tI (ns : List Int) : V := .tup (ns.map V.int)
theorem toD_tI {st : Store} {n : Nat} (ns : List Int) : toD st (n + 2) (tI ns) = some (.tuple (ns.map PyData.int)) := by
  unfold tI
  rw [toD]
  rw [mapO_ints]; rfl
theorem mapO_tI {st : Store} {n : Nat} : ∀ ts : List (List Int), mapO (toD st (n + 2)) (ts.map tI) = some (ts.map fun t => PyData.tuple (t.map PyData.int))
  | [] => rfl
  | t :: ts => by
    show mapO (toD st (n + 2)) (tI t :: ts.map tI) = _
    unfold mapO
    rw [toD_tI, mapO_tI ts]; rfl
theorem eqv_int (a b : Int) : PyData.eqv (.int a) (.int b) = decide (a = b) := by
  simp only [PyData.eqv]; rfl
theorem eqv_tI (as bs : List Int) : PyData.eqv (.tuple (as.map .int)) (.tuple (bs.map .int)) = decide (as = bs) := by
  simp only [PyData.eqv, eqvAll_ints]
theorem ltAll_ints : ∀ as bs : List Int, ltAll (as.map .int) (bs.map .int) = some (lexB as bs)
  | [], [] => by simp [ltAll, lexB]
  | [], _ :: _ => by simp [ltAll, lexB]
  | _ :: _, [] => by simp [ltAll, lexB]
  | a :: as, b :: bs => by
    simp only [List.map_cons, ltAll, eqv_int, lexB, ltAll_ints as bs]
    by_cases h : a = b
    · subst h; simp
    · simp [h, ltD]
theorem gtAll_ints : ∀ as bs : List Int, gtAll (as.map .int) (bs.map .int) = some (lexB bs as)
  | [], [] => by simp [gtAll, lexB]
  | [], _ :: _ => by simp [gtAll, lexB]
  | _ :: _, [] => by simp [gtAll, lexB]
  | a :: as, b :: bs => by
    simp only [List.map_cons, gtAll, eqv_int, lexB, gtAll_ints as bs]
    by_cases h : a = b
    · subst h; simp
    · simp [h, Ne.symm h, gtD]
theorem ltD_tI (as bs : List Int) : ltD (.tuple (as.map .int)) (.tuple (bs.map .int)) = some (lexB as bs) := by simp only [ltD, ltAll_ints]
theorem gtD_tI (as bs : List Int) : gtD (.tuple (as.map .int)) (.tuple (bs.map .int)) = some (lexB bs as) := by simp only [gtD, gtAll_ints]
section
variable {σ : S}
theorem MW_ltT {as bs : List Int} {Q : V → S → Prop} : MW (ltV (tI as) (tI bs)) σ Q ↔ Q (.bool (lexB as bs)) σ := by
  refine MW_fun_ok ?_
  unfold ltV
  rw [toD_tI, toD_tI]
  simp only [ltD_tI]
theorem MW_eqT {as bs : List Int} {Q : V → S → Prop} : MW (eqV (tI as) (tI bs)) σ Q ↔ Q (.bool (decide (as = bs))) σ := by
  refine MW_fun_ok ?_
  unfold eqV
  rw [toD_tI, toD_tI]
  simp only [eqv_tI]
theorem MW_neT {as bs : List Int} {Q : V → S → Prop} : MW (neV (tI as) (tI bs)) σ Q ↔ Q (.bool (!decide (as = bs))) σ := by
  refine MW_fun_ok ?_
  unfold neV
  rw [toD_tI, toD_tI]
  simp only [eqv_tI]
theorem MW_eqTL {l k : Nat} {as bs : List (List Int)} {Q : V → S → Prop} (h1 : σ.st[l]? = some (.lst (as.map tI))) (h2 : σ.st[k]? = some (.lst (bs.map tI))) : MW (eqV (.obj l) (.obj k)) σ Q ↔ Q (.bool (decide (as = bs))) σ := by
  refine MW_fun_ok ?_
  have e : ∀ {l : Nat} {ts : List (List Int)}, σ.st[l]? = some (.lst (ts.map tI)) → toD σ.st 6 (.obj l) = some (.list (ts.map fun t => PyData.tuple (t.map PyData.int))) := by
    intro l ts h
    rw [toD]
    simp only [h]
    rw [mapO_tI]; rfl
  unfold eqV
  rw [e h1, e h2]
  have : ∀ as bs : List (List Int), PyData.eqvAll (as.map fun t => PyData.tuple (t.map PyData.int)) (bs.map fun t => PyData.tuple (t.map PyData.int)) = decide (as = bs) := by
    intro as
    induction as with
    | nil => intro bs; cases bs <;> simp [PyData.eqvAll]
    | cons a as ih =>
      intro bs
      cases bs with
      | nil => simp [PyData.eqvAll]
      | cons b bs =>
        simp only [List.map_cons, PyData.eqvAll, eqv_tI, ih]
        by_cases h : a = b
        · subst h; simp
        · simp [h]
  simp only [PyData.eqv, this]
theorem MW_min2T {as bs : List Int} {Q : V → S → Prop} : MW (minD [tI as, tI bs]) σ Q ↔ Q (tI (if lexB bs as = true then bs else as)) σ := by
  refine MW_fun_ok ?_
  have e : minD [tI as, tI bs] σ = minL [tI as, tI bs] σ := rfl
  rw [e]
  unfold minL
  have hm := mapO_tI (st := σ.st) (n := 4) [as, bs]
  simp only [List.map_cons, List.map_nil] at hm
  rw [hm]
  dsimp only
  rw [if_pos]
  · congr 1
    simp only [List.length_cons, List.length_nil, Nat.add_one_sub_one, argBest, btOf, List.getElem?_cons_zero, List.getElem?_cons_succ, ltD_tI, Option.getD_some]
    cases lexB bs as <;> rfl
  · simp [allCmp, ltD_tI]
theorem MW_max2T {as bs : List Int} {Q : V → S → Prop} : MW (maxD [tI as, tI bs]) σ Q ↔ Q (tI (if lexB as bs = true then bs else as)) σ := by
  refine MW_fun_ok ?_
  have e : maxD [tI as, tI bs] σ = maxL [tI as, tI bs] σ := rfl
  rw [e]
  unfold maxL
  have hm := mapO_tI (st := σ.st) (n := 4) [as, bs]
  simp only [List.map_cons, List.map_nil] at hm
  rw [hm]
  dsimp only
  rw [if_pos]
  · congr 1
    simp only [List.length_cons, List.length_nil, Nat.add_one_sub_one, argBest, btOf, List.getElem?_cons_zero, List.getElem?_cons_succ, gtD_tI, Option.getD_some]
    cases lexB as bs <;> rfl
  · simp [allCmp, gtD_tI]
theorem MW_min2I {a b : Int} {Q : V → S → Prop} : MW (minD [.int a, .int b]) σ Q ↔ Q (.int (if b < a then b else a)) σ := by
  refine MW_fun_ok ?_
  have e : minD [.int a, .int b] σ = minL [.int a, .int b] σ := rfl
  rw [e]
  unfold minL
  have hm := mapO_ints (st := σ.st) (n := 5) [a, b]
  simp only [List.map_cons, List.map_nil] at hm
  rw [hm]
  dsimp only
  rw [if_pos]
  · congr 1
    simp only [List.length_cons, List.length_nil, Nat.add_one_sub_one, argBest, btOf, List.getElem?_cons_zero, List.getElem?_cons_succ, ltD, Option.getD_some, decide_eq_true_eq]
    split <;> rfl
  · simp [allCmp, ltD]
end
/-- the best of a row -/
theorem argBest_best (bt : Nat → Nat → Bool) (n : Nat) (tr : ∀ i j k, i ≤ n → j ≤ n → k ≤ n → bt i j = false → bt j k = false → bt i k = false) (as : ∀ i j, i ≤ n → j ≤ n → bt i j = true → bt j i = false) :
    ∀ k, k ≤ n → argBest bt k ≤ k ∧ ∀ i, i ≤ k → bt i (argBest bt k) = false := by
  intro k
  induction k with
  | zero =>
    intro _
    refine ⟨Nat.le_refl _, fun i hi => ?_⟩
    have : i = 0 := by (first | lia | omega)
    subst this
    show bt 0 0 = false
    cases h : bt 0 0 with
    | false => rfl
    | true => have := as 0 0 (by (first | lia | omega)) (by (first | lia | omega)) h; rw [h] at this; cases this
  | succ k ih =>
    intro hk
    obtain ⟨h1, h2⟩ := ih (by (first | lia | omega))
    have irr : ∀ i, i ≤ n → bt i i = false := by
      intro i hi
      cases h : bt i i with
      | false => rfl
      | true => have := as i i hi hi h; rw [h] at this; cases this
    unfold argBest
    split
    · rename_i hb
      refine ⟨Nat.le_refl _, fun i hi => ?_⟩
      rcases Nat.lt_or_ge i (k + 1) with h3 | h3
      · exact tr i (argBest bt k) (k + 1) (by (first | lia | omega)) (by (first | lia | omega)) (by (first | lia | omega)) (h2 i (by (first | lia | omega))) (as _ _ (by (first | lia | omega)) (by (first | lia | omega)) hb)
      · have : i = k + 1 := by (first | lia | omega)
        subst this; exact irr _ (by (first | lia | omega))
    · rename_i hb
      refine ⟨by (first | lia | omega), fun i hi => ?_⟩
      rcases Nat.lt_or_ge i (k + 1) with h3 | h3
      · exact h2 i (by (first | lia | omega))
      · have : i = k + 1 := by (first | lia | omega)
        subst this; simpa using hb
section
variable {σ : S}
theorem MW_minLT {l : Nat} {ts : List (List Int)} {Q : V → S → Prop} (h : σ.st[l]? = some (.lst (ts.map tI))) (h0 : 0 < ts.length) (q : ∀ t ∈ ts, (∀ u ∈ ts, lexB u t = false) → Q (tI t) σ) : MW (minD [.obj l]) σ Q := by
  have e : minD [.obj l] σ = minL (ts.map tI) σ := by
    show (match σ.st[l]? with | some (.lst vs) => minL vs σ | _ => .stuck) = _
    rw [h]
  generalize hds : ts.map (fun t => PyData.tuple (t.map PyData.int)) = ds
  have hget : ∀ i (hi : i < ts.length), ds[i]? = some (PyData.tuple (ts[i].map PyData.int)) := by
    intro i hi; rw [← hds, List.getElem?_map, List.getElem?_eq_getElem hi]; rfl
  have hbt : ∀ i j (hi : i < ts.length) (hj : j < ts.length), btOf ltD ds i j = lexB ts[i] ts[j] := by
    intro i j hi hj
    unfold btOf
    rw [hget i hi, hget j hj]
    dsimp only
    rw [ltD_tI]; rfl
  have hb := argBest_best (btOf ltD ds) (ts.length - 1)
    (fun i j k hi hj hk h1 h2 => by
      rw [hbt i j (by (first | lia | omega)) (by (first | lia | omega))] at h1
      rw [hbt j k (by (first | lia | omega)) (by (first | lia | omega))] at h2
      rw [hbt i k (by (first | lia | omega)) (by (first | lia | omega))]
      exact lexB_trans _ _ _ h2 h1)
    (fun i j hi hj h1 => by
      rw [hbt i j (by (first | lia | omega)) (by (first | lia | omega))] at h1
      rw [hbt j i (by (first | lia | omega)) (by (first | lia | omega))]
      exact lexB_asymm _ _ h1) (ts.length - 1) (Nat.le_refl _)
  have hlt : argBest (btOf ltD ds) (ts.length - 1) < ts.length := by (first | lia | omega)
  refine (MW_fun_ok (a := tI ts[argBest (btOf ltD ds) (ts.length - 1)]) (σ' := σ) ?_).mpr (q _ (List.getElem_mem hlt) ?_)
  · rw [e]
    unfold minL
    rw [mapO_tI, hds]
    dsimp only
    rw [List.length_map, if_pos]
    · congr 1
      rw [List.getD_eq_getElem?_getD, List.getElem?_map, List.getElem?_eq_getElem hlt]; rfl
    · refine ⟨h0, ?_⟩
      unfold allCmp
      rw [← hds]
      simp [List.all_map, ltD_tI]
  · intro u hu
    obtain ⟨i, hi, rfl⟩ := List.mem_iff_getElem.mp hu
    rw [← hbt i _ hi hlt]
    exact hb.2 i (by (first | lia | omega))
theorem MW_maxLI {l : Nat} {ns : List Int} {Q : V → S → Prop} (h : σ.st[l]? = some (.lst (ns.map V.int))) (h0 : 0 < ns.length) (q : ∀ t ∈ ns, (∀ u ∈ ns, u ≤ t) → Q (.int t) σ) : MW (maxD [.obj l]) σ Q := by
  have e : maxD [.obj l] σ = maxL (ns.map V.int) σ := by
    show (match σ.st[l]? with | some (.lst vs) => maxL vs σ | _ => .stuck) = _
    rw [h]
  generalize hds : ns.map PyData.int = ds
  have hget : ∀ i (hi : i < ns.length), ds[i]? = some (PyData.int ns[i]) := by
    intro i hi; rw [← hds, List.getElem?_map, List.getElem?_eq_getElem hi]; rfl
  have hbt : ∀ i j (hi : i < ns.length) (hj : j < ns.length), btOf gtD ds i j = decide (ns[j] < ns[i]) := by
    intro i j hi hj
    unfold btOf
    rw [hget i hi, hget j hj]
    simp [gtD]
  have hb := argBest_best (btOf gtD ds) (ns.length - 1)
    (fun i j k hi hj hk h1 h2 => by
      rw [hbt i j (by (first | lia | omega)) (by (first | lia | omega))] at h1
      rw [hbt j k (by (first | lia | omega)) (by (first | lia | omega))] at h2
      rw [hbt i k (by (first | lia | omega)) (by (first | lia | omega))]
      simp only [decide_eq_false_iff_not] at h1 h2 ⊢; (first | lia | omega))
    (fun i j hi hj h1 => by
      rw [hbt i j (by (first | lia | omega)) (by (first | lia | omega))] at h1
      rw [hbt j i (by (first | lia | omega)) (by (first | lia | omega))]
      simp only [decide_eq_false_iff_not, decide_eq_true_eq] at h1 ⊢; (first | lia | omega)) (ns.length - 1) (Nat.le_refl _)
  have hlt : argBest (btOf gtD ds) (ns.length - 1) < ns.length := by (first | lia | omega)
  refine (MW_fun_ok (a := .int ns[argBest (btOf gtD ds) (ns.length - 1)]) (σ' := σ) ?_).mpr (q _ (List.getElem_mem hlt) ?_)
  · rw [e]
    unfold maxL
    rw [mapO_ints, hds]
    dsimp only
    rw [List.length_map, if_pos]
    · congr 1
      rw [List.getD_eq_getElem?_getD, List.getElem?_map, List.getElem?_eq_getElem hlt]; rfl
    · refine ⟨h0, ?_⟩
      unfold allCmp
      rw [← hds]
      simp [List.all_map, gtD]
  · intro u hu
    obtain ⟨i, hi, rfl⟩ := List.mem_iff_getElem.mp hu
    have := hb.2 i (by (first | lia | omega))
    rw [hbt i _ hi hlt] at this
    simp only [decide_eq_false_iff_not] at this; (first | lia | omega)
theorem any_ints (k : Int) (ns : List Int) : (ns.map PyData.int).any (fun y => PyData.eqv y (.int k)) = decide (k ∈ ns) := by
  induction ns with
  | nil => rfl
  | cons a ns ih =>
    simp only [List.map_cons, List.any_cons, ih, eqv_int, List.mem_cons]
    by_cases h : a = k
    · subst h; simp
    · simp [h, Ne.symm h]
theorem MW_inL {l : Nat} {k : Int} {ns : List Int} {Q : V → S → Prop} (h : σ.st[l]? = some (.lst (ns.map V.int))) : MW (inV (.int k) (.obj l)) σ Q ↔ Q (.bool (decide (k ∈ ns))) σ := by
  refine MW_fun_ok ?_
  unfold inV
  rw [toD_int, toD_intL h]
  simp only [inD, any_ints]
theorem MW_notInL {l : Nat} {k : Int} {ns : List Int} {Q : V → S → Prop} (h : σ.st[l]? = some (.lst (ns.map V.int))) : MW (notInV (.int k) (.obj l)) σ Q ↔ Q (.bool (!decide (k ∈ ns))) σ := by
  refine MW_fun_ok ?_
  unfold notInV
  rw [toD_int, toD_intL h]
  simp only [inD, any_ints]
theorem MW_inT {k : Int} {ns : List Int} {Q : V → S → Prop} : MW (inV (.int k) (tI ns)) σ Q ↔ Q (.bool (decide (k ∈ ns))) σ := by
  refine MW_fun_ok ?_
  unfold inV
  rw [toD_int, toD_tI]
  simp only [inD, any_ints]
theorem MW_getTI {ns : List Int} {j : Nat} {k : Int} {Q : V → S → Prop} (hk : k = j) (hj : j < ns.length) : MW (getI (tI ns) (.int k)) σ Q ↔ Q (.int (nth ns j)) σ := by
  subst hk
  unfold tI
  refine MW_getT (j := j) (by rw [ix_nat, if_pos (by simpa using hj)]) ?_
  rw [nth_eq (by simpa using hj), nthV hj]
theorem MW_index {l : Nat} {k : Int} {ns : List Int} {Q : V → S → Prop} (h : σ.st[l]? = some (.lst (ns.map V.int))) (hk : k ∈ ns) (hl : PyData.layable0 (.list (ns.map .int)) = true) : MW (indexG (.obj l) [.int k]) σ Q ↔ Q (.int (ns.idxOf k : Nat)) σ := by
  refine MW_fun_ok ?_
  simp only [indexG, h, intsOf_map]
  rw [if_pos ⟨hk, hl⟩]
theorem lay_small {ns : List Int} (h : ∀ k ∈ ns, 0 ≤ k ∧ k < 1000) (hn : ns.length ≤ 1000) : PyData.layable0 (.list (ns.map .int)) = true := by
  unfold PyData.layable0
  have h1 : ∀ ns : List Int, PyData.canLayAll0 (ns.map .int) = true := by
    intro ns
    induction ns with
    | nil => rfl
    | cons a ns ih => simp [PyData.canLayAll0, PyData.canLay0, ih]
  have h2 : ∀ ns : List Int, PyData.depthAll (ns.map .int) ≤ 1 := by
    intro ns
    induction ns with
    | nil => simp [PyData.depthAll]
    | cons a ns ih => simp [PyData.depthAll, PyData.depth]; (first | lia | omega)
  have h3 : ∀ ns : List Int, (∀ k ∈ ns, 0 ≤ k ∧ k < 1000) → PyData.weightAll (ns.map .int) ≤ 12 * ns.length := by
    intro ns
    induction ns with
    | nil => intro _; simp [PyData.weightAll]
    | cons a ns ih =>
      intro hk
      have := ih fun k hk' => hk k (List.mem_cons_of_mem _ hk')
      have ha := hk a List.mem_cons_self
      have hlog : a.natAbs.log2 ≤ 10 := by
        rcases Nat.eq_zero_or_pos a.natAbs with h0 | h0
        · rw [h0]; decide
        · have := (Nat.log2_lt (by (first | lia | omega)) (k := 11)).mpr (show a.natAbs < 2 ^ 11 by (first | lia | omega))
          (first | lia | omega)
      simp only [List.map_cons, PyData.weightAll, PyData.weight, List.length_cons]
      split <;> (first | lia | omega)
  have e1 : PyData.canLay0 (.list (ns.map .int)) = true := by simp only [PyData.canLay0]; exact h1 ns
  have e2 : PyData.depth (.list (ns.map .int)) ≤ 64 := by simp only [PyData.depth]; have := h2 ns; (first | lia | omega)
  have e3 : PyData.weight (.list (ns.map .int)) ≤ 2 ^ 20 := by simp only [PyData.weight]; have := h3 ns h; (first | lia | omega)
  simp [e1, e2, e3]
end
def ltT (a b : V) : Bool := match tupInts a, tupInts b with
  | some x, some y => lexB x y
  | _, _ => false
def IsT1 (v : V) : Prop := ∃ ns, ns ≠ [] ∧ v = tI ns
theorem tupInts_tI {ns : List Int} (h : ns ≠ []) : tupInts (tI ns) = some ns := by
  unfold tI
  cases ns with
  | nil => exact absurd rfl h
  | cons a r => simp [tupInts, intsOf, intsOf_map]
theorem ltT_tI {as bs : List Int} (ha : as ≠ []) (hb : bs ≠ []) : ltT (tI as) (tI bs) = lexB as bs := by
  unfold ltT
  rw [tupInts_tI ha, tupInts_tI hb]
theorem ltAt_tup (st : Store) (l : Nat) : LtAtL st l IsT1 ltT := by
  rintro ws _ _ ⟨a, ha, rfl⟩ ⟨b, hb, rfl⟩ lo
  unfold ltV
  rw [toD_tI, toD_tI]
  simp only [ltD_tI, ltT_tI ha hb]
theorem swo_tup : SWO IsT1 ltT where
  asymm := by
    rintro _ _ ⟨a, ha, rfl⟩ ⟨b, hb, rfl⟩ h
    rw [ltT_tI ha hb] at h
    rw [ltT_tI hb ha]
    exact lexB_asymm _ _ h
  trans := by
    rintro _ _ _ ⟨a, ha, rfl⟩ ⟨b, hb, rfl⟩ ⟨c, hc, rfl⟩ h1 h2
    first
    | (rw [ltT_tI ha hb] at h1; rw [ltT_tI hb hc] at h2; rw [ltT_tI ha hc]; exact lexB_trans _ _ _ h2 h1)
    | (rw [ltT_tI hb ha] at h1; rw [ltT_tI hc hb] at h2; rw [ltT_tI hc ha]; exact lexB_trans _ _ _ h1 h2)
end Mine


/-! part H10 -/
set_option autoImplicit false
set_option maxRecDepth 100000
set_option linter.unusedVariables false
set_option linter.unusedSimpArgs false
open PySem PySem.W PyProof.Rows
namespace Mine

/-- one statement after the other, the rest unseen -/
theorem MW_seqR {σ : S} {a b : M Fl} {Q : Fl → S → Prop} (h : ∀ R, b = R → MW a σ (fun f σ' => match f with | .next => MW R σ' Q | .brk => Q .brk σ' | .cont => Q .cont σ' | .ret v => Q (.ret v) σ')) : MW (seqM a b) σ Q := MW_seq.mpr (h b rfl)

/-- a comprehension whose items may make new lists -/
theorem MW_compGrow {free : List String} {mc : Nat → (S → Nat → Option (Option V)) → M Unit} {t : V → M Unit} {c : M Bool} {e : M V} {n : Nat} {v0 : V} {us : List V} {σ : S} {Q : V → S → Prop} (g : V → Option V)
    (hmc : ∀ l nxt, mc l nxt = loopC n t c (do let v ← e; appendAt l v) nxt)
    (hok : okIter v0 σ = .ok () σ) (h0 : 0 < σ.st.length) (hnx : ∀ σ' i, Agree σ.st σ'.st → nxtOf v0 σ' i = some us[i]?) (hn : us.length < n) (hn2 : us.length < 1000000)
    (h : ∀ v ∈ us, ∀ σ', Agree σ.st σ'.st → (∀ x ∈ free, σ'.lo x = σ.lo x) → MW (t v) σ' (fun _ σ₁ => σ₁.st = σ'.st ∧ (∀ x ∈ free, σ₁.lo x = σ'.lo x) ∧
      MW c σ₁ (fun b σ₂ => σ₂ = σ₁ ∧ (match g v with | none => b = false | some w => b = true ∧ MW e σ₁ (fun u σ₃ => u = w ∧ Pres [] σ₁.st σ₃.st ∧ ∀ x ∈ free, σ₃.lo x = σ₁.lo x)))))
    (q : ∀ k st', Pres [] σ.st st' → σ.st.length ≤ k → st'[k]? = some (.lst (us.filterMap g)) → Q (.obj k) ⟨st', σ.lo⟩) : MW (compTail free mc v0) σ Q := by
  refine MW_compTail hok ?_
  rw [hmc]
  refine MW_loopC us.length (fun i σ' => Pres [] σ.st σ'.st ∧ σ'.st[σ.st.length]? = some (.lst ((us.take i).filterMap g)) ∧ ∀ x ∈ free, σ'.lo x = σ.lo x) ?_ ?_ n _ hn ⟨Pres.app .., by simp, fun x hx => by simp only [restr, if_pos hx]⟩
  · rintro σ' ⟨e1, e2, _⟩
    have hag : Agree σ.st σ'.st := fun k hk => e1.2 k hk (by simp)
    refine ⟨?_, ?_⟩
    · rw [hnx σ' _ hag]; simp
    · rw [List.take_length] at e2
      exact q _ _ e1 (Nat.le_refl _) e2
  · rintro i σ' hi ⟨e0, e1, e2⟩
    have hag : Agree σ.st σ'.st := fun k hk => e0.2 k hk (by simp)
    refine ⟨us[i], by rw [hnx σ' i hag, List.getElem?_eq_getElem hi], ?_⟩
    refine (h us[i] (List.getElem_mem hi) σ' hag e2).mono fun _ σ₁ h1 => ?_
    obtain ⟨e3, e4, h2⟩ := h1
    refine h2.mono fun b σ₂ h3 => ?_
    obtain ⟨rfl, h3⟩ := h3
    have htake : us.take (i + 1) = us.take i ++ [us[i]] := by rw [List.take_add_one, List.getElem?_eq_getElem hi]; rfl
    cases hg : g us[i] with
    | none =>
      rw [hg] at h3
      simp only at h3
      subst h3
      simp only [Bool.false_eq_true, if_false]
      refine ⟨by rw [e3]; exact e0, ?_, fun x hx => (e4 x hx).trans (e2 x hx)⟩
      rw [e3, e1, htake, List.filterMap_append]
      simp [hg]
    | some w =>
      rw [hg] at h3
      obtain ⟨rfl, h4⟩ := h3
      simp only [if_true]
      rw [MW_bind]
      refine h4.mono fun u σ₃ h5 => ?_
      obtain ⟨rfl, h6, h7⟩ := h5
      have hlt : ((us.take i).filterMap g).length < 1000000 := by
        have h6 := List.length_filterMap_le g (us.take i)
        rw [List.length_take] at h6
        (first | lia | omega)
      have hst : σ₃.st[σ.st.length]? = some (.lst ((us.take i).filterMap g)) := h6.get0 (by rw [e3]; exact e1)
      refine MW_appendAt hst (by (first | lia | omega)) hlt ⟨?_, ?_, fun x hx => (h7 x hx).trans ((e4 x hx).trans (e2 x hx))⟩
      · have p3 : Pres [] σ.st σ₃.st := e0.trans (by rw [e3] at h6; exact h6)
        exact ⟨by rw [List.length_set]; exact p3.1, fun k hk _ => by rw [List.getElem?_set_ne (by (first | lia | omega))]; exact p3.2 k hk (by simp)⟩
      · dsimp only
        rw [set_self (lt_of_get hst), htake, List.filterMap_append]
        simp [hg]

/-! ### loops over general iterators -/
theorem MW_forN {nx : Nat → M (Option V)} {t : V → M Unit} {b : M Fl} {Q : Fl → S → Prop} (N : Nat) (I : Nat → S → Prop)
    (hend : ∀ σ, I N σ → MW (nx N) σ (fun o σ' => o = none ∧ Q .next σ'))
    (h : ∀ i σ, i < N → I i σ → MW (nx i) σ (fun o σ₀ => ∃ v, o = some v ∧ MW (t v) σ₀ (fun _ σ₁ => MW b σ₁ (fun f σ₂ => match f with | .next => I (i + 1) σ₂ | .cont => I (i + 1) σ₂ | .brk => Q .next σ₂ | .ret v => Q (.ret v) σ₂)))) :
    ∀ (n i : Nat) (σ : S), i ≤ N → N - i < n → I i σ → MW (forN nx t b n i) σ Q := by
  intro n
  induction n with
  | zero => intro i σ _ hk; (first | lia | omega)
  | succ n ih =>
    intro i σ hi hk hI
    by_cases hN : i = N
    · subst hN
      obtain ⟨o, σ', e, rfl, q⟩ := hend σ hI
      refine ⟨.next, σ', ?_, q⟩
      rw [forN]; dsimp only; rw [e]
    · obtain ⟨o, σ₀, e, v, rfl, hw⟩ := h i σ (by (first | lia | omega)) hI
      have key : MW (do
        t v
        match ← b with
        | .next => forN nx t b n (i + 1)
        | .cont => forN nx t b n (i + 1)
        | .brk => pure .next
        | .ret v => pure (.ret v)) σ₀ Q := by
        rw [MW_bind]
        refine hw.mono fun _ σ₁ h1 => ?_
        rw [MW_bind]
        refine h1.mono fun f σ₂ hf => ?_
        cases f with
        | next => exact ih (i + 1) σ₂ (by (first | lia | omega)) (by (first | lia | omega)) hf
        | cont => exact ih (i + 1) σ₂ (by (first | lia | omega)) (by (first | lia | omega)) hf
        | brk => exact MW_pure.mpr hf
        | ret v => exact MW_pure.mpr hf
      obtain ⟨a, σ', e2, q⟩ := key
      refine ⟨a, σ', ?_, q⟩
      rw [forN]; dsimp only; rw [e]; exact e2
theorem MW_loopCG {nx : Nat → M (Option V)} {t : V → M Unit} {c : M Bool} {mi : M Unit} {Q : Unit → S → Prop} (N : Nat) (I : Nat → S → Prop)
    (hend : ∀ σ, I N σ → MW (nx N) σ (fun o σ' => o = none ∧ Q () σ'))
    (h : ∀ i σ, i < N → I i σ → MW (nx i) σ (fun o σ₀ => ∃ v, o = some v ∧ MW (t v) σ₀ (fun _ σ₁ => MW c σ₁ (fun b σ₂ => if b = true then MW mi σ₂ (fun _ σ₃ => I (i + 1) σ₃) else I (i + 1) σ₂))))
    (n : Nat) (σ : S) (hn : N < n) (h0 : I 0 σ) : MW (loopCG n t c mi nx) σ Q := by
  unfold loopCG
  rw [MW_bind]
  refine MW_forN (Q := fun _ σ' => MW (pure ()) σ' Q) N I (fun σ hI => (hend σ hI).mono fun o σ' h => ⟨h.1, MW_pure.mpr h.2⟩) ?_ n 0 σ (Nat.zero_le _) (by (first | lia | omega)) h0
  intro i σ hi hI
  refine (h i σ hi hI).mono fun o σ₀ h0 => ?_
  obtain ⟨v, rfl, hw⟩ := h0
  refine ⟨v, rfl, hw.mono fun _ σ₁ h1 => ?_⟩
  unfold compB
  rw [MW_bind]
  refine h1.mono fun b σ₂ h2 => ?_
  cases b with
  | true =>
    simp only [if_true] at h2 ⊢
    rw [MW_bind]
    exact h2.mono fun _ σ₃ h3 => MW_pure.mpr h3
  | false =>
    simp only [Bool.false_eq_true, if_false] at h2 ⊢
    exact MW_pure.mpr h2
theorem MW_compTailG {free : List String} {mc : Nat → (Nat → M (Option V)) → M Unit} {nx : Nat → M (Option V)} {σ : S} {Q : V → S → Prop}
    (h : MW (mc σ.st.length nx) ⟨σ.st ++ [.lst []], restr free σ.lo⟩ (fun _ σ' => Q (.obj σ.st.length) ⟨σ'.st, σ.lo⟩)) : MW (compTailG free mc nx) σ Q := by
  obtain ⟨u, σ', e, q⟩ := h
  refine ⟨.obj σ.st.length, ⟨σ'.st, σ.lo⟩, ?_, q⟩
  unfold compTailG
  rw [e]
/-- [e for i, x in enumerate(row)] where e leaves the store alone -/
theorem MW_compEnum {free : List String} {mc : Nat → (Nat → M (Option V)) → M Unit} {t : V → M Unit} {e : M V} {n l : Nat} {us : List V} {σ : S} {Q : V → S → Prop} (g : Nat → V → V)
    (hmc : ∀ l nx, mc l nx = loopCG n t (pure true) (do let v ← e; appendAt l v) nx) (hl : σ.st[l]? = some (.lst us)) (hn : us.length < n) (hn2 : us.length < 1000000)
    (h : ∀ (i : Nat) v, us[i]? = some v → ∀ σ', MW (t (.tup [.int (i : Int), v])) σ' (fun _ σ₁ => σ₁.st = σ'.st ∧ MW e σ₁ (fun u σ₃ => u = g i v ∧ σ₃.st = σ₁.st)))
    (q : ∀ k st', Pres [] σ.st st' → σ.st.length ≤ k → st'[k]? = some (.lst ((List.range us.length).map fun i => g i (us.getD i .none))) → Q (.obj k) ⟨st', σ.lo⟩) : MW (enumIt (.obj l) >>= compTailG free mc) σ Q := by
  rw [MW_bind]
  refine (MW_fun_ok (a := nxEnum l) (σ' := σ) (by simp only [enumIt, hl])).mpr ?_
  refine MW_compTailG ?_
  rw [hmc]
  have hll := lt_of_get hl
  have hnx : ∀ (σ' : S) i, σ'.st[l]? = some (.lst us) → nxEnum l i σ' = .ok (us[i]?.map fun v => .tup [.int (i : Int), v]) σ' := by
    intro σ' i h; simp only [nxEnum, h]
  refine MW_loopCG us.length (fun i σ' => σ'.st = σ.st ++ [.lst ((List.range i).map fun i => g i (us.getD i .none))]) ?_ ?_ n _ hn (by simp)
  · intro σ' e1
    have hl' : σ'.st[l]? = some (.lst us) := by rw [e1, List.getElem?_append_left hll]; exact hl
    refine (MW_fun_ok (hnx σ' _ hl')).mpr ⟨by simp, ?_⟩
    rw [e1]
    exact q _ _ (Pres.app ..) (Nat.le_refl _) List.getElem?_concat_length
  · intro i σ' hi e1
    have hl' : σ'.st[l]? = some (.lst us) := by rw [e1, List.getElem?_append_left hll]; exact hl
    refine (MW_fun_ok (hnx σ' _ hl')).mpr ⟨.tup [.int (i : Int), us[i]], by rw [List.getElem?_eq_getElem hi]; rfl, ?_⟩
    refine (h i us[i] (List.getElem?_eq_getElem hi) σ').mono fun _ σ₁ h1 => ?_
    obtain ⟨e2, h2⟩ := h1
    rw [MW_pure, if_pos rfl, MW_bind]
    refine h2.mono fun u σ₃ h3 => ?_
    obtain ⟨rfl, e3⟩ := h3
    have hst : σ₃.st = σ.st ++ [.lst ((List.range i).map fun i => g i (us.getD i .none))] := by rw [e3, e2, e1]
    refine MW_appendAt (by rw [hst]; exact List.getElem?_concat_length) (by (first | lia | omega)) (by simp; (first | lia | omega)) ?_
    dsimp only
    rw [hst, List.set_append_right _ _ (Nat.le_refl _), List.range_succ, List.map_append]
    simp [List.getElem?_eq_getElem hi]
theorem pickV_map {α β : Type} (f : α → β) (vs : List α) (lo hi st : Option Int) : pickV (vs.map f) lo hi st = (pickV vs lo hi st).map f := by
  unfold pickV
  rw [List.length_map, List.map_filterMap]
  congr 1
  funext i
  simp
theorem MW_sliceS {l : Nat} {vs : List V} {a b c : V} {lo hi st : Option Int} {σ : S} {Q : V → S → Prop} (hl : σ.st[l]? = some (.lst vs)) (ha : partO a = some lo) (hb : partO b = some hi) (hc : partO c = some st) (h0 : st ≠ some 0)
    (h : ∀ k st', Pres [] σ.st st' → σ.st.length ≤ k → st'[k]? = some (.lst (pickV vs lo hi st)) → Q (.obj k) ⟨st', σ.lo⟩) : MW (sliceV (.obj l) (a, b, c)) σ Q := by
  refine (MW_fun_ok (a := .obj σ.st.length) (σ' := { σ with st := σ.st ++ [.lst (pickV vs lo hi st)] }) ?_).mpr (h _ _ (Pres.app ..) (Nat.le_refl _) List.getElem?_concat_length)
  simp only [sliceV, hl, ha, hb, hc, if_neg h0]
theorem perm_map_inv {α β : Type} {f : α → β} {g : β → α} (hg : ∀ a, g (f a) = a) {ys : List β} {xs : List α} (h : ys.Perm (xs.map f)) : ∃ zs : List α, zs.Perm xs ∧ ys = zs.map f := by
  refine ⟨ys.map g, ?_, ?_⟩
  · have := h.map g
    rwa [List.map_map, show g ∘ f = id from funext hg, List.map_id] at this
  · rw [List.map_map]
    conv => lhs; rw [← List.map_id ys]
    refine List.map_congr_left fun y hy => ?_
    obtain ⟨a, _, rfl⟩ := List.mem_map.mp (h.mem_iff.mp hy)
    simp [hg]
theorem nodup_lt_length : ∀ {n : Nat} {xs : List Nat}, xs.Nodup → (∀ x ∈ xs, x < n) → xs.length ≤ n := by
  intro n
  induction n with
  | zero =>
    intro xs _ h
    cases xs with
    | nil => simp
    | cons a r => have := h a List.mem_cons_self; (first | lia | omega)
  | succ n ih =>
    intro xs h1 h2
    have h3 : (xs.erase n).length ≤ n := ih (h1.erase n) fun x hx => by
      have := h2 x (List.mem_of_mem_erase hx)
      have hne : x ≠ n := ((List.Nodup.mem_erase_iff h1).mp hx).1
      (first | lia | omega)
    have h4 := List.length_erase (a := n) (l := xs)
    split at h4 <;> (first | lia | omega)
end Mine


/-! part P02 -/
set_option autoImplicit false
set_option linter.unusedVariables false
namespace Mine

/-! ### ways: weight, one end, the other end -/
abbrev Wy := Int × Nat × Nat
section
variable (ws : List Wy)
def Joins (i x y : Nat) : Prop := ∃ p, ws[i]? = some p ∧ ((p.2.1 = x ∧ p.2.2 = y) ∨ (p.2.1 = y ∧ p.2.2 = x))
def keyOf (i : Nat) : List Int := [(ws[i]?.map (·.1)).getD 0, (i : Int)]
def kl (i j : Nat) : Prop := lexB (keyOf ws i) (keyOf ws j) = true
inductive Conn (p : Nat → Prop) (a : Nat) : Nat → Prop
  | refl : Conn p a a
  | step {b c i : Nat} : Conn p a b → Joins ws i b c → p i → Conn p a c
end
section
variable {ws : List Wy} {p : Nat → Prop}
theorem Joins.symm {i x y : Nat} (h : Joins ws i x y) : Joins ws i y x := by
  obtain ⟨q, e, h⟩ := h; exact ⟨q, e, h.symm⟩
theorem Conn.trans {a b c : Nat} (h1 : Conn ws p a b) (h2 : Conn ws p b c) : Conn ws p a c := by
  induction h2 with
  | refl => exact h1
  | step _ hj hp ih => exact .step ih hj hp
theorem Conn.one {a b i : Nat} (hj : Joins ws i a b) (hp : p i) : Conn ws p a b := .step .refl hj hp
theorem Conn.symm {a b : Nat} (h : Conn ws p a b) : Conn ws p b a := by
  induction h with
  | refl => exact .refl
  | step _ hj hp ih => exact (Conn.one hj.symm hp).trans ih
theorem Conn.cross {T : Nat → Prop} {x y : Nat} (h : Conn ws p x y) (hx : T x) (hy : ¬ T y) : ∃ i u v, p i ∧ Joins ws i u v ∧ T u ∧ ¬ T v := by
  induction h with
  | refl => exact absurd hx hy
  | @step b c i _ hj hp ih =>
    by_cases hb : T b
    · exact ⟨i, b, c, hp, hj, hb, hy⟩
    · exact ih hb
theorem kl_irrefl (i : Nat) : ¬ kl ws i i := by unfold kl; rw [lexB_irrefl]; decide
theorem kl_trans {i j k : Nat} (h1 : kl ws i j) (h2 : kl ws j k) : kl ws i k := by
  unfold kl at *
  cases h : lexB (keyOf ws i) (keyOf ws k) with
  | true => rfl
  | false =>
    -- k ≤ i, i < j, j < k
    have h3 := lexB_asymm _ _ h2
    have h4 := lexB_trans (keyOf ws j) (keyOf ws k) (keyOf ws i) h3 h
    rw [h1] at h4; cases h4
theorem kl_total {i j : Nat} (h : i ≠ j) : kl ws i j ∨ kl ws j i := by
  unfold kl
  cases h1 : lexB (keyOf ws i) (keyOf ws j) with
  | true => exact .inl rfl
  | false =>
    cases h2 : lexB (keyOf ws j) (keyOf ws i) with
    | true => exact .inr rfl
    | false =>
      have := lexB_total _ _ h1 h2
      unfold keyOf at this
      simp at this
      exact absurd this.2 (by (first | lia | omega))

/-- T are the places taken so far, net the ways by which -/
structure Prim (ws : List Wy) (T : Nat → Prop) (net : List Nat) : Prop where
  A : ∀ k x x' y y', T x → T x' → ¬ T y → ¬ T y' → Conn ws (kl ws · k) x y → Conn ws (kl ws · k) x' y' → Conn ws (kl ws · k) x x'
  B : ∀ i x y u, Joins ws i x y → T x → ¬ T y → T u → Conn ws (kl ws · i) u y → Conn ws (kl ws · i) x u
  C : ∀ i x y, Joins ws i x y → x ≠ y → T x → T y → i ∉ net → Conn ws (kl ws · i) x y
  D : ∀ i ∈ net, ∃ x y, Joins ws i x y ∧ x ≠ y ∧ T x ∧ T y ∧ ¬ Conn ws (kl ws · i) x y
  E : net.Nodup

theorem prim_start : Prim ws (· = 0) [] where
  A := by rintro k x x' y y' rfl rfl _ _ _ _; exact .refl
  B := by rintro i x y u _ rfl _ rfl _; exact .refl
  C := by rintro i x y _ h rfl rfl; exact absurd rfl h
  D := by intro i h; cases h
  E := List.nodup_nil

theorem Prim.step {T : Nat → Prop} {net : List Nat} {e u0 v : Nat} (P : Prim ws T net) (hj : Joins ws e u0 v) (hu : T u0) (hv : ¬ T v)
    (hmin : ∀ i x y, Joins ws i x y → T x → ¬ T y → i = e ∨ kl ws e i) : Prim ws (fun x => T x ∨ x = v) (net ++ [e]) := by
  have nocross : ∀ k, ¬ kl ws e k → ∀ x y, T x → ¬ T y → ¬ Conn ws (kl ws · k) x y := by
    intro k hk x y hx hy hc
    obtain ⟨i, u, w, h1, h2, h3, h4⟩ := hc.cross hx hy
    rcases hmin i u w h2 h3 h4 with rfl | h
    · exact hk h1
    · exact hk (kl_trans h h1)
  have lt_of : ∀ i x y, Joins ws i x y → T x → ¬ T y → y ≠ v → kl ws e i := by
    intro i x y h1 h2 h3 h4
    rcases hmin i x y h1 h2 h3 with rfl | h
    · exfalso
      obtain ⟨p, e1, q1⟩ := h1
      obtain ⟨p', e2, q2⟩ := hj
      rw [e1] at e2; cases e2
      rcases q1 with ⟨a1, a2⟩ | ⟨a1, a2⟩ <;> rcases q2 with ⟨b1, b2⟩ | ⟨b1, b2⟩
      · exact h4 (by (first | lia | omega))
      · have : x = v := by (first | lia | omega)
        subst this; exact hv h2
      · have : x = v := by (first | lia | omega)
        subst this; exact hv h2
      · exact h4 (by (first | lia | omega))
    · exact h
  have A' : ∀ k x x' y y', (T x ∨ x = v) → (T x' ∨ x' = v) → ¬ (T y ∨ y = v) → ¬ (T y' ∨ y' = v) → Conn ws (kl ws · k) x y → Conn ws (kl ws · k) x' y' → Conn ws (kl ws · k) x x' := by
    intro k x x' y y' hx hx' hy hy' c c'
    have hyT : ¬ T y := fun h => hy (.inl h)
    have hyT' : ¬ T y' := fun h => hy' (.inl h)
    by_cases hk : kl ws e k
    · have base : ∀ x y, (T x ∨ x = v) → ¬ T y → Conn ws (kl ws · k) x y → Conn ws (kl ws · k) x u0 := by
        intro x y hx hy c
        rcases hx with hx | rfl
        · exact P.A k x u0 y v hx hu hy hv c (Conn.one hj hk)
        · exact Conn.one hj.symm hk
      exact (base x y hx hyT c).trans (base x' y' hx' hyT' c').symm
    · rcases hx with hx | rfl
      · exact absurd c (nocross k hk x y hx hyT)
      · rcases hx' with hx' | rfl
        · exact absurd c' (nocross k hk x' y' hx' hyT')
        · exact .refl
  refine ⟨A', ?_, ?_, ?_, ?_⟩
  · intro i x y u h1 hx hy hu' c
    have hyT : ¬ T y := fun h => hy (.inl h)
    have hyv : y ≠ v := fun h => hy (.inr h)
    rcases hx with hx | rfl
    · rcases hu' with hu' | rfl
      · exact P.B i x y u h1 hx hyT hu' c
      · have hk := lt_of i x y h1 hx hyT hyv
        have c0 : Conn ws (kl ws · i) u0 u := Conn.one hj hk
        exact (P.B i x y u0 h1 hx hyT hu (c0.trans c)).trans c0
    · rcases hu' with hu' | rfl
      · obtain ⟨g, a, b, g1, g2, g3, g4⟩ := c.cross hu' hyT
        have hk : kl ws e i := by
          rcases hmin g a b g2 g3 g4 with rfl | h
          · exact g1
          · exact kl_trans h g1
        have c0 : Conn ws (kl ws · i) u0 x := Conn.one hj hk
        exact (P.A i u u0 y x hu' hu hyT hv c c0 |>.trans c0).symm
      · exact .refl
  · intro i x y h1 hxy hx hy hn
    have hn1 : i ∉ net := fun h => hn (List.mem_append_left _ h)
    have hne : i ≠ e := fun h => hn (List.mem_append_right _ (by simp [h]))
    have key : ∀ x, Joins ws i x v → T x → Conn ws (kl ws · i) x v := by
      intro x h1 hx
      have hk : kl ws e i := by
        rcases hmin i x v h1 hx hv with h | h
        · exact absurd h hne
        · exact h
      have c0 : Conn ws (kl ws · i) u0 v := Conn.one hj hk
      exact (P.B i x v u0 h1 hx hv hu c0).trans c0
    rcases hx with hx | rfl
    · rcases hy with hy | rfl
      · exact P.C i x y h1 hxy hx hy hn1
      · exact key x h1 hx
    · rcases hy with hy | rfl
      · exact (key y h1.symm hy).symm
      · exact absurd rfl hxy
  · intro i hi
    rcases List.mem_append.mp hi with hi | hi
    · obtain ⟨x, y, a1, a2, a3, a4, a5⟩ := P.D i hi
      exact ⟨x, y, a1, a2, .inl a3, .inl a4, a5⟩
    · have : i = e := by simpa using hi
      subst this
      refine ⟨u0, v, hj, fun h => hv (h ▸ hu), .inl hu, .inr rfl, ?_⟩
      exact nocross i (kl_irrefl i) u0 v hu hv
  · rw [List.nodup_append]
    refine ⟨P.E, by simp, ?_⟩
    intro a ha b hb hab
    have : b = e := by simpa using hb
    subst this; subst hab
    obtain ⟨x, y, a1, a2, a3, a4, a5⟩ := P.D a ha
    obtain ⟨p, e1, q1⟩ := a1
    obtain ⟨p', e2, q2⟩ := hj
    rw [e1] at e2; cases e2
    rcases q1 with ⟨c1, c2⟩ | ⟨c1, c2⟩ <;> rcases q2 with ⟨b1, b2⟩ | ⟨b1, b2⟩
    · exact hv (by rw [← b2, c2]; exact a4)
    · exact hv (by rw [← b1, c1]; exact a3)
    · exact hv (by rw [← b2, c2]; exact a3)
    · exact hv (by rw [← b1, c1]; exact a4)

/-- what the net is at the end -/
theorem Prim.net_iff {T : Nat → Prop} {net : List Nat} (P : Prim ws T net) (hcl : ∀ i x y, Joins ws i x y → T x → T y) {i : Nat} {q : Wy} (hi : ws[i]? = some q) :
    i ∈ net ↔ q.2.1 ≠ q.2.2 ∧ T q.2.1 ∧ ¬ Conn ws (kl ws · i) q.2.1 q.2.2 := by
  have hj : Joins ws i q.2.1 q.2.2 := ⟨q, hi, .inl ⟨rfl, rfl⟩⟩
  constructor
  · intro h
    obtain ⟨x, y, ⟨q', e1, q1⟩, a2, a3, a4, a5⟩ := P.D i h
    rw [hi] at e1; cases e1
    rcases q1 with ⟨rfl, rfl⟩ | ⟨rfl, rfl⟩
    · exact ⟨a2, a3, a5⟩
    · exact ⟨Ne.symm a2, a4, fun c => a5 c.symm⟩
  · rintro ⟨h1, h2, h3⟩
    by_cases hn : i ∈ net
    · exact hn
    · exact absurd (P.C i _ _ hj h1 h2 (hcl i _ _ hj h2) hn) h3

/-! ### the closing over the places in the middle -/
abbrev Mx := Nat → Nat → List Int
def kmin (x y : List Int) : List Int := if lexB y x = true then y else x
def kmax (x y : List Int) : List Int := if lexB x y = true then y else x
theorem kmin_lt {x y k : List Int} : lexB (kmin x y) k = true ↔ lexB x k = true ∨ lexB y k = true := by
  unfold kmin
  by_cases h : lexB y x = true
  · rw [if_pos h]
    constructor
    · exact .inr
    · rintro (h1 | h1)
      · cases h2 : lexB y k with
        | true => rfl
        | false =>
          have := lexB_trans _ _ _ (lexB_asymm _ _ h1) h2
          rw [h] at this; cases this
      · exact h1
  · rw [if_neg h]
    constructor
    · exact .inl
    · rintro (h1 | h1)
      · exact h1
      · cases h2 : lexB x k with
        | true => rfl
        | false =>
          have h' : lexB y x = false := by simpa using h
          have := lexB_trans _ _ _ h2 h'
          rw [h1] at this; cases this
theorem kmax_lt {x y k : List Int} : lexB (kmax x y) k = true ↔ lexB x k = true ∧ lexB y k = true := by
  unfold kmax
  by_cases h : lexB x y = true
  · rw [if_pos h]
    constructor
    · intro h1
      refine ⟨?_, h1⟩
      cases h2 : lexB x k with
      | true => rfl
      | false =>
        have := lexB_trans _ _ _ (lexB_asymm _ _ h1) h2
        rw [h] at this; cases this
    · exact fun h => h.2
  · rw [if_neg h]
    have h' : lexB x y = false := by simpa using h
    constructor
    · intro h1
      refine ⟨h1, ?_⟩
      cases h2 : lexB y k with
      | true => rfl
      | false =>
        have := lexB_trans _ _ _ h2 h'
        rw [h1] at this; cases this
    · exact fun h => h.1
theorem kmax_comm (x y : List Int) : kmax x y = kmax y x := by
  unfold kmax
  by_cases h : lexB x y = true
  · rw [if_pos h, if_neg (by rw [lexB_asymm _ _ h]; decide)]
  · by_cases h2 : lexB y x = true
    · rw [if_neg h, if_pos h2]
    · rw [if_neg h, if_neg h2]
      exact lexB_total _ _ (by simpa using h) (by simpa using h2)
theorem kmin_max (x y : List Int) : kmin x (kmax x y) = x := by
  unfold kmin kmax
  by_cases h : lexB x y = true
  · rw [if_pos h, if_neg (by rw [lexB_asymm _ _ h]; decide)]
  · rw [if_neg h, if_neg (by rw [lexB_irrefl]; decide)]
def phase (L : Mx) (m : Nat) : Mx := fun a b => if a = b then L a b else kmin (L a b) (kmax (L a m) (L m b))
def Sym (L : Mx) : Prop := ∀ a b, L a b = L b a
theorem Sym.phase {L : Mx} (h : Sym L) (m : Nat) : Sym (phase L m) := by
  intro a b
  unfold Mine.phase
  by_cases e : a = b
  · subst e; rfl
  · rw [if_neg e, if_neg (Ne.symm e), h a b, h a m, h m b, kmax_comm]
theorem phase_mid {L : Mx} (h : Sym L) (m a : Nat) : phase L m a m = L a m ∧ phase L m m a = L m a := by
  unfold phase
  by_cases e : a = m
  · subst e; simp
  · rw [if_neg e, if_neg (Ne.symm e), kmin_max, kmax_comm (L m m), kmin_max]
    exact ⟨rfl, rfl⟩
def Rk (L : Mx) (k : List Int) (a b : Nat) : Prop := a = b ∨ lexB (L a b) k = true
theorem rk_phase {L : Mx} {m a b : Nat} {k : List Int} : Rk (phase L m) k a b ↔ Rk L k a b ∨ (Rk L k a m ∧ Rk L k m b) := by
  unfold Rk phase
  by_cases e : a = b
  · simp [e]
  · simp only [e, if_false, false_or, kmin_lt, kmax_lt]
    constructor
    · rintro (h | ⟨h1, h2⟩)
      · exact .inl h
      · exact .inr ⟨.inr h1, .inr h2⟩
    · rintro (h | ⟨rfl | h1, rfl | h2⟩)
      · exact .inl h
      · exact absurd rfl e
      · exact .inl h2
      · exact .inl h1
      · exact .inr ⟨h1, h2⟩
/-- closed over the places below m -/
def Clo (L : Mx) (m : Nat) : Prop := ∀ k c a b, c < m → Rk L k a c → Rk L k c b → Rk L k a b
theorem Clo.phase {L : Mx} {m : Nat} (h : Clo L m) : Clo (phase L m) (m + 1) := by
  intro k c a b hc h1 h2
  rw [rk_phase] at h1 h2 ⊢
  rcases Nat.lt_or_ge c m with hc' | hc'
  · rcases h1 with h1 | ⟨h1, h1'⟩ <;> rcases h2 with h2 | ⟨h2, h2'⟩
    · exact .inl (h k c a b hc' h1 h2)
    · exact .inr ⟨h k c a m hc' h1 h2, h2'⟩
    · exact .inr ⟨h1, h k c m b hc' h1' h2⟩
    · exact .inr ⟨h1, h2'⟩
  · have : c = m := by (first | lia | omega)
    subst this
    rcases h1 with h1 | ⟨h1, _⟩ <;> rcases h2 with h2 | ⟨_, h2⟩ <;> exact .inr ⟨h1, h2⟩
def phases (L : Mx) : Nat → Mx
  | 0 => L
  | m + 1 => phase (phases L m) m
theorem phases_clo (L : Mx) : ∀ m, Clo (phases L m) m
  | 0 => fun k c a b h => by (first | lia | omega)
  | m + 1 => (phases_clo L m).phase
theorem phases_sym {L : Mx} (h : Sym L) : ∀ m, Sym (phases L m)
  | 0 => h
  | m + 1 => (phases_sym h m).phase m
/-- what is low is joined -/
def Sound (ws : List Wy) (far : List Int) (L : Mx) : Prop := ∀ k a b, lexB far k = false → a ≠ b → lexB (L a b) k = true → Conn ws (fun i => lexB (keyOf ws i) k = true) a b
theorem Sound.phase {far : List Int} {L : Mx} (h : Sound ws far L) (m : Nat) : Sound ws far (phase L m) := by
  intro k a b hk hab hl
  have : Rk (Mine.phase L m) k a b := .inr hl
  rw [rk_phase] at this
  have key : ∀ a b, Rk L k a b → Conn ws (fun i => lexB (keyOf ws i) k = true) a b := by
    rintro a b (rfl | h1)
    · exact .refl
    · by_cases e : a = b
      · subst e; exact .refl
      · exact h k a b hk e h1
  rcases this with h1 | ⟨h1, h2⟩
  · exact key a b h1
  · exact (key a m h1).trans (key m b h2)
theorem phases_sound {far : List Int} {L : Mx} (h : Sound ws far L) : ∀ m, Sound ws far (phases L m)
  | 0 => h
  | m + 1 => (phases_sound h m).phase m
/-- every way between two places is reckoned -/
def Under (ws : List Wy) (L : Mx) : Prop := ∀ i x y, Joins ws i x y → x ≠ y → lexB (keyOf ws i) (L x y) = false
theorem Under.phase {L : Mx} (h : Under ws L) (m : Nat) : Under ws (phase L m) := by
  intro i x y hj hxy
  have h1 := h i x y hj hxy
  unfold Mine.phase
  rw [if_neg hxy]
  unfold kmin
  split
  · rename_i hh
    cases e : lexB (keyOf ws i) (kmax (L x m) (L m y)) with
    | false => rfl
    | true =>
      have h6 := lexB_trans (L x y) (keyOf ws i) (kmax (L x m) (L m y)) h1 (lexB_asymm _ _ e)
      rw [hh] at h6; cases h6
  · exact h1
theorem phases_under {L : Mx} (h : Under ws L) : ∀ m, Under ws (phases L m)
  | 0 => h
  | m + 1 => (phases_under h m).phase m
/-- at the end: lower than k is just joined by ways less than k -/
theorem low_iff {far : List Int} {L : Mx} (hS : Sound ws far L) (hU : Under ws L) (hE : ∀ p ∈ ws, p.2.1 < 8 ∧ p.2.2 < 8) {i a b : Nat} (hab : a ≠ b) (hf : lexB far (keyOf ws i) = false) :
    lexB (phases L 8 a b) (keyOf ws i) = true ↔ Conn ws (kl ws · i) a b := by
  constructor
  · exact phases_sound hS 8 _ a b hf hab
  · intro h
    have hC := phases_clo L 8
    have hUU := phases_under hU 8
    have : Rk (phases L 8) (keyOf ws i) a b := by
      have key : ∀ b, Conn ws (kl ws · i) a b → Rk (phases L 8) (keyOf ws i) a b := by
        intro b h
        induction h with
        | refl => exact .inl rfl
        | @step b c j _ hj hp ih =>
          have hb : b < 8 := by
            obtain ⟨p, e, q⟩ := hj
            have := hE p (List.mem_of_getElem? e)
            rcases q with ⟨rfl, rfl⟩ | ⟨rfl, rfl⟩ <;> (first | lia | omega)
          refine hC _ b _ _ hb ih ?_
          by_cases e : b = c
          · exact .inl e
          · refine .inr ?_
            have h1 := hUU j b c hj e
            cases e2 : lexB (phases L 8 b c) (keyOf ws i) with
            | true => rfl
            | false =>
              have := lexB_trans _ _ _ e2 h1
              rw [show lexB (keyOf ws j) (keyOf ws i) = true from hp] at this; cases this
      exact key b h
    rcases this with e | e
    · exact absurd e hab
    · exact e
end
end Mine


/-! part G02 -/
set_option autoImplicit false
set_option maxRecDepth 100000
set_option linter.unusedVariables false
set_option Elab.async false
set_option maxHeartbeats 2000000
open PySem PySem.W PyProof.Rows
namespace Mine

abbrev prg : Program := PySem.Challenge.pw_dm0136_02
def bltNames : List String := ["enumerate", "len", "max", "min", "range", "sorted", "sum"]
def siftdown_r : DefRec := recAt prg 2
theorem has_f_siftdown {K : Glo} (hp : ∀ d ∈ recsOf prg, d ∈ recsOf K.p) (hfree : ∀ x ∈ bltNames, K.mg (Str.ofString x) = none) : HasF K "_siftdown" 1 f_siftdown := by
  refine hasF_of (d := siftdown_r) (lvl := 0) (hp _ (List.mem_iff_getElem?.mpr ⟨1, by kernel_rfl⟩)) (by kernel_rfl) (by kernel_rfl) (by kernel_rfl) (by kernel_rfl) (by decide) ?_ ?_ ?_
  · intro pm code doc ws h
    match ws, h with
    | [a0, a1, a2], _ => rfl
  · intro n y hy
    simp only [List.mem_cons, List.not_mem_nil, or_false] at hy
    rcases hy with rfl | rfl | rfl
    · exact .inl (by kernel_rfl)
    · exact .inl (by kernel_rfl)
    · exact .inl (by kernel_rfl)
  · intro pm code doc L fa A hr fk
    show SimSs K _ _ siftdown_m
    exact (simSs_cons (simS_assign _ (simT_local "newitem" _ fk (by kernel_rfl)) (simE_sub fk _ (simE_name fk "heap" _) (simE_name fk "pos" _))) (simSs_cons (simS_while _ 4096 (simB_cmp fk cmp_gt tru_ok _ (simE_name fk "pos" _) (simE_name fk "startpos" _)) (simSs_cons (simS_assign _ (simT_local "parentpos" _ fk (by kernel_rfl)) (simE_bin fk bin_shr _ (simE_bin fk bin_sub _ (simE_name fk "pos" _) (simE_int 1 _ _)) (simE_int 1 _ _))) (simSs_cons (simS_assign _ (simT_local "parent" _ fk (by kernel_rfl)) (simE_sub fk _ (simE_name fk "heap" _) (simE_name fk "parentpos" _))) (simSs_cons (simS_if _ (simB_cmp fk cmp_lt tru_ok _ (simE_name fk "newitem" _) (simE_name fk "parent" _)) (simSs_cons (simS_assign _ (simT_sub fk _ (simE_name fk "heap" _) (simE_name fk "pos" _)) (simE_name fk "parent" _)) (simSs_cons (simS_assign _ (simT_local "pos" _ fk (by kernel_rfl)) (simE_name fk "parentpos" _)) (simSs_one (simS_continue _)))) simSs_nil) (simSs_one (simS_break _)))))) (simSs_one (simS_assign _ (simT_sub fk _ (simE_name fk "heap" _) (simE_name fk "pos" _)) (simE_name fk "newitem" _)))))
def siftup_r : DefRec := recAt prg 3
theorem has_f_siftup {K : Glo} (hp : ∀ d ∈ recsOf prg, d ∈ recsOf K.p) (hfree : ∀ x ∈ bltNames, K.mg (Str.ofString x) = none) (h_siftdown : HasF K "_siftdown" 1 f_siftdown) : HasF K "_siftup" 2 f_siftup := by
  refine hasF_of (d := siftup_r) (lvl := 1) (hp _ (List.mem_iff_getElem?.mpr ⟨2, by kernel_rfl⟩)) (by kernel_rfl) (by kernel_rfl) (by kernel_rfl) (by kernel_rfl) (by decide) ?_ ?_ ?_
  · intro pm code doc ws h
    match ws, h with
    | [a0, a1], _ => rfl
  · intro n y hy
    simp only [List.mem_cons, List.not_mem_nil, or_false] at hy
    rcases hy with rfl | rfl
    · exact .inl (by kernel_rfl)
    · exact .inl (by kernel_rfl)
  · intro pm code doc L fa A hr fk
    show SimSs K _ _ siftup_m
    exact (simSs_cons (simS_assign _ (simT_local "endpos" _ fk (by kernel_rfl)) (simE_callB fk rfl (by kernel_rfl) (hfree "len" (by decide)) (by kernel_rfl) built_len (simEs_cons (simE_name fk "heap" _) simEs_nil))) (simSs_cons (simS_assign _ (simT_local "startpos" _ fk (by kernel_rfl)) (simE_name fk "pos" _)) (simSs_cons (simS_assign _ (simT_local "newitem" _ fk (by kernel_rfl)) (simE_sub fk _ (simE_name fk "heap" _) (simE_name fk "pos" _))) (simSs_cons (simS_assign _ (simT_local "childpos" _ fk (by kernel_rfl)) (simE_bin fk bin_add _ (simE_bin fk bin_mul _ (simE_int 2 _ _) (simE_name fk "pos" _)) (simE_int 1 _ _))) (simSs_cons (simS_while _ 4096 (simB_cmp fk cmp_lt tru_ok _ (simE_name fk "childpos" _) (simE_name fk "endpos" _)) (simSs_cons (simS_assign _ (simT_local "rightpos" _ fk (by kernel_rfl)) (simE_bin fk bin_add _ (simE_name fk "childpos" _) (simE_int 1 _ _))) (simSs_cons (simS_if _ (simB_boolop _ (simAll_and (simB_cmp fk cmp_lt tru_ok _ (simE_name fk "rightpos" _) (simE_name fk "endpos" _)) (simAll_and (simB_not _ (simB_cmp fk cmp_lt tru_ok _ (simE_sub fk _ (simE_name fk "heap" _) (simE_name fk "childpos" _)) (simE_sub fk _ (simE_name fk "heap" _) (simE_name fk "rightpos" _)))) simAll_and_nil))) (simSs_one (simS_assign _ (simT_local "childpos" _ fk (by kernel_rfl)) (simE_name fk "rightpos" _))) simSs_nil) (simSs_cons (simS_assign _ (simT_sub fk _ (simE_name fk "heap" _) (simE_name fk "pos" _)) (simE_sub fk _ (simE_name fk "heap" _) (simE_name fk "childpos" _))) (simSs_cons (simS_assign _ (simT_local "pos" _ fk (by kernel_rfl)) (simE_name fk "childpos" _)) (simSs_one (simS_assign _ (simT_local "childpos" _ fk (by kernel_rfl)) (simE_bin fk bin_add _ (simE_bin fk bin_mul _ (simE_int 2 _ _) (simE_name fk "pos" _)) (simE_int 1 _ _))))))))) (simSs_cons (simS_assign _ (simT_sub fk _ (simE_name fk "heap" _) (simE_name fk "pos" _)) (simE_name fk "newitem" _)) (simSs_one (simS_expr fk _ (simE_callF fk h_siftdown (hr.le (by decide)) (simEs_cons (simE_name fk "heap" _) (simEs_cons (simE_name fk "startpos" _) (simEs_cons (simE_name fk "pos" _) simEs_nil))))))))))))
def heappop_r : DefRec := recAt prg 1
theorem has_f_heappop {K : Glo} (hp : ∀ d ∈ recsOf prg, d ∈ recsOf K.p) (hfree : ∀ x ∈ bltNames, K.mg (Str.ofString x) = none) (h_siftup : HasF K "_siftup" 2 f_siftup) : HasF K "heappop" 3 f_heappop := by
  refine hasF_of (d := heappop_r) (lvl := 2) (hp _ (List.mem_iff_getElem?.mpr ⟨0, by kernel_rfl⟩)) (by kernel_rfl) (by kernel_rfl) (by kernel_rfl) (by kernel_rfl) (by decide) ?_ ?_ ?_
  · intro pm code doc ws h
    match ws, h with
    | [a0], _ => rfl
  · intro n y hy
    simp only [List.mem_cons, List.not_mem_nil, or_false] at hy
    subst hy
    · exact .inl (by kernel_rfl)
  · intro pm code doc L fa A hr fk
    show SimSs K _ _ heappop_m
    exact (simSs_cons (simS_assign _ (simT_local "lastelt" _ fk (by kernel_rfl)) (simE_meth fk PySem.F.slot_list_pop PySem.F.type_list_pop (simE_name fk "heap" _) simEs_nil meth_pop)) (simSs_cons (simS_if _ (simB_val fk tru_ok (simE_name fk "heap" _)) (simSs_cons (simS_assign _ (simT_local "returnitem" _ fk (by kernel_rfl)) (simE_sub fk _ (simE_name fk "heap" _) (simE_int 0 _ _))) (simSs_cons (simS_assign _ (simT_sub fk _ (simE_name fk "heap" _) (simE_int 0 _ _)) (simE_name fk "lastelt" _)) (simSs_cons (simS_expr fk _ (simE_callF fk h_siftup (hr.le (by decide)) (simEs_cons (simE_name fk "heap" _) (simEs_cons (simE_int 0 _ _) simEs_nil)))) (simSs_one (simS_return _ (simE_name fk "returnitem" _)))))) simSs_nil) (simSs_one (simS_return _ (simE_name fk "lastelt" _)))))

/-! _law_lowest -/
def law_lowest_l1_t : V → M Unit := (fun v => setv "b" v)
def law_lowest_l1_b : M Fl := (seqM (do let v ← (do let vs ← (do let v ← (do let o ← (do let o ← (getv "low"); let i ← (getv "a"); getI o i); let i ← (getv "b"); getI o i); let vs ← (do let v ← (do let vs ← (do let v ← (do let o ← (do let o ← (getv "low"); let i ← (getv "a"); getI o i); let i ← (getv "mid"); getI o i); let vs ← (do let v ← (do let o ← (do let o ← (getv "low"); let i ← (getv "mid"); getI o i); let i ← (getv "b"); getI o i); let vs ← (pure [] : M (List V)); pure (v :: vs)); pure (v :: vs)); maxD vs); let vs ← (pure [] : M (List V)); pure (v :: vs)); pure (v :: vs)); minD vs); (fun v => do let a ← (do let o ← (getv "low"); let i ← (getv "a"); getI o i); let b ← (getv "b"); setI a b v) v; pure .next : M Fl) (do let v ← (do let o ← (do let o ← (getv "low"); let i ← (getv "a"); getI o i); let i ← (getv "b"); getI o i); (fun v => do let a ← (do let o ← (getv "low"); let i ← (getv "b"); getI o i); let b ← (getv "a"); setI a b v) v; pure .next : M Fl))
def law_lowest_l2_t : V → M Unit := (fun v => setv "a" v)
def law_lowest_l2_b : M Fl := (do let v ← (do let vs ← (do let v ← (getv "a"); let vs ← (pure [] : M (List V)); pure (v :: vs)); rangeB vs); okIter v; forG (nxtOf v) law_lowest_l1_t law_lowest_l1_b 4096 0)
def law_lowest_l3_t : V → M Unit := (fun v => setv "mid" v)
def law_lowest_l3_b : M Fl := (do let v ← (do let vs ← (do let v ← (pure (V.int 8) : M V); let vs ← (pure [] : M (List V)); pure (v :: vs)); rangeB vs); okIter v; forG (nxtOf v) law_lowest_l2_t law_lowest_l2_b 4096 0)
def law_lowest_l4_t : V → M Unit := (unpackT 4 (consT (fun v => setv "weight" v) (consT (fun v => setv "i" v) (consT (fun v => setv "a" v) (consT (fun v => setv "b" v) (fun _ => pure ()))))))
def law_lowest_l4_b : M Fl := (seqM (do let v ← (do let vs ← (do let v ← (do let o ← (do let o ← (getv "low"); let i ← (getv "a"); getI o i); let i ← (getv "b"); getI o i); let vs ← (do let v ← (do let vs ← (do let v ← (getv "weight"); let vs ← (do let v ← (getv "i"); let vs ← (pure [] : M (List V)); pure (v :: vs)); pure (v :: vs)); mkT vs); let vs ← (pure [] : M (List V)); pure (v :: vs)); pure (v :: vs)); minD vs); (fun v => do let a ← (do let o ← (getv "low"); let i ← (getv "a"); getI o i); let b ← (getv "b"); setI a b v) v; pure .next : M Fl) (do let v ← (do let o ← (do let o ← (getv "low"); let i ← (getv "a"); getI o i); let i ← (getv "b"); getI o i); (fun v => do let a ← (do let o ← (getv "low"); let i ← (getv "b"); getI o i); let b ← (getv "a"); setI a b v) v; pure .next : M Fl))
def law_lowest_c5_t : V → M Unit := (fun v => setv "a" v)
def law_lowest_c5_i : M Bool := (pure true : M Bool)
def law_lowest_c5_e (l : Nat) : M Unit := (do let v ← (do let a ← (do let vs ← (do let v ← (getv "far"); let vs ← (pure [] : M (List V)); pure (v :: vs)); newL vs); let b ← (pure (V.int 8) : M V); mulLV a b); appendAt l v)
def law_lowest_c5 (l : Nat) (nxt : S → Nat → Option (Option V)) : M Unit := loopC 4096 law_lowest_c5_t law_lowest_c5_i (law_lowest_c5_e l) nxt
def law_lowest_c6_t : V → M Unit := (fun v => setv "way" v)
def law_lowest_c6_i : M Bool := (pure true : M Bool)
def law_lowest_c6_e (l : Nat) : M Unit := (do let v ← (do let o ← (getv "way"); let i ← (pure (V.int 0) : M V); getI o i); appendAt l v)
def law_lowest_c6 (l : Nat) (nxt : S → Nat → Option (Option V)) : M Unit := loopC 4096 law_lowest_c6_t law_lowest_c6_i (law_lowest_c6_e l) nxt
def law_lowest_m : M Fl := (seqM (do let v ← (do let vs ← (do let v ← (do let a ← (do let vs ← (do let v ← ((getv "ways") >>= compTail [] law_lowest_c6); let vs ← (pure [] : M (List V)); pure (v :: vs)); maxD vs); let b ← (pure (V.int 1) : M V); addV a b); let vs ← (do let v ← (pure (V.int 0) : M V); let vs ← (pure [] : M (List V)); pure (v :: vs)); pure (v :: vs)); mkT vs); (fun v => setv "far" v) v; pure .next : M Fl) (seqM (do let v ← ((do let vs ← (do let v ← (pure (V.int 8) : M V); let vs ← (pure [] : M (List V)); pure (v :: vs)); rangeB vs) >>= compTail ["far"] law_lowest_c5); (fun v => setv "low" v) v; pure .next : M Fl) (seqM (do let v ← (getv "ways"); okIter v; forG (nxtOf v) law_lowest_l4_t law_lowest_l4_b 4096 0) (seqM (do let v ← (do let vs ← (do let v ← (pure (V.int 8) : M V); let vs ← (pure [] : M (List V)); pure (v :: vs)); rangeB vs); okIter v; forG (nxtOf v) law_lowest_l3_t law_lowest_l3_b 4096 0) (do let v ← (getv "low"); pure (.ret v) : M Fl)))))
def f_law_lowest : Fun := funM ["ways"] law_lowest_m
def law_lowest_r : DefRec := recAt prg 5
theorem has_f_law_lowest {K : Glo} (hp : ∀ d ∈ recsOf prg, d ∈ recsOf K.p) (hfree : ∀ x ∈ bltNames, K.mg (Str.ofString x) = none) : HasF K "_law_lowest" 1 f_law_lowest := by
  refine hasF_of (d := law_lowest_r) (lvl := 0) (hp _ (List.mem_iff_getElem?.mpr ⟨3, by kernel_rfl⟩)) (by kernel_rfl) (by kernel_rfl) (by kernel_rfl) (by kernel_rfl) (by decide) ?_ ?_ ?_
  · intro pm code doc ws h
    match ws, h with
    | [a0], _ => rfl
  · intro n y hy
    simp only [List.mem_cons, List.not_mem_nil, or_false] at hy
    subst hy
    · exact .inl (by kernel_rfl)
  · intro pm code doc L fa A hr fk
    show SimSs K _ _ law_lowest_m
    exact (simSs_cons (simS_assign _ (simT_cellD "far" _ fk (by kernel_rfl) rfl) (simE_tuple _ _ (simEs_cons (simE_bin fk bin_add _ (simE_callB fk rfl (by kernel_rfl) (hfree "max" (by decide)) (by kernel_rfl) built_maxD (simEs_cons (simE_listcomp fk ⟨rfl, rfl, by decide +kernel, by decide +kernel, (by intro x hx; cases hx), (by intro x c h; cases h)⟩ (simE_name fk "ways" _) (fun C => clauses_of 4096 rfl (fun acc => turn_end rfl rfl (test := none) rfl) (simT_local "way" _ (FOk.comp fk rfl) (by kernel_rfl)) simTest_none (fun l a => simA_emit (FOk.comp fk rfl) (simE_sub (FOk.comp fk rfl) _ (simE_name (FOk.comp fk rfl) "way" _) (simE_int 0 _ _)) l a))) simEs_nil)) (simE_int 1 _ _)) (simEs_cons (simE_int 0 _ _) simEs_nil)))) (simSs_cons (simS_assign_comp fk ⟨rfl, rfl, by decide +kernel, by decide +kernel, (by intro x hx; simp only [List.mem_cons, List.not_mem_nil, or_false] at hx; rcases hx with rfl <;> exact ⟨by first | exact .inl (by rfl) | exact .inr (by rfl), kne_cell (by kernel_rfl), fun c h => h⟩), (ck_cells (ck_cons rfl ck_nil))⟩ (simT_local "low" _ fk (by kernel_rfl)) (simE_callB fk rfl (by kernel_rfl) (hfree "range" (by decide)) (by kernel_rfl) built_range (simEs_cons (simE_int 8 _ _) simEs_nil)) (fun C => clauses_of 4096 rfl (fun acc => turn_end rfl rfl (test := none) rfl) (simT_local "a" _ (FOk.comp fk rfl) (by kernel_rfl)) simTest_none (fun l a => simA_emit (FOk.comp fk rfl) (simE_bin (FOk.comp fk rfl) bin_mulL _ (simE_list _ (simEs_cons (simE_name (FOk.comp fk rfl) "far" _) simEs_nil)) (simE_int 8 _ _)) l a))) (simSs_cons (simS_for fk _ 4096 (simE_name fk "ways" _) (simT_tuple fk _ _ (simTs_cons (simT_local "weight" _ fk (by kernel_rfl)) (simTs_cons (simT_local "i" _ fk (by kernel_rfl)) (simTs_cons (simT_local "a" _ fk (by kernel_rfl)) (simTs_cons (simT_local "b" _ fk (by kernel_rfl)) simTs_nil))))) (simSs_cons (simS_assign _ (simT_sub fk _ (simE_sub fk _ (simE_name fk "low" _) (simE_name fk "a" _)) (simE_name fk "b" _)) (simE_callB fk rfl (by kernel_rfl) (hfree "min" (by decide)) (by kernel_rfl) built_minD (simEs_cons (simE_sub fk _ (simE_sub fk _ (simE_name fk "low" _) (simE_name fk "a" _)) (simE_name fk "b" _)) (simEs_cons (simE_tuple _ _ (simEs_cons (simE_name fk "weight" _) (simEs_cons (simE_name fk "i" _) simEs_nil))) simEs_nil)))) (simSs_one (simS_assign _ (simT_sub fk _ (simE_sub fk _ (simE_name fk "low" _) (simE_name fk "b" _)) (simE_name fk "a" _)) (simE_sub fk _ (simE_sub fk _ (simE_name fk "low" _) (simE_name fk "a" _)) (simE_name fk "b" _)))))) (simSs_cons (simS_for fk _ 4096 (simE_callB fk rfl (by kernel_rfl) (hfree "range" (by decide)) (by kernel_rfl) built_range (simEs_cons (simE_int 8 _ _) simEs_nil)) (simT_local "mid" _ fk (by kernel_rfl)) (simSs_one (simS_for fk _ 4096 (simE_callB fk rfl (by kernel_rfl) (hfree "range" (by decide)) (by kernel_rfl) built_range (simEs_cons (simE_int 8 _ _) simEs_nil)) (simT_local "a" _ fk (by kernel_rfl)) (simSs_one (simS_for fk _ 4096 (simE_callB fk rfl (by kernel_rfl) (hfree "range" (by decide)) (by kernel_rfl) built_range (simEs_cons (simE_name fk "a" _) simEs_nil)) (simT_local "b" _ fk (by kernel_rfl)) (simSs_cons (simS_assign _ (simT_sub fk _ (simE_sub fk _ (simE_name fk "low" _) (simE_name fk "a" _)) (simE_name fk "b" _)) (simE_callB fk rfl (by kernel_rfl) (hfree "min" (by decide)) (by kernel_rfl) built_minD (simEs_cons (simE_sub fk _ (simE_sub fk _ (simE_name fk "low" _) (simE_name fk "a" _)) (simE_name fk "b" _)) (simEs_cons (simE_callB fk rfl (by kernel_rfl) (hfree "max" (by decide)) (by kernel_rfl) built_maxD (simEs_cons (simE_sub fk _ (simE_sub fk _ (simE_name fk "low" _) (simE_name fk "a" _)) (simE_name fk "mid" _)) (simEs_cons (simE_sub fk _ (simE_sub fk _ (simE_name fk "low" _) (simE_name fk "mid" _)) (simE_name fk "b" _)) simEs_nil))) simEs_nil)))) (simSs_one (simS_assign _ (simT_sub fk _ (simE_sub fk _ (simE_name fk "low" _) (simE_name fk "b" _)) (simE_name fk "a" _)) (simE_sub fk _ (simE_sub fk _ (simE_name fk "low" _) (simE_name fk "a" _)) (simE_name fk "b" _)))))))))) (simSs_one (simS_return _ (simE_name fk "low" _)))))))

/-! law -/
def law_c1_t : V → M Unit := (unpackT 4 (consT (fun v => setv "weight" v) (consT (fun v => setv "i" v) (consT (fun v => setv "a" v) (consT (fun v => setv "b" v) (fun _ => pure ()))))))
def law_c1_i : M Bool := (do if (← (do let a ← (getv "a"); let b ← (getv "b"); let c ← neV a b; truV c)) = true then (do if (← (do let a ← (getv "a"); let b ← (getv "taken"); let c ← inV a b; truV c)) = true then (do if (← (do let a ← (do let o ← (do let o ← (getv "low"); let i ← (getv "a"); getI o i); let i ← (getv "b"); getI o i); let b ← (do let vs ← (do let v ← (getv "weight"); let vs ← (do let v ← (getv "i"); let vs ← (pure [] : M (List V)); pure (v :: vs)); pure (v :: vs)); mkT vs); let c ← eqV a b; truV c)) = true then (pure true : M Bool) else pure false) else pure false) else pure false)
def law_c1_e (l : Nat) : M Unit := (do let v ← (getv "i"); appendAt l v)
def law_c1 (l : Nat) (nxt : S → Nat → Option (Option V)) : M Unit := loopC 4096 law_c1_t law_c1_i (law_c1_e l) nxt
def law_c2_t : V → M Unit := (fun v => setv "one" v)
def law_c2_i : M Bool := (pure true : M Bool)
def law_c2_e (l : Nat) : M Unit := (do let v ← (do let o ← (getv "one"); let i ← (pure (V.int 2) : M V); getI o i); appendAt l v)
def law_c2 (l : Nat) (nxt : S → Nat → Option (Option V)) : M Unit := loopC 4096 law_c2_t law_c2_i (law_c2_e l) nxt
def law_l3_t : V → M Unit := (unpackT 4 (consT (fun v => setv "weight" v) (consT (fun v => setv "i" v) (consT (fun v => setv "a" v) (consT (fun v => setv "b" v) (fun _ => pure ()))))))
def law_l3_b : M Fl := (seqM (do let v ← (do let a ← (do let a ← (getv "a"); let b ← (getv "b"); addV a b); let b ← (do let o ← (getv "taken"); let i ← (do let a ← (pure (V.int 1) : M V); negV a); getI o i); subV a b); (fun v => setv "other" v) v; pure .next : M Fl) (do if (← (do if (← (do let a ← (do let o ← (getv "taken"); let i ← (do let a ← (pure (V.int 1) : M V); negV a); getI o i); let b ← (do let vs ← (do let v ← (getv "a"); let vs ← (do let v ← (getv "b"); let vs ← (pure [] : M (List V)); pure (v :: vs)); pure (v :: vs)); mkT vs); let c ← inV a b; truV c)) = true then (do if (← (do let a ← (getv "other"); let b ← (getv "taken"); let c ← notInV a b; truV c)) = true then (pure true : M Bool) else pure false) else pure false)) = true then (seqM (do let v ← ((getv "heap") >>= compTail [] law_c2); (fun v => setv "known" v) v; pure .next : M Fl) (seqM (do if (← (do let a ← (getv "other"); let b ← (getv "known"); let c ← notInV a b; truV c)) = true then (seqM (do let _ ← (do let ov ← (getv "heap"); chkL ov; let vs ← (do let v ← (do let vs ← (do let v ← (getv "weight"); let vs ← (do let v ← (getv "i"); let vs ← (do let v ← (getv "other"); let vs ← (pure [] : M (List V)); pure (v :: vs)); pure (v :: vs)); pure (v :: vs)); mkT vs); let vs ← (pure [] : M (List V)); pure (v :: vs)); appendG ov vs); pure .next : M Fl) (do let v ← (do let a ← (do let vs ← (do let v ← (getv "heap"); let vs ← (pure [] : M (List V)); pure (v :: vs)); lenB vs); let b ← (pure (V.int 1) : M V); subV a b); (fun v => setv "at" v) v; pure .next : M Fl)) else (do if (← (do let a ← (do let vs ← (do let v ← (getv "weight"); let vs ← (do let v ← (getv "i"); let vs ← (pure [] : M (List V)); pure (v :: vs)); pure (v :: vs)); mkT vs); let b ← (do let o ← (do let o ← (getv "heap"); let i ← (do let ov ← (getv "known"); chkL ov; let vs ← (do let v ← (getv "other"); let vs ← (pure [] : M (List V)); pure (v :: vs)); indexG ov vs); getI o i); let i ← (do let a ← (pure V.none : M V); let b ← (pure (V.int 2) : M V); let c ← (pure V.none : M V); pure (a, b, c)); sliceT o i); let c ← ltV a b; truV c)) = true then (seqM (do let v ← (do let ov ← (getv "known"); chkL ov; let vs ← (do let v ← (getv "other"); let vs ← (pure [] : M (List V)); pure (v :: vs)); indexG ov vs); (fun v => setv "at" v) v; pure .next : M Fl) (do let v ← (do let vs ← (do let v ← (getv "weight"); let vs ← (do let v ← (getv "i"); let vs ← (do let v ← (getv "other"); let vs ← (pure [] : M (List V)); pure (v :: vs)); pure (v :: vs)); pure (v :: vs)); mkT vs); (fun v => do let a ← (getv "heap"); let b ← (getv "at"); setI a b v) v; pure .next : M Fl)) else (pure .cont : M Fl) : M Fl) : M Fl) (do if (← (do let a ← (do let vs ← (do let v ← (getv "heap"); let vs ← (do let v ← (pure (V.int 0) : M V); let vs ← (do let v ← (getv "at"); let vs ← (pure [] : M (List V)); pure (v :: vs)); pure (v :: vs)); pure (v :: vs)); callF f_siftdown vs); let b ← (pure V.none : M V); let c ← isNotV a b; truV c)) = true then (do let v ← (pure (V.bool false) : M V); pure (.ret v) : M Fl) else (pure .next : M Fl) : M Fl))) else (pure .next : M Fl) : M Fl))
def law_w4_c : M Bool := (do let v ← (pure (V.bool true) : M V); truV v)
def law_w4_b : M Fl := (seqM (do let v ← (getv "ways"); okIter v; forG (nxtOf v) law_l3_t law_l3_b 4096 0) (seqM (do if (← (do let a ← (getv "heap"); let b ← (do let vs ← (pure [] : M (List V)); newL vs); let c ← eqV a b; truV c)) = true then (pure .brk : M Fl) else (pure .next : M Fl) : M Fl) (seqM (do let v ← (do let vs ← (do let v ← (getv "heap"); let vs ← (pure [] : M (List V)); pure (v :: vs)); minD vs); (fun v => setv "top" v) v; pure .next : M Fl) (seqM (do if (← (do let a ← (do let vs ← (do let v ← (getv "heap"); let vs ← (pure [] : M (List V)); pure (v :: vs)); callF f_heappop vs); let b ← (getv "top"); let c ← neV a b; truV c)) = true then (do let v ← (pure (V.bool false) : M V); pure (.ret v) : M Fl) else (pure .next : M Fl) : M Fl) (seqM (do let _ ← (do let ov ← (getv "taken"); chkL ov; let vs ← (do let v ← (do let o ← (getv "top"); let i ← (pure (V.int 2) : M V); getI o i); let vs ← (pure [] : M (List V)); pure (v :: vs)); appendG ov vs); pure .next : M Fl) (do let _ ← (do let ov ← (getv "net"); chkL ov; let vs ← (do let v ← (do let o ← (getv "top"); let i ← (pure (V.int 1) : M V); getI o i); let vs ← (pure [] : M (List V)); pure (v :: vs)); appendG ov vs); pure .next : M Fl))))))
def law_c5_t : V → M Unit := (unpackT 2 (consT (fun v => setv "i" v) (consT (fun v => setv "x" v) (fun _ => pure ()))))
def law_c5_i : M Bool := (pure true : M Bool)
def law_c5_e (l : Nat) : M Unit := (do let v ← (do let vs ← (do let v ← (do let a ← (getv "x"); let b ← (pure (V.int 64) : M V); fdivV a b); let vs ← (do let v ← (getv "i"); let vs ← (do let v ← (do let a ← (getv "x"); let b ← (pure (V.int 8) : M V); fmodV a b); let vs ← (do let v ← (do let a ← (do let a ← (getv "x"); let b ← (pure (V.int 8) : M V); fdivV a b); let b ← (pure (V.int 8) : M V); fmodV a b); let vs ← (pure [] : M (List V)); pure (v :: vs)); pure (v :: vs)); pure (v :: vs)); pure (v :: vs)); mkT vs); appendAt l v)
def law_c5 (l : Nat) (nx : Nat → M (Option V)) : M Unit := loopCG 4096 law_c5_t law_c5_i (law_c5_e l) nx
def law_c6_t : V → M Unit := (fun v => setv "k" v)
def law_c6_i : M Bool := (pure true : M Bool)
def law_c6_e (l : Nat) : M Unit := (do let v ← (do let vs ← (do let v ← (do let o ← (getv "script"); let i ← (do let a ← (getv "k"); let b ← (pure V.none : M V); let c ← (pure (V.int 32) : M V); pure (a, b, c)); sliceV o i); let vs ← (pure [] : M (List V)); pure (v :: vs)); sumB vs); appendAt l v)
def law_c6 (l : Nat) (nxt : S → Nat → Option (Option V)) : M Unit := loopC 4096 law_c6_t law_c6_i (law_c6_e l) nxt
def law_m : M Fl := (seqM (do let v ← (do let a ← (do let vs ← (do let v ← (pure (V.int 584) : M V); let vs ← (do let v ← (pure (V.int 528) : M V); let vs ← (do let v ← (pure (V.int 472) : M V); let vs ← (do let v ← (pure (V.int 416) : M V); let vs ← (do let v ← (pure (V.int 360) : M V); let vs ← (do let v ← (pure (V.int 13) : M V); let vs ← (do let v ← (pure (V.int 529) : M V); let vs ← (do let v ← (do let a ← (pure (V.int 140) : M V); negV a); let vs ← (pure [] : M (List V)); pure (v :: vs)); pure (v :: vs)); pure (v :: vs)); pure (v :: vs)); pure (v :: vs)); pure (v :: vs)); pure (v :: vs)); pure (v :: vs)); newL vs); let b ← ((do let vs ← (do let v ← (do let vs ← (do let v ← (pure (V.int 32) : M V); let vs ← (do let v ← (do let vs ← (do let v ← (getv "script"); let vs ← (pure [] : M (List V)); pure (v :: vs)); lenB vs); let vs ← (pure [] : M (List V)); pure (v :: vs)); pure (v :: vs)); minD vs); let vs ← (pure [] : M (List V)); pure (v :: vs)); rangeB vs) >>= compTail ["script"] law_c6); addV a b); (fun v => setv "drawn" v) v; pure .next : M Fl) (seqM (do let v ← ((do let v ← (getv "drawn"); enumIt v) >>= compTailG [] law_c5); (fun v => setv "ways" v) v; pure .next : M Fl) (seqM (do let v ← (do let vs ← (do let v ← (pure (V.int 0) : M V); let vs ← (pure [] : M (List V)); pure (v :: vs)); newL vs); (fun v => setv "taken" v) v; pure .next : M Fl) (seqM (do let v ← (do let vs ← (pure [] : M (List V)); newL vs); (fun v => setv "net" v) v; pure .next : M Fl) (seqM (do let v ← (do let vs ← (pure [] : M (List V)); newL vs); (fun v => setv "heap" v) v; pure .next : M Fl) (seqM (whileM law_w4_c law_w4_b 4096) (seqM (do let v ← (do let vs ← (do let v ← (getv "ways"); let vs ← (pure [] : M (List V)); pure (v :: vs)); callF f_law_lowest vs); (fun v => setv "low" v) v; pure .next : M Fl) (do let v ← (do let a ← (do let vs ← (do let v ← (getv "net"); let vs ← (pure [] : M (List V)); pure (v :: vs)); sortedB vs); let b ← ((getv "ways") >>= compTail ["low", "taken"] law_c1); eqV a b); pure (.ret v) : M Fl))))))))
def f_law : Fun := funM ["script"] law_m
def law_r : DefRec := recAt prg 6
theorem has_f_law {K : Glo} (hp : ∀ d ∈ recsOf prg, d ∈ recsOf K.p) (hfree : ∀ x ∈ bltNames, K.mg (Str.ofString x) = none) (h_law_lowest : HasF K "_law_lowest" 1 f_law_lowest) (h_siftdown : HasF K "_siftdown" 1 f_siftdown) (hheappop : HasF K "heappop" 3 f_heappop) : HasF K "law" 4 f_law := by
  refine hasF_of (d := law_r) (lvl := 3) (hp _ (List.mem_iff_getElem?.mpr ⟨4, by kernel_rfl⟩)) (by kernel_rfl) (by kernel_rfl) (by kernel_rfl) (by kernel_rfl) (by decide) ?_ ?_ ?_
  · intro pm code doc ws h
    match ws, h with
    | [a0], _ => rfl
  · intro n y hy
    simp only [List.mem_cons, List.not_mem_nil, or_false] at hy
    subst hy
    · exact .inr ⟨by kernel_rfl, rfl⟩
  · intro pm code doc L fa A hr fk
    show SimSs K _ _ law_m
    exact (simSs_cons (simS_assign _ (simT_local "drawn" _ fk (by kernel_rfl)) (simE_bin fk bin_add _ (simE_list _ (simEs_cons (simE_int 584 _ _) (simEs_cons (simE_int 528 _ _) (simEs_cons (simE_int 472 _ _) (simEs_cons (simE_int 416 _ _) (simEs_cons (simE_int 360 _ _) (simEs_cons (simE_int 13 _ _) (simEs_cons (simE_int 529 _ _) (simEs_cons (simE_un fk un_neg _ (simE_int 140 _ _)) simEs_nil))))))))) (simE_listcomp fk ⟨rfl, rfl, by decide +kernel, by decide +kernel, (by intro x hx; simp only [List.mem_cons, List.not_mem_nil, or_false] at hx; rcases hx with rfl <;> exact ⟨by first | exact .inl (by rfl) | exact .inr (by rfl), kne_cell (by kernel_rfl), fun c h => h⟩), (ck_cells (ck_cons rfl ck_nil))⟩ (simE_callB fk rfl (by kernel_rfl) (hfree "range" (by decide)) (by kernel_rfl) built_range (simEs_cons (simE_callB fk rfl (by kernel_rfl) (hfree "min" (by decide)) (by kernel_rfl) built_minD (simEs_cons (simE_int 32 _ _) (simEs_cons (simE_callB fk rfl (by kernel_rfl) (hfree "len" (by decide)) (by kernel_rfl) built_len (simEs_cons (simE_name fk "script" _) simEs_nil)) simEs_nil))) simEs_nil)) (fun C => clauses_of 4096 rfl (fun acc => turn_end rfl rfl (test := none) rfl) (simT_local "k" _ (FOk.comp fk rfl) (by kernel_rfl)) simTest_none (fun l a => simA_emit (FOk.comp fk rfl) (simE_callB (FOk.comp fk rfl) rfl (by kernel_rfl) (hfree "sum" (by decide)) (by kernel_rfl) built_sum (simEs_cons (simE_slice (FOk.comp fk rfl) _ _ (simE_name (FOk.comp fk rfl) "script" _) (simO_some (simE_name (FOk.comp fk rfl) "k" _)) simO_none (simO_some (simE_int 32 _ _))) simEs_nil)) l a))))) (simSs_cons (simS_assign_compG fk ⟨rfl, rfl, by decide +kernel, by decide +kernel, (by intro x hx; cases hx), (by intro x c h; cases h)⟩ (simT_local "ways" _ fk (by kernel_rfl)) (simIt_enum fk (by kernel_rfl) (hfree "enumerate" (by decide)) (simE_name fk "drawn" _)) (fun C => clauses_ofG 4096 rfl (fun acc => turn_end rfl rfl (test := none) rfl) (simT_tuple (FOk.comp fk rfl) _ _ (simTs_cons (simT_local "i" _ (FOk.comp fk rfl) (by kernel_rfl)) (simTs_cons (simT_local "x" _ (FOk.comp fk rfl) (by kernel_rfl)) simTs_nil))) simTest_none (fun l a => simA_emit (FOk.comp fk rfl) (simE_tuple _ _ (simEs_cons (simE_bin (FOk.comp fk rfl) bin_fdiv _ (simE_name (FOk.comp fk rfl) "x" _) (simE_int 64 _ _)) (simEs_cons (simE_name (FOk.comp fk rfl) "i" _) (simEs_cons (simE_bin (FOk.comp fk rfl) bin_fmod _ (simE_name (FOk.comp fk rfl) "x" _) (simE_int 8 _ _)) (simEs_cons (simE_bin (FOk.comp fk rfl) bin_fmod _ (simE_bin (FOk.comp fk rfl) bin_fdiv _ (simE_name (FOk.comp fk rfl) "x" _) (simE_int 8 _ _)) (simE_int 8 _ _)) simEs_nil))))) l a))) (simSs_cons (simS_assign _ (simT_cellD "taken" _ fk (by kernel_rfl) rfl) (simE_list _ (simEs_cons (simE_int 0 _ _) simEs_nil))) (simSs_cons (simS_assign _ (simT_local "net" _ fk (by kernel_rfl)) (simE_list _ simEs_nil)) (simSs_cons (simS_assign _ (simT_local "heap" _ fk (by kernel_rfl)) (simE_list _ simEs_nil)) (simSs_cons (simS_while _ 4096 (simB_val fk tru_ok (simE_bool true _ _)) (simSs_cons (simS_for fk _ 4096 (simE_name fk "ways" _) (simT_tuple fk _ _ (simTs_cons (simT_local "weight" _ fk (by kernel_rfl)) (simTs_cons (simT_local "i" _ fk (by kernel_rfl)) (simTs_cons (simT_local "a" _ fk (by kernel_rfl)) (simTs_cons (simT_local "b" _ fk (by kernel_rfl)) simTs_nil))))) (simSs_cons (simS_assign _ (simT_local "other" _ fk (by kernel_rfl)) (simE_bin fk bin_sub _ (simE_bin fk bin_add _ (simE_name fk "a" _) (simE_name fk "b" _)) (simE_sub fk _ (simE_name fk "taken" _) (simE_un fk un_neg _ (simE_int 1 _ _))))) (simSs_one (simS_if _ (simB_boolop _ (simAll_and (simB_cmp fk cmp_in tru_ok _ (simE_sub fk _ (simE_name fk "taken" _) (simE_un fk un_neg _ (simE_int 1 _ _))) (simE_tuple _ _ (simEs_cons (simE_name fk "a" _) (simEs_cons (simE_name fk "b" _) simEs_nil)))) (simAll_and (simB_cmp fk cmp_notIn tru_ok _ (simE_name fk "other" _) (simE_name fk "taken" _)) simAll_and_nil))) (simSs_cons (simS_assign_comp fk ⟨rfl, rfl, by decide +kernel, by decide +kernel, (by intro x hx; cases hx), (by intro x c h; cases h)⟩ (simT_local "known" _ fk (by kernel_rfl)) (simE_name fk "heap" _) (fun C => clauses_of 4096 rfl (fun acc => turn_end rfl rfl (test := none) rfl) (simT_local "one" _ (FOk.comp fk rfl) (by kernel_rfl)) simTest_none (fun l a => simA_emit (FOk.comp fk rfl) (simE_sub (FOk.comp fk rfl) _ (simE_name (FOk.comp fk rfl) "one" _) (simE_int 2 _ _)) l a))) (simSs_cons (simS_if _ (simB_cmp fk cmp_notIn tru_ok _ (simE_name fk "other" _) (simE_name fk "known" _)) (simSs_cons (simS_expr fk _ (simE_meth fk PySem.F.slot_list_append PySem.F.type_list_append (simE_name fk "heap" _) (simEs_cons (simE_tuple _ _ (simEs_cons (simE_name fk "weight" _) (simEs_cons (simE_name fk "i" _) (simEs_cons (simE_name fk "other" _) simEs_nil)))) simEs_nil) meth_append)) (simSs_one (simS_assign _ (simT_local "at" _ fk (by kernel_rfl)) (simE_bin fk bin_sub _ (simE_callB fk rfl (by kernel_rfl) (hfree "len" (by decide)) (by kernel_rfl) built_len (simEs_cons (simE_name fk "heap" _) simEs_nil)) (simE_int 1 _ _))))) (simSs_one (simS_if _ (simB_cmp fk cmp_lt tru_ok _ (simE_tuple _ _ (simEs_cons (simE_name fk "weight" _) (simEs_cons (simE_name fk "i" _) simEs_nil))) (simE_sliceT fk _ _ (simE_sub fk _ (simE_name fk "heap" _) (simE_meth fk PySem.F.slot_list_index PySem.F.type_list_index (simE_name fk "known" _) (simEs_cons (simE_name fk "other" _) simEs_nil) meth_index)) simO_none (simO_some (simE_int 2 _ _)) simO_none)) (simSs_cons (simS_assign _ (simT_local "at" _ fk (by kernel_rfl)) (simE_meth fk PySem.F.slot_list_index PySem.F.type_list_index (simE_name fk "known" _) (simEs_cons (simE_name fk "other" _) simEs_nil) meth_index)) (simSs_one (simS_assign _ (simT_sub fk _ (simE_name fk "heap" _) (simE_name fk "at" _)) (simE_tuple _ _ (simEs_cons (simE_name fk "weight" _) (simEs_cons (simE_name fk "i" _) (simEs_cons (simE_name fk "other" _) simEs_nil))))))) (simSs_one (simS_continue _))))) (simSs_one (simS_if _ (simB_cmp fk cmp_isNot tru_ok _ (simE_callF fk h_siftdown (hr.le (by decide)) (simEs_cons (simE_name fk "heap" _) (simEs_cons (simE_int 0 _ _) (simEs_cons (simE_name fk "at" _) simEs_nil)))) (simE_none _ _)) (simSs_one (simS_return _ (simE_bool false _ _))) simSs_nil)))) simSs_nil)))) (simSs_cons (simS_if _ (simB_cmp fk cmp_eq tru_ok _ (simE_name fk "heap" _) (simE_list _ simEs_nil)) (simSs_one (simS_break _)) simSs_nil) (simSs_cons (simS_assign _ (simT_local "top" _ fk (by kernel_rfl)) (simE_callB fk rfl (by kernel_rfl) (hfree "min" (by decide)) (by kernel_rfl) built_minD (simEs_cons (simE_name fk "heap" _) simEs_nil))) (simSs_cons (simS_if _ (simB_cmp fk cmp_ne tru_ok _ (simE_callF fk hheappop (hr.le (by decide)) (simEs_cons (simE_name fk "heap" _) simEs_nil)) (simE_name fk "top" _)) (simSs_one (simS_return _ (simE_bool false _ _))) simSs_nil) (simSs_cons (simS_expr fk _ (simE_meth fk PySem.F.slot_list_append PySem.F.type_list_append (simE_name fk "taken" _) (simEs_cons (simE_sub fk _ (simE_name fk "top" _) (simE_int 2 _ _)) simEs_nil) meth_append)) (simSs_one (simS_expr fk _ (simE_meth fk PySem.F.slot_list_append PySem.F.type_list_append (simE_name fk "net" _) (simEs_cons (simE_sub fk _ (simE_name fk "top" _) (simE_int 1 _ _)) simEs_nil) meth_append))))))))) (simSs_cons (simS_assign _ (simT_cellD "low" _ fk (by kernel_rfl) rfl) (simE_callF fk h_law_lowest (hr.le (by decide)) (simEs_cons (simE_name fk "ways" _) simEs_nil))) (simSs_one (simS_return _ (simE_cmp fk cmp_eq _ (simE_callB fk rfl (by kernel_rfl) (hfree "sorted" (by decide)) (by kernel_rfl) built_sorted (simEs_cons (simE_name fk "net" _) simEs_nil)) (simE_listcomp fk ⟨rfl, rfl, by decide +kernel, by decide +kernel, (by intro x hx; simp only [List.mem_cons, List.not_mem_nil, or_false] at hx; rcases hx with rfl | rfl <;> exact ⟨by first | exact .inl (by rfl) | exact .inr (by rfl), kne_cell (by kernel_rfl), fun c h => h⟩), (ck_cells (ck_cons rfl (ck_cons rfl ck_nil)))⟩ (simE_name fk "ways" _) (fun C => clauses_of 4096 rfl (fun acc => turn_end rfl rfl (test := (some _)) rfl) (simT_tuple (FOk.comp fk rfl) _ _ (simTs_cons (simT_local "weight" _ (FOk.comp fk rfl) (by kernel_rfl)) (simTs_cons (simT_local "i" _ (FOk.comp fk rfl) (by kernel_rfl)) (simTs_cons (simT_local "a" _ (FOk.comp fk rfl) (by kernel_rfl)) (simTs_cons (simT_local "b" _ (FOk.comp fk rfl) (by kernel_rfl)) simTs_nil))))) (simTest_some (simB_boolop _ (simAll_and (simB_cmp (FOk.comp fk rfl) cmp_ne tru_ok _ (simE_name (FOk.comp fk rfl) "a" _) (simE_name (FOk.comp fk rfl) "b" _)) (simAll_and (simB_cmp (FOk.comp fk rfl) cmp_in tru_ok _ (simE_name (FOk.comp fk rfl) "a" _) (simE_name (FOk.comp fk rfl) "taken" _)) (simAll_and (simB_cmp (FOk.comp fk rfl) cmp_eq tru_ok _ (simE_sub (FOk.comp fk rfl) _ (simE_sub (FOk.comp fk rfl) _ (simE_name (FOk.comp fk rfl) "low" _) (simE_name (FOk.comp fk rfl) "a" _)) (simE_name (FOk.comp fk rfl) "b" _)) (simE_tuple _ _ (simEs_cons (simE_name (FOk.comp fk rfl) "weight" _) (simEs_cons (simE_name (FOk.comp fk rfl) "i" _) simEs_nil)))) simAll_and_nil))))) (fun l a => simA_emit (FOk.comp fk rfl) (simE_name (FOk.comp fk rfl) "i" _) l a)))))))))))))

theorem has_all {K : Glo} (hp : ∀ d ∈ recsOf prg, d ∈ recsOf K.p) (hfree : ∀ x ∈ bltNames, K.mg (Str.ofString x) = none) : HasF K "law" 4 f_law := by
  have h_siftdown := has_f_siftdown hp hfree
  have h_siftup := has_f_siftup hp hfree h_siftdown
  have hheappop := has_f_heappop hp hfree h_siftup
  have h_law_lowest := has_f_law_lowest hp hfree
  have hlaw := has_f_law hp hfree h_law_lowest h_siftdown hheappop
  exact hlaw

end Mine


/-! part L02a -/
set_option autoImplicit false
set_option maxRecDepth 100000
set_option linter.unusedVariables false
set_option linter.unusedSimpArgs false
open PySem PySem.W PyProof.Rows
namespace Mine

def wayV (wys : List Wy) (i : Nat) : V := tI [(nth wys i).1, (i : Int), ((nth wys i).2.1 : Int), ((nth wys i).2.2 : Int)]
def waysV (wys : List Wy) : List V := (List.range wys.length).map (wayV wys)
theorem waysV_get {wys : List Wy} {i : Nat} (h : i < wys.length) : (waysV wys)[i]? = some (wayV wys i) := by simp [waysV, h]
theorem keyOf_eq {wys : List Wy} {i : Nat} (h : i < wys.length) : keyOf wys i = [(nth wys i).1, (i : Int)] := by
  unfold keyOf; rw [nth_eq h]; rfl
theorem joins_self {wys : List Wy} {i : Nat} (h : i < wys.length) : Joins wys i (nth wys i).2.1 (nth wys i).2.2 := ⟨_, nth_eq h, .inl ⟨rfl, rfl⟩⟩
theorem joins_lt {wys : List Wy} {i x y : Nat} (h : Joins wys i x y) : i < wys.length := by
  obtain ⟨p, e, _⟩ := h; exact (List.getElem?_eq_some_iff.mp e).1
theorem joins_is {wys : List Wy} {i x y : Nat} (h : Joins wys i x y) : ((nth wys i).2.1 = x ∧ (nth wys i).2.2 = y) ∨ ((nth wys i).2.1 = y ∧ (nth wys i).2.2 = x) := by
  obtain ⟨p, e, q⟩ := h
  have : nth wys i = p := by unfold nth; rw [e]; rfl
  rw [this]; exact q

/-! ### the matrix -/
structure Mat (st : Store) (lm : Nat) (r : Nat → Nat) (L : Mx) : Prop where
  top : st[lm]? = some (.lst ((List.range 8).map fun a => V.obj (r a)))
  row : ∀ a, a < 8 → st[r a]? = some (.lst ((List.range 8).map fun b => tI (L a b)))
  inj : ∀ a b, a < 8 → b < 8 → r a = r b → a = b
  pos : ∀ a, a < 8 → r a ≠ 0 ∧ r a ≠ lm
theorem Mat.congr {st : Store} {lm : Nat} {r : Nat → Nat} {L L' : Mx} (h : Mat st lm r L) (e : ∀ a b, a < 8 → b < 8 → L a b = L' a b) : Mat st lm r L' := by
  refine ⟨h.top, fun a ha => ?_, h.inj, h.pos⟩
  rw [h.row a ha]
  congr 2
  refine List.map_congr_left fun b hb => ?_
  rw [e a b ha (by simpa using hb)]
theorem Mat.pres {st st' : Store} {lm : Nat} {r : Nat → Nat} {L : Mx} (h : Mat st lm r L) (p : Pres [] st st') : Mat st' lm r L :=
  ⟨p.get0 h.top, fun a ha => p.get0 (h.row a ha), h.inj, h.pos⟩
def upd (L : Mx) (a b : Nat) (x : List Int) : Mx := fun a' b' => if a' = a ∧ b' = b then x else L a' b'
section
variable {σ : S} {lm : Nat} {r : Nat → Nat} {L : Mx}
theorem MW_mrow {a : Nat} {Q : V → S → Prop} (h : Mat σ.st lm r L) (ha : a < 8) : MW (getI (.obj lm) (.int (a : Int))) σ Q ↔ Q (.obj (r a)) σ :=
  MW_getI h.top (j := a) (by rw [ix_nat, if_pos (by simpa using ha)]) (by simp [ha])
theorem MW_mget {a b : Nat} {Q : V → S → Prop} (h : Mat σ.st lm r L) (ha : a < 8) (hb : b < 8) : MW (getI (.obj (r a)) (.int (b : Int))) σ Q ↔ Q (tI (L a b)) σ :=
  MW_getI (h.row a ha) (j := b) (by rw [ix_nat, if_pos (by simpa using hb)]) (by simp [hb])
theorem MW_mset {a b : Nat} {x : List Int} {Q : Unit → S → Prop} (h : Mat σ.st lm r L) (ha : a < 8) (hb : b < 8) (R : List Nat) (hR : ∀ a, a < 8 → r a ∈ R)
    (q : ∀ st', Mat st' lm r (upd L a b x) → Pres R σ.st st' → Q () ⟨st', σ.lo⟩) : MW (setI (.obj (r a)) (.int (b : Int)) (tI x)) σ Q := by
  refine (MW_setI (j := b) (h.row a ha) (h.pos a ha).1 rfl (by simpa using hb)).mpr (q _ ⟨?_, ?_, h.inj, h.pos⟩ (Pres.set (hR a ha)))
  · rw [List.getElem?_set_ne (h.pos a ha).2]; exact h.top
  · intro c hc
    by_cases e : c = a
    · subst e
      rw [set_self (lt_of_get (h.row c hc))]
      congr 2
      apply List.ext_getElem
      · simp
      · intro i h1 h2
        simp only [List.getElem_set, List.getElem_map, List.getElem_range, upd, true_and]
        by_cases e2 : b = i
        · subst e2; simp
        · rw [if_neg e2, if_neg (Ne.symm e2)]
    · rw [List.getElem?_set_ne (fun q => e (h.inj c a hc ha q.symm)), h.row c hc]
      congr 2
      refine List.map_congr_left fun b' _ => ?_
      unfold upd
      rw [if_neg (fun q => e q.1)]
end

/-! ### the phases -/
def mixL (L : Mx) (m a b : Nat) : Mx := fun x y => if x ≠ y ∧ (max x y < a ∨ (max x y = a ∧ min x y < b)) then phase L m x y else L x y
theorem mixL_mid {L : Mx} (h : Sym L) (m a b x : Nat) : mixL L m a b x m = L x m ∧ mixL L m a b m x = L m x := by
  obtain ⟨h1, h2⟩ := phase_mid h m x
  unfold mixL
  constructor
  · split
    · exact h1
    · rfl
  · split
    · exact h2
    · rfl
theorem mixL_step {L : Mx} (h : Sym L) {m a b : Nat} (hb : b < a) : ∀ x y, upd (upd (mixL L m a b) a b (phase L m a b)) b a (phase L m a b) x y = mixL L m a (b + 1) x y := by
  intro x y
  unfold upd mixL
  by_cases h1 : x = b ∧ y = a
  · obtain ⟨rfl, rfl⟩ := h1
    rw [if_pos ⟨rfl, rfl⟩, if_pos ⟨by (first | lia | omega), by (first | lia | omega)⟩]
    exact (h.phase m) y x
  · rw [if_neg h1]
    by_cases h2 : x = a ∧ y = b
    · obtain ⟨rfl, rfl⟩ := h2
      rw [if_pos ⟨rfl, rfl⟩, if_pos ⟨by (first | lia | omega), by (first | lia | omega)⟩]
    · rw [if_neg h2]
      have : (x ≠ y ∧ (max x y < a ∨ (max x y = a ∧ min x y < b))) ↔ (x ≠ y ∧ (max x y < a ∨ (max x y = a ∧ min x y < b + 1))) := by
        constructor
        · rintro ⟨q1, q2⟩; exact ⟨q1, by (first | lia | omega)⟩
        · rintro ⟨q1, q2⟩; exact ⟨q1, by (first | lia | omega)⟩
      by_cases q : x ≠ y ∧ (max x y < a ∨ (max x y = a ∧ min x y < b))
      · rw [if_pos q, if_pos (this.mp q)]
      · rw [if_neg q, if_neg (fun q' => q (this.mpr q'))]
theorem mixL_row (L : Mx) (m a : Nat) : ∀ x y, mixL L m a a x y = mixL L m (a + 1) 0 x y := by
  intro x y
  unfold mixL
  have : (x ≠ y ∧ (max x y < a ∨ (max x y = a ∧ min x y < a))) ↔ (x ≠ y ∧ (max x y < a + 1 ∨ (max x y = a + 1 ∧ min x y < 0))) := by
    constructor
    · rintro ⟨q1, q2⟩; exact ⟨q1, by (first | lia | omega)⟩
    · rintro ⟨q1, q2⟩; exact ⟨q1, by (first | lia | omega)⟩
  by_cases q : x ≠ y ∧ (max x y < a ∨ (max x y = a ∧ min x y < a))
  · rw [if_pos q, if_pos (this.mp q)]
  · rw [if_neg q, if_neg (fun q' => q (this.mpr q'))]
theorem mixL_start (L : Mx) (m : Nat) : ∀ x y, L x y = mixL L m 0 0 x y := by
  intro x y; unfold mixL; rw [if_neg (by (first | lia | omega))]
theorem mixL_end (L : Mx) (m : Nat) : ∀ x y, x < 8 → y < 8 → mixL L m 8 0 x y = phase L m x y := by
  intro x y hx hy
  unfold mixL
  by_cases e : x = y
  · subst e; rw [if_neg (by (first | lia | omega))]; unfold phase; rw [if_pos rfl]
  · rw [if_pos ⟨e, by (first | lia | omega)⟩]

theorem phase_loop {σ : S} {lm : Nat} {r : Nat → Nat} {L : Mx} {m : Nat} (hm : m < 8) (hs : Sym L) (h : Mat σ.st lm r L) (l1 : σ.lo "low" = some (.obj lm)) (l2 : σ.lo "mid" = some (.int (m : Int))) (R : List Nat) (hR : ∀ a, a < 8 → r a ∈ R) :
    MW law_lowest_l3_b σ (fun f σ' => f = .next ∧ σ'.lo "low" = some (.obj lm) ∧ Mat σ'.st lm r (phase L m) ∧ Pres R σ.st σ'.st) := by
  unfold law_lowest_l3_b
  try simp only [MW_bind, MW_getv, MW_pure, MW_setv, put_lo, put_st, if_true, if_false, String.reduceEq, Option.some.injEq, exists_eq_left', MW_add, MW_sub, MW_neg, MW_tru, MW_lt_int, MW_gt, MW_ge, MW_le, MW_eqI, MW_neI, MW_isNone, MW_isNotNone, Bool.false_eq_true, Bool.not_true, Bool.not_false, rangeB]
  refine (MW_fun_ok (ok_rng (rngU_small (by (first | lia | omega)) (by (first | lia | omega)) (by (first | lia | omega))))).mpr ?_
  refine MW_for 8 (fun i σ' => σ'.lo "low" = some (.obj lm) ∧ σ'.lo "mid" = some (.int (m : Int)) ∧ Mat σ'.st lm r (mixL L m i 0) ∧ Pres R σ.st σ'.st) ?_ ?_ 4096 0 _ (by (first | lia | omega)) (by (first | lia | omega))
    ⟨l1, l2, h.congr fun a b _ _ => mixL_start L m a b, Pres.refl _ _⟩
  · rintro σ' ⟨a1, a2, a3, a4⟩
    refine ⟨by rw [nxt_rngU (n := 8) _ _ (by rfl)]; rfl, rfl, a1, a3.congr (mixL_end L m), a4⟩
  · rintro i σ' hi ⟨a1, a2, a3, a4⟩
    refine ⟨.int (i : Int), by rw [nxt_rngU (n := 8) _ _ (by rfl)]; simp [hi], ?_⟩
    unfold law_lowest_l2_t law_lowest_l2_b
    try simp only [MW_bind, MW_getv, MW_pure, MW_setv, put_lo, put_st, if_true, if_false, String.reduceEq, Option.some.injEq, exists_eq_left', MW_add, MW_sub, MW_neg, MW_tru, MW_lt_int, MW_gt, MW_ge, MW_le, MW_eqI, MW_neI, MW_isNone, MW_isNotNone, Bool.false_eq_true, Bool.not_true, Bool.not_false, rangeB]
    refine (MW_fun_ok (ok_rng (rngU_small (by (first | lia | omega)) (by (first | lia | omega)) (by (first | lia | omega))))).mpr ?_
    refine MW_for i (fun j σ'' => σ''.lo "low" = some (.obj lm) ∧ σ''.lo "mid" = some (.int (m : Int)) ∧ σ''.lo "a" = some (.int (i : Int)) ∧ Mat σ''.st lm r (mixL L m i j) ∧ Pres R σ.st σ''.st) ?_ ?_ 4096 0 _ (by (first | lia | omega)) (by (first | lia | omega))
      ⟨(by simp only [put_lo, String.reduceEq, if_true, if_false]; exact a1), (by simp only [put_lo, String.reduceEq, if_true, if_false]; exact a2), (by simp only [put_lo, String.reduceEq, if_true, if_false]), a3, a4⟩
    · rintro σ'' ⟨b1, b2, b3, b4, b5⟩
      refine ⟨by rw [nxt_rngU (n := i) _ _ (by (first | lia | omega))]; simp, ?_⟩
      exact ⟨b1, b2, b4.congr fun a b _ _ => mixL_row L m i a b, b5⟩
    · rintro j σ'' hj ⟨b1, b2, b3, b4, b5⟩
      refine ⟨.int (j : Int), by rw [nxt_rngU (n := i) _ _ (by (first | lia | omega))]; simp [hj], ?_⟩
      unfold law_lowest_l1_t law_lowest_l1_b
      rw [MW_setv]
      first | (subst hRs; refine MW_seqR fun Rs hRs => ?_) | refine MW_seqR fun Rs hRs => ?_
      have hj8 : j < 8 := by (first | lia | omega)
      try simp only [MW_bind, MW_getv, MW_pure, MW_setv, put_lo, put_st, if_true, if_false, String.reduceEq, Option.some.injEq, exists_eq_left', MW_add, MW_sub, MW_neg, MW_tru, MW_lt_int, MW_gt, MW_ge, MW_le, MW_eqI, MW_neI, MW_isNone, MW_isNotNone, Bool.false_eq_true, Bool.not_true, Bool.not_false, rangeB, b1, b2, b3]
      have b4' : Mat (σ''.put "b" (.int (j : Int))).st lm r (mixL L m i j) := b4
      refine (MW_mrow b4' hi).mpr ?_
      try simp only [MW_bind, MW_getv, MW_pure, MW_setv, put_lo, put_st, if_true, if_false, String.reduceEq, Option.some.injEq, exists_eq_left', MW_add, MW_sub, MW_neg, MW_tru, MW_lt_int, MW_gt, MW_ge, MW_le, MW_eqI, MW_neI, MW_isNone, MW_isNotNone, Bool.false_eq_true, Bool.not_true, Bool.not_false, rangeB, b1, b2, b3]
      refine (MW_mget b4' hi hj8).mpr ?_
      try simp only [MW_bind, MW_getv, MW_pure, MW_setv, put_lo, put_st, if_true, if_false, String.reduceEq, Option.some.injEq, exists_eq_left', MW_add, MW_sub, MW_neg, MW_tru, MW_lt_int, MW_gt, MW_ge, MW_le, MW_eqI, MW_neI, MW_isNone, MW_isNotNone, Bool.false_eq_true, Bool.not_true, Bool.not_false, rangeB, b1, b2, b3]
      refine (MW_mrow b4' hi).mpr ?_
      try simp only [MW_bind, MW_getv, MW_pure, MW_setv, put_lo, put_st, if_true, if_false, String.reduceEq, Option.some.injEq, exists_eq_left', MW_add, MW_sub, MW_neg, MW_tru, MW_lt_int, MW_gt, MW_ge, MW_le, MW_eqI, MW_neI, MW_isNone, MW_isNotNone, Bool.false_eq_true, Bool.not_true, Bool.not_false, rangeB, b1, b2, b3]
      refine (MW_mget b4' hi hm).mpr ?_
      try simp only [MW_bind, MW_getv, MW_pure, MW_setv, put_lo, put_st, if_true, if_false, String.reduceEq, Option.some.injEq, exists_eq_left', MW_add, MW_sub, MW_neg, MW_tru, MW_lt_int, MW_gt, MW_ge, MW_le, MW_eqI, MW_neI, MW_isNone, MW_isNotNone, Bool.false_eq_true, Bool.not_true, Bool.not_false, rangeB, b1, b2, b3]
      refine (MW_mrow b4' hm).mpr ?_
      try simp only [MW_bind, MW_getv, MW_pure, MW_setv, put_lo, put_st, if_true, if_false, String.reduceEq, Option.some.injEq, exists_eq_left', MW_add, MW_sub, MW_neg, MW_tru, MW_lt_int, MW_gt, MW_ge, MW_le, MW_eqI, MW_neI, MW_isNone, MW_isNotNone, Bool.false_eq_true, Bool.not_true, Bool.not_false, rangeB, b1, b2, b3]
      refine (MW_mget b4' hm hj8).mpr ?_
      rw [MW_max2T]
      rw [MW_min2T]
      have hval : (if lexB (if lexB (mixL L m i j i m) (mixL L m i j m j) = true then mixL L m i j m j else mixL L m i j i m) (mixL L m i j i j) = true then (if lexB (mixL L m i j i m) (mixL L m i j m j) = true then mixL L m i j m j else mixL L m i j i m) else mixL L m i j i j) = phase L m i j := by
        rw [(mixL_mid hs m i j i).1, (mixL_mid hs m i j j).2]
        have : mixL L m i j i j = L i j := by unfold mixL; rw [if_neg (by (first | lia | omega))]
        rw [this]
        have e2 : phase L m i j = kmin (L i j) (kmax (L i m) (L m j)) := if_neg (by (first | lia | omega))
        rw [e2]; rfl
      rw [hval]
      try simp only [MW_bind, MW_getv, MW_pure, MW_setv, put_lo, put_st, if_true, if_false, String.reduceEq, Option.some.injEq, exists_eq_left', MW_add, MW_sub, MW_neg, MW_tru, MW_lt_int, MW_gt, MW_ge, MW_le, MW_eqI, MW_neI, MW_isNone, MW_isNotNone, Bool.false_eq_true, Bool.not_true, Bool.not_false, rangeB, b1, b2, b3]
      refine (MW_mrow b4' hi).mpr ?_
      try simp only [MW_bind, MW_getv, MW_pure, MW_setv, put_lo, put_st, if_true, if_false, String.reduceEq, Option.some.injEq, exists_eq_left', MW_add, MW_sub, MW_neg, MW_tru, MW_lt_int, MW_gt, MW_ge, MW_le, MW_eqI, MW_neI, MW_isNone, MW_isNotNone, Bool.false_eq_true, Bool.not_true, Bool.not_false, rangeB, b1, b2, b3]
      refine MW_mset b4' hi hj8 R hR fun st1 h1 p1 => ?_
      subst hRs
      try simp only [MW_bind, MW_getv, MW_pure, MW_setv, put_lo, put_st, if_true, if_false, String.reduceEq, Option.some.injEq, exists_eq_left', MW_add, MW_sub, MW_neg, MW_tru, MW_lt_int, MW_gt, MW_ge, MW_le, MW_eqI, MW_neI, MW_isNone, MW_isNotNone, Bool.false_eq_true, Bool.not_true, Bool.not_false, rangeB, b1, b2, b3]
      refine (MW_mrow (σ := ⟨st1, _⟩) h1 hi).mpr ?_
      try simp only [MW_bind, MW_getv, MW_pure, MW_setv, put_lo, put_st, if_true, if_false, String.reduceEq, Option.some.injEq, exists_eq_left', MW_add, MW_sub, MW_neg, MW_tru, MW_lt_int, MW_gt, MW_ge, MW_le, MW_eqI, MW_neI, MW_isNone, MW_isNotNone, Bool.false_eq_true, Bool.not_true, Bool.not_false, rangeB, b1, b2, b3]
      refine (MW_mget (σ := ⟨st1, _⟩) h1 hi hj8).mpr ?_
      try simp only [MW_bind, MW_getv, MW_pure, MW_setv, put_lo, put_st, if_true, if_false, String.reduceEq, Option.some.injEq, exists_eq_left', MW_add, MW_sub, MW_neg, MW_tru, MW_lt_int, MW_gt, MW_ge, MW_le, MW_eqI, MW_neI, MW_isNone, MW_isNotNone, Bool.false_eq_true, Bool.not_true, Bool.not_false, rangeB, b1, b2, b3]
      refine (MW_mrow (σ := ⟨st1, _⟩) h1 hj8).mpr ?_
      try simp only [MW_bind, MW_getv, MW_pure, MW_setv, put_lo, put_st, if_true, if_false, String.reduceEq, Option.some.injEq, exists_eq_left', MW_add, MW_sub, MW_neg, MW_tru, MW_lt_int, MW_gt, MW_ge, MW_le, MW_eqI, MW_neI, MW_isNone, MW_isNotNone, Bool.false_eq_true, Bool.not_true, Bool.not_false, rangeB, b1, b2, b3]
      have e : upd (mixL L m i j) i j (phase L m i j) i j = phase L m i j := by simp [upd]
      rw [e]
      refine MW_mset (σ := ⟨st1, _⟩) h1 hj8 hi R hR fun st2 h2 p2 => ?_
      try simp only [MW_bind, MW_getv, MW_pure, MW_setv, put_lo, put_st, if_true, if_false, String.reduceEq, Option.some.injEq, exists_eq_left', MW_add, MW_sub, MW_neg, MW_tru, MW_lt_int, MW_gt, MW_ge, MW_le, MW_eqI, MW_neI, MW_isNone, MW_isNotNone, Bool.false_eq_true, Bool.not_true, Bool.not_false, rangeB, b1, b2, b3]
      exact ⟨trivial, trivial, trivial, h2.congr fun x y _ _ => mixL_step hs hj x y, b5.trans (p1.trans p2)⟩

end Mine


/-! part L02b -/
set_option autoImplicit false
set_option maxRecDepth 100000
set_option linter.unusedVariables false
set_option linter.unusedSimpArgs false
open PySem PySem.W PyProof.Rows
namespace Mine

theorem Pres.ofNew {R : List Nat} {a b : Store} (p : Pres R a b) (h : ∀ k ∈ R, a.length ≤ k) : Pres [] a b :=
  ⟨p.1, fun k hk _ => p.2 k hk fun q => by have := h k q; (first | lia | omega)⟩

theorem MW_unpack4 {σ : S} {m : List V → M Unit} {a b c d : V} {Q : Unit → S → Prop} : MW (unpackT 4 m (.tup [a, b, c, d])) σ Q ↔ MW (m [a, b, c, d]) σ Q := MW_unpack rfl
theorem weights_ok {σ : S} {wys : List Wy} {l : Nat} {Q : V → S → Prop} (hl : σ.st[l]? = some (.lst (waysV wys))) (hn : wys.length ≤ 1000)
    (q : ∀ k st', Pres [] σ.st st' → σ.st.length ≤ k → st'[k]? = some (.lst ((wys.map (·.1)).map V.int)) → Q (.obj k) ⟨st', σ.lo⟩) : MW (compTail [] law_lowest_c6 (.obj l)) σ Q := by
  refine MW_compPure (us := waysV wys) (n := 4096) (t := law_lowest_c6_t) (c := law_lowest_c6_i) (e := (do let o ← (getv "way"); let i ← (pure (V.int 0) : M V); getI o i))
    (fun v => match v with | .tup (a :: _) => some a | _ => none)
    (fun _ _ => rfl) (ok_obj hl) (by have := lt_of_get hl; (first | lia | omega)) (nxt_obj hl) (by simp [waysV]; (first | lia | omega)) (by simp [waysV]; (first | lia | omega)) ?_ ?_
  · intro v hv σ' hag hlo
    obtain ⟨i, hi, rfl⟩ := List.mem_map.mp hv
    unfold law_lowest_c6_t law_lowest_c6_i
    try simp only [MW_bind, MW_getv, MW_pure, MW_setv, put_lo, put_st, if_true, if_false, String.reduceEq, Option.some.injEq, exists_eq_left', MW_add, MW_sub, MW_neg, MW_tru, MW_lt_int, MW_gt, MW_ge, MW_le, MW_eqI, MW_neI, MW_isNone, MW_isNotNone, Bool.false_eq_true, Bool.not_true, Bool.not_false, rangeB]
    refine ⟨trivial, by intro x hx; simp at hx, trivial, trivial, ?_⟩
    unfold wayV
    exact (MW_getTI (j := 0) rfl (by simp)).mpr ⟨rfl, rfl⟩
  · intro k st' p f g
    refine q k st' p f ?_
    rw [g]
    congr 2
    unfold waysV
    rw [List.filterMap_map, List.map_map, ← List.filterMap_eq_map]
    have e : wys = (List.range wys.length).map (nth wys) := by
      apply List.ext_getElem
      · simp
      · intro i h1 h2; simp [nth_getElem h1]
    conv => rhs; rw [e]
    rw [List.filterMap_map]
    congr 1

theorem rows_ok {σ : S} {far : List Int} {Q : V → S → Prop} (l1 : σ.lo "far" = some (tI far)) (h0 : 0 < σ.st.length)
    (q : ∀ st' r, Pres [] σ.st st' → Mat st' σ.st.length r (fun _ _ => far) → (∀ a, a < 8 → σ.st.length ≤ r a) → Q (.obj σ.st.length) ⟨st', σ.lo⟩) : MW (compTail ["far"] law_lowest_c5 (.rng 0 8 1)) σ Q := by
  refine MW_compTail (ok_rng (rngU_small (by (first | lia | omega)) (by (first | lia | omega)) (by (first | lia | omega)))) ?_
  show MW (loopC 4096 law_lowest_c5_t law_lowest_c5_i (law_lowest_c5_e σ.st.length) (nxtOf (.rng 0 8 1))) _ _
  refine MW_loopC 8 (fun i σ' => ∃ r : Nat → Nat, Pres [] σ.st σ'.st ∧ σ'.lo "far" = some (tI far) ∧ σ'.st[σ.st.length]? = some (.lst ((List.range i).map fun a => V.obj (r a))) ∧ (∀ a, a < i → σ'.st[r a]? = some (.lst ((List.range 8).map fun _ => tI far)) ∧ σ.st.length < r a) ∧ (∀ a b, a < i → b < i → r a = r b → a = b)) ?_ ?_ 4096 _ (by (first | lia | omega))
    ⟨fun _ => 0, Pres.app .., by simp [restr, l1], by simp, by (first | lia | omega), by (first | lia | omega)⟩
  · rintro σ' ⟨r, p, a1, a2, a3, a4⟩
    refine ⟨by rw [nxt_rngU (n := 8) _ _ (by rfl)]; rfl, ?_⟩
    exact q _ r p ⟨a2, fun a ha => (a3 a ha).1, a4, fun a ha => by have := (a3 a ha).2; (first | lia | omega)⟩ (fun a ha => by have := (a3 a ha).2; (first | lia | omega))
  · rintro i σ' hi ⟨r, p, a1, a2, a3, a4⟩
    refine ⟨.int (i : Int), by rw [nxt_rngU (n := 8) _ _ (by rfl)]; simp [hi], ?_⟩
    unfold law_lowest_c5_t law_lowest_c5_i law_lowest_c5_e
    try simp only [MW_bind, MW_getv, MW_pure, MW_setv, put_lo, put_st, if_true, if_false, String.reduceEq, Option.some.injEq, exists_eq_left', MW_add, MW_sub, MW_neg, MW_tru, MW_lt_int, MW_gt, MW_ge, MW_le, MW_eqI, MW_neI, MW_isNone, MW_isNotNone, Bool.false_eq_true, Bool.not_true, Bool.not_false, rangeB, a1]
    have hl := lt_of_get a2
    refine MW_newL' (by simp) fun k1 st1 p1 f1 g1 => ?_
    simp only [put_st] at p1 f1
    refine MW_mulL' (by exact g1) (by simp) fun k2 st2 p2 f2 g2 => ?_
    simp only at p2 f2
    have e8 : (List.replicate (8 : Int).toNat [tI far]).flatten = (List.range 8).map fun _ => tI far := rfl
    rw [e8] at g2
    have p02 := p1.trans p2
    have hk2 := lt_of_get g2
    have hlen := p1.1
    refine MW_appendAt (by exact p02.get0 a2) (by (first | lia | omega)) (by simp; (first | lia | omega)) ?_
    refine ⟨fun a => if a = i then k2 else r a, ?_, ?_, ?_, ?_, ?_⟩
    · have p3 := p.trans p02
      exact ⟨by simp only [List.length_set]; exact p3.1, fun k hk _ => by simp only []; rw [List.getElem?_set_ne (by (first | lia | omega))]; exact p3.2 k hk (by simp)⟩
    · simp only [put_lo, String.reduceEq, if_false]; exact a1
    · simp only []
      rw [set_self (lt_of_get (p02.get0 a2)), List.range_succ, List.map_append]
      congr 2
      congr 1
      · refine List.map_congr_left fun a ha => ?_
        have : a < i := by simpa using ha
        rw [if_neg (by (first | lia | omega))]
      · simp
    · intro a ha
      simp only []
      by_cases e : a = i
      · rw [if_pos e]
        exact ⟨by rw [List.getElem?_set_ne (by (first | lia | omega))]; exact g2, by (first | lia | omega)⟩
      · rw [if_neg e]
        obtain ⟨q1, q2⟩ := a3 a (by (first | lia | omega))
        exact ⟨by rw [List.getElem?_set_ne (by (first | lia | omega))]; exact p02.get0 q1, q2⟩
    · intro a b ha hb
      simp only []
      have hr : ∀ c, c < i → r c < k2 := fun c hc => by have := lt_of_get (a3 c hc).1; (first | lia | omega)
      by_cases e : a = i
      · by_cases e' : b = i
        · intro _; (first | lia | omega)
        · rw [if_pos e, if_neg e']
          intro h; have := hr b (by (first | lia | omega)); (first | lia | omega)
      · by_cases e' : b = i
        · rw [if_neg e, if_pos e']
          intro h; have := hr a (by (first | lia | omega)); (first | lia | omega)
        · rw [if_neg e, if_neg e']
          exact a4 a b (by (first | lia | omega)) (by (first | lia | omega))

theorem nxt_ways {σ : S} {wys : List Wy} {l i : Nat} (hl : σ.st[l]? = some (.lst (waysV wys))) : nxtOf (.obj l) σ i = some (if i < wys.length then some (wayV wys i) else none) := by
  rw [nxt_objI hl]
  by_cases h : i < wys.length
  · rw [if_pos h, waysV_get h]
  · rw [if_neg h, List.getElem?_eq_none (by simp [waysV]; (first | lia | omega))]

theorem lowest_spec {st : Store} {lw : Nat} {wys : List Wy} (hl : st[lw]? = some (.lst (waysV wys))) (hn : wys.length ≤ 63) (h0 : 0 < wys.length) (hE : ∀ p ∈ wys, p.2.1 < 8 ∧ p.2.2 < 8) :
    ∃ v st', f_law_lowest [.obj lw] st = .ok v st' ∧ ∃ lm r far L, v = .obj lm ∧ Pres [] st st' ∧ Mat st' lm r (phases L 8) ∧ Sound wys far L ∧ Under wys L ∧ ∀ i, i < wys.length → lexB far (keyOf wys i) = false := by
  have hlw := lt_of_get hl
  unfold f_law_lowest
  refine funM_ex (params := ["ways"]) (vs := [.obj lw]) (R := fun v st' => ∃ lm r far L, v = .obj lm ∧ Pres [] st st' ∧ Mat st' lm r (phases L 8) ∧ Sound wys far L ∧ Under wys L ∧ ∀ i, i < wys.length → lexB far (keyOf wys i) = false) (by rfl) ?_
  unfold law_lowest_m
  first | (subst hRs; refine MW_seqR fun Rs hRs => ?_) | refine MW_seqR fun Rs hRs => ?_
  try simp only [MW_bind, MW_getv, MW_pure, MW_setv, put_lo, put_st, if_true, if_false, String.reduceEq, Option.some.injEq, exists_eq_left', MW_add, MW_sub, MW_neg, MW_tru, MW_lt_int, MW_gt, MW_ge, MW_le, MW_eqI, MW_neI, MW_isNone, MW_isNotNone, Bool.false_eq_true, Bool.not_true, Bool.not_false, rangeB, bindP]
  refine weights_ok (by exact hl) (by (first | lia | omega)) fun k1 st1 p1 f1 g1 => ?_
  refine MW_maxLI (by exact g1) (by simpa using h0) fun w hw hmax => ?_
  try simp only [MW_bind, MW_getv, MW_pure, MW_setv, put_lo, put_st, if_true, if_false, String.reduceEq, Option.some.injEq, exists_eq_left', MW_add, MW_sub, MW_neg, MW_tru, MW_lt_int, MW_gt, MW_ge, MW_le, MW_eqI, MW_neI, MW_isNone, MW_isNotNone, Bool.false_eq_true, Bool.not_true, Bool.not_false, rangeB]
  refine (MW_mkT (by simp)).mpr ?_
  try simp only [MW_bind, MW_getv, MW_pure, MW_setv, put_lo, put_st, if_true, if_false, String.reduceEq, Option.some.injEq, exists_eq_left', MW_add, MW_sub, MW_neg, MW_tru, MW_lt_int, MW_gt, MW_ge, MW_le, MW_eqI, MW_neI, MW_isNone, MW_isNotNone, Bool.false_eq_true, Bool.not_true, Bool.not_false, rangeB]
  have hfarV : V.tup [V.int (w + 1), V.int 0] = tI [w + 1, 0] := rfl
  rw [hfarV]
  have hfar : ∀ i, i < wys.length → lexB (keyOf wys i) [w + 1, 0] = true := by
    intro i hi
    rw [keyOf_eq hi]
    have := hmax _ (List.mem_map.mpr ⟨_, nth_mem hi, rfl⟩)
    simp only [lexB]
    rw [if_neg (by (first | lia | omega))]
    simp; (first | lia | omega)
  generalize hfd : [w + 1, 0] = far at hfar ⊢
  first | (subst hRs; refine MW_seqR fun Rs hRs => ?_) | refine MW_seqR fun Rs hRs => ?_
  try simp only [MW_bind, MW_getv, MW_pure, MW_setv, put_lo, put_st, if_true, if_false, String.reduceEq, Option.some.injEq, exists_eq_left', MW_add, MW_sub, MW_neg, MW_tru, MW_lt_int, MW_gt, MW_ge, MW_le, MW_eqI, MW_neI, MW_isNone, MW_isNotNone, Bool.false_eq_true, Bool.not_true, Bool.not_false, rangeB]
  have hst1 : 0 < st1.length := by have := p1.1; simp only at this; (first | lia | omega)
  refine rows_ok (far := far) (by simp only [put_lo, String.reduceEq, if_true, if_false]) (by exact hst1) fun st2 r p2 hM hr => ?_
  simp only [put_st] at p2 hM hr
  try simp only [MW_bind, MW_getv, MW_pure, MW_setv, put_lo, put_st, if_true, if_false, String.reduceEq, Option.some.injEq, exists_eq_left', MW_add, MW_sub, MW_neg, MW_tru, MW_lt_int, MW_gt, MW_ge, MW_le, MW_eqI, MW_neI, MW_isNone, MW_isNotNone, Bool.false_eq_true, Bool.not_true, Bool.not_false, rangeB]
  generalize hlm : st1.length = lm at hM hr ⊢
  have hlw2 := p2.get0 (p1.get0 hl)
  simp only [] at p1
  have hlen1 := p1.1
  let R := (List.range 8).map r
  have hR : ∀ a, a < 8 → r a ∈ R := fun a ha => List.mem_map.mpr ⟨a, by simpa using ha, rfl⟩
  have hRn : ∀ k ∈ R, st.length ≤ k := by
    intro k hk
    obtain ⟨a, ha, rfl⟩ := List.mem_map.mp hk
    have := hr a (by simpa using ha); (first | lia | omega)
  first | (subst hRs; refine MW_seqR fun Rs hRs => ?_) | refine MW_seqR fun Rs hRs => ?_
  try simp only [MW_bind, MW_getv, MW_pure, MW_setv, put_lo, put_st, if_true, if_false, String.reduceEq, Option.some.injEq, exists_eq_left', MW_add, MW_sub, MW_neg, MW_tru, MW_lt_int, MW_gt, MW_ge, MW_le, MW_eqI, MW_neI, MW_isNone, MW_isNotNone, Bool.false_eq_true, Bool.not_true, Bool.not_false, rangeB, bindP]
  refine (MW_okL (by exact hlw2)).mpr ?_
  refine MW_for wys.length (fun j σ => ∃ L, σ.lo "low" = some (.obj lm) ∧ Pres R st σ.st ∧ Mat σ.st lm r L ∧ Sym L ∧ Sound wys far L ∧ ∀ i x y, i < j → Joins wys i x y → x ≠ y → lexB (keyOf wys i) (L x y) = false) ?_ ?_ 4096 0 _ (by (first | lia | omega)) (by (first | lia | omega))
    ⟨fun _ _ => far, (by simp only [put_lo, String.reduceEq, if_true, if_false]), (p1.trans p2).nil, hM, fun _ _ => rfl, (fun k a b hk _ hl => by rw [hk] at hl; cases hl), fun i x y hi => by (first | lia | omega)⟩
  · rintro σ ⟨L, a1, a2, a3, a4, a5, a6⟩
    have hlw3 : σ.st[lw]? = some (.lst (waysV wys)) := a2.get hl (fun q => by have := hRn lw q; (first | lia | omega))
    refine ⟨by rw [nxt_ways hlw3, if_neg (by (first | lia | omega))], ?_⟩
    first | (subst hRs; refine MW_seqR fun Rs hRs => ?_) | refine MW_seqR fun Rs hRs => ?_
    try simp only [MW_bind, MW_getv, MW_pure, MW_setv, put_lo, put_st, if_true, if_false, String.reduceEq, Option.some.injEq, exists_eq_left', MW_add, MW_sub, MW_neg, MW_tru, MW_lt_int, MW_gt, MW_ge, MW_le, MW_eqI, MW_neI, MW_isNone, MW_isNotNone, Bool.false_eq_true, Bool.not_true, Bool.not_false, rangeB]
    refine (MW_fun_ok (ok_rng (rngU_small (by (first | lia | omega)) (by (first | lia | omega)) (by (first | lia | omega))))).mpr ?_
    refine MW_for 8 (fun m σ' => σ'.lo "low" = some (.obj lm) ∧ Pres R st σ'.st ∧ Mat σ'.st lm r (phases L m)) ?_ ?_ 4096 0 _ (by (first | lia | omega)) (by (first | lia | omega)) ⟨a1, a2, a3⟩
    · rintro σ' ⟨b1, b2, b3⟩
      refine ⟨by rw [nxt_rngU (n := 8) _ _ (by rfl)]; rfl, ?_⟩
      subst hRs
      try simp only [MW_bind, MW_getv, MW_pure, MW_setv, put_lo, put_st, if_true, if_false, String.reduceEq, Option.some.injEq, exists_eq_left', MW_add, MW_sub, MW_neg, MW_tru, MW_lt_int, MW_gt, MW_ge, MW_le, MW_eqI, MW_neI, MW_isNone, MW_isNotNone, Bool.false_eq_true, Bool.not_true, Bool.not_false, rangeB, b1]
      refine ⟨lm, r, far, L, rfl, b2.ofNew hRn, b3, a5, fun i x y hj hxy => a6 i x y (joins_lt hj) hj hxy, fun i hi => lexB_asymm _ _ (hfar i hi)⟩
    · rintro m σ' hm ⟨b1, b2, b3⟩
      refine ⟨.int (m : Int), by rw [nxt_rngU (n := 8) _ _ (by rfl)]; simp [hm], ?_⟩
      unfold law_lowest_l3_t
      rw [MW_setv]
      refine (phase_loop (σ := σ'.put "mid" (.int (m : Int))) hm (phases_sym a4 m) b3 (by simp only [put_lo, String.reduceEq, if_true, if_false]; exact b1) (by simp only [put_lo, String.reduceEq, if_true, if_false]) R hR).mono ?_
      rintro f σ'' ⟨rfl, c1, c2, c3⟩
      exact ⟨c1, b2.trans c3, c2⟩
  · rintro j σ hj ⟨L, a1, a2, a3, a4, a5, a6⟩
    have hlw3 : σ.st[lw]? = some (.lst (waysV wys)) := a2.get hl (fun q => by have := hRn lw q; (first | lia | omega))
    refine ⟨wayV wys j, by rw [nxt_ways hlw3, if_pos hj], ?_⟩
    have hends := hE _ (nth_mem hj)
    have hself := joins_self hj
    have hk := keyOf_eq hj
    unfold law_lowest_l4_t law_lowest_l4_b wayV tI
    generalize nth wys j = p at hends hself hk
    obtain ⟨pw, pa, pb⟩ := p
    simp only [] at hends hself hk
    obtain ⟨ha, hb⟩ := hends
    simp only [List.map_cons, List.map_nil]
    rw [MW_unpack4]
    simp only [MW_consT, MW_setv, MW_pure]
    first | (subst hRs; refine MW_seqR fun Rs hRs => ?_) | refine MW_seqR fun Rs hRs => ?_
    generalize hσ : (((σ.put "weight" (.int pw)).put "i" (.int (j : Int))).put "a" (.int (pa : Int))).put "b" (.int (pb : Int)) = σ1
    have c1 : σ1.lo "low" = some (.obj lm) := by rw [← hσ]; (first | exact (by simp only [put_lo, String.reduceEq, if_true, if_false]; exact a1))
    have c2 : σ1.lo "a" = some (.int (pa : Int)) := by rw [← hσ]; simp only [put_lo, String.reduceEq, if_true, if_false]
    have c3 : σ1.lo "b" = some (.int (pb : Int)) := by rw [← hσ]; simp only [put_lo, String.reduceEq, if_true, if_false]
    have c4 : σ1.lo "weight" = some (.int pw) := by rw [← hσ]; simp only [put_lo, String.reduceEq, if_true, if_false]
    have c5 : σ1.lo "i" = some (.int (j : Int)) := by rw [← hσ]; simp only [put_lo, String.reduceEq, if_true, if_false]
    have c6 : σ1.st = σ.st := by rw [← hσ]; rfl
    have a3' : Mat σ1.st lm r L := by rw [c6]; exact a3
    have a2' : Pres R st σ1.st := by rw [c6]; exact a2
    clear hσ
    try simp only [MW_bind, MW_getv, MW_pure, MW_setv, put_lo, put_st, if_true, if_false, String.reduceEq, Option.some.injEq, exists_eq_left', MW_add, MW_sub, MW_neg, MW_tru, MW_lt_int, MW_gt, MW_ge, MW_le, MW_eqI, MW_neI, MW_isNone, MW_isNotNone, Bool.false_eq_true, Bool.not_true, Bool.not_false, rangeB, c1, c2, c3, c4, c5]
    refine (MW_mrow a3' ha).mpr ?_
    try simp only [MW_bind, MW_getv, MW_pure, MW_setv, put_lo, put_st, if_true, if_false, String.reduceEq, Option.some.injEq, exists_eq_left', MW_add, MW_sub, MW_neg, MW_tru, MW_lt_int, MW_gt, MW_ge, MW_le, MW_eqI, MW_neI, MW_isNone, MW_isNotNone, Bool.false_eq_true, Bool.not_true, Bool.not_false, rangeB, c1, c2, c3, c4, c5]
    refine (MW_mget a3' ha hb).mpr ?_
    try simp only [MW_bind, MW_getv, MW_pure, MW_setv, put_lo, put_st, if_true, if_false, String.reduceEq, Option.some.injEq, exists_eq_left', MW_add, MW_sub, MW_neg, MW_tru, MW_lt_int, MW_gt, MW_ge, MW_le, MW_eqI, MW_neI, MW_isNone, MW_isNotNone, Bool.false_eq_true, Bool.not_true, Bool.not_false, rangeB, c1, c2, c3, c4, c5]
    refine (MW_mkT (by simp)).mpr ?_
    have e1 : V.tup [.int pw, .int (j : Int)] = tI [pw, (j : Int)] := rfl
    rw [e1, MW_min2T, ← hk]
    have ek : (if lexB (keyOf wys j) (L pa pb) = true then keyOf wys j else L pa pb) = kmin (L pa pb) (keyOf wys j) := rfl
    rw [ek]
    generalize hx : kmin (L pa pb) (keyOf wys j) = x
    try simp only [MW_bind, MW_getv, MW_pure, MW_setv, put_lo, put_st, if_true, if_false, String.reduceEq, Option.some.injEq, exists_eq_left', MW_add, MW_sub, MW_neg, MW_tru, MW_lt_int, MW_gt, MW_ge, MW_le, MW_eqI, MW_neI, MW_isNone, MW_isNotNone, Bool.false_eq_true, Bool.not_true, Bool.not_false, rangeB, c1, c2, c3]
    refine (MW_mrow a3' ha).mpr ?_
    try simp only [MW_bind, MW_getv, MW_pure, MW_setv, put_lo, put_st, if_true, if_false, String.reduceEq, Option.some.injEq, exists_eq_left', MW_add, MW_sub, MW_neg, MW_tru, MW_lt_int, MW_gt, MW_ge, MW_le, MW_eqI, MW_neI, MW_isNone, MW_isNotNone, Bool.false_eq_true, Bool.not_true, Bool.not_false, rangeB, c1, c2, c3]
    refine MW_mset a3' ha hb R hR fun st1 h1 q1 => ?_
    subst hRs
    try simp only [MW_bind, MW_getv, MW_pure, MW_setv, put_lo, put_st, if_true, if_false, String.reduceEq, Option.some.injEq, exists_eq_left', MW_add, MW_sub, MW_neg, MW_tru, MW_lt_int, MW_gt, MW_ge, MW_le, MW_eqI, MW_neI, MW_isNone, MW_isNotNone, Bool.false_eq_true, Bool.not_true, Bool.not_false, rangeB, c1, c2, c3]
    refine (MW_mrow (σ := ⟨st1, _⟩) h1 ha).mpr ?_
    try simp only [MW_bind, MW_getv, MW_pure, MW_setv, put_lo, put_st, if_true, if_false, String.reduceEq, Option.some.injEq, exists_eq_left', MW_add, MW_sub, MW_neg, MW_tru, MW_lt_int, MW_gt, MW_ge, MW_le, MW_eqI, MW_neI, MW_isNone, MW_isNotNone, Bool.false_eq_true, Bool.not_true, Bool.not_false, rangeB, c1, c2, c3]
    refine (MW_mget (σ := ⟨st1, _⟩) h1 ha hb).mpr ?_
    try simp only [MW_bind, MW_getv, MW_pure, MW_setv, put_lo, put_st, if_true, if_false, String.reduceEq, Option.some.injEq, exists_eq_left', MW_add, MW_sub, MW_neg, MW_tru, MW_lt_int, MW_gt, MW_ge, MW_le, MW_eqI, MW_neI, MW_isNone, MW_isNotNone, Bool.false_eq_true, Bool.not_true, Bool.not_false, rangeB, c1, c2, c3]
    refine (MW_mrow (σ := ⟨st1, _⟩) h1 hb).mpr ?_
    try simp only [MW_bind, MW_getv, MW_pure, MW_setv, put_lo, put_st, if_true, if_false, String.reduceEq, Option.some.injEq, exists_eq_left', MW_add, MW_sub, MW_neg, MW_tru, MW_lt_int, MW_gt, MW_ge, MW_le, MW_eqI, MW_neI, MW_isNone, MW_isNotNone, Bool.false_eq_true, Bool.not_true, Bool.not_false, rangeB, c1, c2, c3]
    have e2 : upd L pa pb x pa pb = x := by simp [upd]
    rw [e2]
    refine MW_mset (σ := ⟨st1, _⟩) h1 hb ha R hR fun st2 h2 q2 => ?_
    try simp only [MW_bind, MW_getv, MW_pure, MW_setv, put_lo, put_st, if_true, if_false, String.reduceEq, Option.some.injEq, exists_eq_left', MW_add, MW_sub, MW_neg, MW_tru, MW_lt_int, MW_gt, MW_ge, MW_le, MW_eqI, MW_neI, MW_isNone, MW_isNotNone, Bool.false_eq_true, Bool.not_true, Bool.not_false, rangeB, c1, c2, c3]
    have hU : ∀ u v, upd (upd L pa pb x) pb pa x u v = if (u = pa ∧ v = pb) ∨ (u = pb ∧ v = pa) then x else L u v := by
      intro u v
      unfold upd
      by_cases g1 : u = pb ∧ v = pa
      · rw [if_pos g1, if_pos (.inr g1)]
      · by_cases g2 : u = pa ∧ v = pb
        · rw [if_neg g1, if_pos g2, if_pos (.inl g2)]
        · rw [if_neg g1, if_neg g2, if_neg (by rintro (h | h); exact g2 h; exact g1 h)]
    refine ⟨_, trivial, a2'.trans (q1.trans q2), h2, ?_, ?_, ?_⟩
    · intro u v
      rw [hU, hU]
      by_cases g : (u = pa ∧ v = pb) ∨ (u = pb ∧ v = pa)
      · rw [if_pos g, if_pos (by rcases g with ⟨g1, g2⟩ | ⟨g1, g2⟩; exact .inr ⟨g2, g1⟩; exact .inl ⟨g2, g1⟩)]
      · rw [if_neg g, if_neg (by rintro (⟨g1, g2⟩ | ⟨g1, g2⟩); exact g (.inr ⟨g2, g1⟩); exact g (.inl ⟨g2, g1⟩))]
        exact a4 u v
    · intro k u v hk' huv hl'
      rw [hU] at hl'
      by_cases g : (u = pa ∧ v = pb) ∨ (u = pb ∧ v = pa)
      · rw [if_pos g, ← hx, kmin_lt] at hl'
        have main : Conn wys (fun i => lexB (keyOf wys i) k = true) pa pb := by
          rcases hl' with h' | h'
          · by_cases e : pa = pb
            · rw [e]; exact .refl
            · exact a5 k pa pb hk' e h'
          · exact Conn.one hself h'
        rcases g with ⟨rfl, rfl⟩ | ⟨rfl, rfl⟩
        · exact main
        · exact main.symm
      · rw [if_neg g] at hl'
        exact a5 k u v hk' huv hl'
    · intro i u v hi hj' huv
      rw [hU]
      have hle : ∀ z, lexB z (L pa pb) = false ∨ lexB z (keyOf wys j) = false → lexB z x = false := by
        intro z hz
        cases hzx : lexB z x with
        | false => rfl
        | true =>
          rw [← hx] at hzx
          unfold kmin at hzx
          by_cases hh : lexB (keyOf wys j) (L pa pb) = true
          · rw [if_pos hh] at hzx
            rcases hz with h' | h'
            · have := lexB_trans _ _ _ h' (lexB_asymm _ _ hzx)
              rw [hh] at this; cases this
            · rw [h'] at hzx; cases hzx
          · rw [if_neg hh] at hzx
            have hh' : lexB (keyOf wys j) (L pa pb) = false := by simpa using hh
            rcases hz with h' | h'
            · rw [h'] at hzx; cases hzx
            · have h4 := lexB_trans _ _ _ hh' h'
              rw [h4] at hzx; cases hzx
      by_cases g : (u = pa ∧ v = pb) ∨ (u = pb ∧ v = pa)
      · rw [if_pos g]
        refine hle _ ?_
        rcases Nat.lt_or_ge i j with h' | h'
        · left
          rcases g with ⟨rfl, rfl⟩ | ⟨rfl, rfl⟩
          · exact a6 i _ _ h' hj' huv
          · rw [a4]; exact a6 i _ _ h' hj' huv
        · right
          have : i = j := by (first | lia | omega)
          subst this; exact lexB_irrefl _
      · rw [if_neg g]
        rcases Nat.lt_or_ge i j with h' | h'
        · exact a6 i u v h' hj' huv
        · exfalso
          have : i = j := by (first | lia | omega)
          subst this
          obtain ⟨q', e', h''⟩ := hj'
          obtain ⟨q0, e0, h0'⟩ := hself
          rw [e'] at e0; cases e0
          rcases h'' with ⟨w1, w2⟩ | ⟨w1, w2⟩ <;> rcases h0' with ⟨z1, z2⟩ | ⟨z1, z2⟩
          · exact g (.inl ⟨by (first | lia | omega), by (first | lia | omega)⟩)
          · exact g (.inr ⟨by (first | lia | omega), by (first | lia | omega)⟩)
          · exact g (.inr ⟨by (first | lia | omega), by (first | lia | omega)⟩)
          · exact g (.inl ⟨by (first | lia | omega), by (first | lia | omega)⟩)
end Mine


/-! part L02c -/
set_option autoImplicit false
set_option maxRecDepth 100000
set_option linter.unusedVariables false
set_option linter.unusedSimpArgs false
open PySem PySem.W PyProof.Rows
namespace Mine

def ent3 (wys : List Wy) (e : Nat × Nat) : List Int := [(nth wys e.1).1, (e.1 : Int), (e.2 : Int)]
def entV (wys : List Wy) (e : Nat × Nat) : V := tI (ent3 wys e)
def entI (v : V) : Nat × Nat := match v with
  | .tup [_, .int i, .int o] => (i.toNat, o.toNat)
  | _ => (0, 0)
theorem entI_entV (wys : List Wy) (e : Nat × Nat) : entI (entV wys e) = e := by
  obtain ⟨i, o⟩ := e
  simp [entV, ent3, tI, entI]
theorem entV_is {wys : List Wy} {es : List (Nat × Nat)} : ∀ v ∈ es.map (entV wys), IsT1 v := by
  intro v hv
  obtain ⟨e, _, rfl⟩ := List.mem_map.mp hv
  exact ⟨_, by simp [ent3], rfl⟩
theorem ltT_ent {wys : List Wy} (e f : Nat × Nat) : ltT (entV wys e) (entV wys f) = lexB (ent3 wys e) (ent3 wys f) := ltT_tI (by simp [ent3]) (by simp [ent3])
theorem lex_ent {wys : List Wy} {e f : Nat × Nat} (he : e.1 < wys.length) (hf : f.1 < wys.length) (h : kl wys e.1 f.1) : lexB (ent3 wys e) (ent3 wys f) = true := by
  unfold kl at h
  rw [keyOf_eq he, keyOf_eq hf] at h
  simp only [lexB] at h
  simp only [ent3, lexB]
  by_cases h1 : (nth wys e.1).1 = (nth wys f.1).1
  · rw [if_pos h1] at h ⊢
    by_cases h2 : (e.1 : Int) = (f.1 : Int)
    · rw [if_pos h2] at h; cases h
    · rw [if_neg h2] at h ⊢; exact h
  · rw [if_neg h1] at h ⊢; exact h
theorem kl_of_ent {wys : List Wy} {e f : Nat × Nat} (he : e.1 < wys.length) (hf : f.1 < wys.length) (h : lexB (ent3 wys e) (ent3 wys f) = false) : f.1 = e.1 ∨ kl wys f.1 e.1 := by
  by_cases h1 : e.1 = f.1
  · exact .inl h1.symm
  · rcases kl_total (ws := wys) h1 with h2 | h2
    · rw [lex_ent he hf h2] at h; cases h
    · exact .inr h2

def MT (wys : List Wy) (T : Nat → Prop) (t j i o : Nat) : Prop := ¬ T o ∧ ∃ x, Joins wys i x o ∧ ((T x ∧ x ≠ t) ∨ (x = t ∧ i < j))
structure Ent (wys : List Wy) (T : Nat → Prop) (M : Nat → Nat → Prop) (es : List (Nat × Nat)) : Prop where
  ok : ∀ e ∈ es, ¬ T e.2 ∧ e.2 < 8 ∧ e.1 < wys.length ∧ M e.1 e.2 ∧ ∀ i, M i e.2 → i = e.1 ∨ kl wys e.1 i
  all : ∀ i o, M i o → ∃ e ∈ es, e.2 = o
  nd : (es.map (·.2)).Nodup
theorem Ent.perm {wys : List Wy} {T : Nat → Prop} {M : Nat → Nat → Prop} {es fs : List (Nat × Nat)} (h : Ent wys T M es) (p : fs.Perm es) : Ent wys T M fs :=
  ⟨fun e he => h.ok e (p.mem_iff.mp he), fun i o hm => by obtain ⟨e, he, q⟩ := h.all i o hm; exact ⟨e, p.mem_iff.mpr he, q⟩, (p.map _).nodup_iff.mpr h.nd⟩
theorem Ent.congr {wys : List Wy} {T : Nat → Prop} {M M' : Nat → Nat → Prop} {es : List (Nat × Nat)} (h : Ent wys T M es) (e : ∀ i o, M' i o ↔ M i o) : Ent wys T M' es :=
  ⟨fun x hx => by obtain ⟨a, b, c, d, f⟩ := h.ok x hx; exact ⟨a, b, c, (e _ _).mpr d, fun i hi => f i ((e _ _).mp hi)⟩, fun i o hm => h.all i o ((e _ _).mp hm), h.nd⟩
theorem nodup_map_inj {α β : Type} {f : α → β} : ∀ {l : List α}, (l.map f).Nodup → ∀ {a b : α}, a ∈ l → b ∈ l → f a = f b → a = b
  | [], _, _, _, h, _, _ => by cases h
  | x :: l, hn, a, b, ha, hb, e => by
    rw [List.map_cons, List.nodup_cons] at hn
    rcases List.mem_cons.mp ha with rfl | ha'
    · rcases List.mem_cons.mp hb with rfl | hb'
      · rfl
      · exact absurd (List.mem_map.mpr ⟨b, hb', e.symm⟩) hn.1
    · rcases List.mem_cons.mp hb with rfl | hb'
      · exact absurd (List.mem_map.mpr ⟨a, ha', e⟩) hn.1
      · exact nodup_map_inj hn.2 ha' hb' e
theorem Ent.length {wys : List Wy} {T : Nat → Prop} {M : Nat → Nat → Prop} {es : List (Nat × Nat)} (h : Ent wys T M es) : es.length ≤ 8 := by
  have := nodup_lt_length (n := 8) h.nd (by
    intro x hx
    obtain ⟨e, he, rfl⟩ := List.mem_map.mp hx
    exact (h.ok e he).2.1)
  simpa using this

section
variable {wys : List Wy} {T : Nat → Prop} {t j o : Nat}
theorem MT_yes (ht : T t) (hj : Joins wys j t o) (ho : ¬ T o) (i o' : Nat) : MT wys T t (j + 1) i o' ↔ MT wys T t j i o' ∨ (i = j ∧ o' = o) := by
  constructor
  · rintro ⟨h1, x, h2, h3 | ⟨rfl, h3⟩⟩
    · exact .inl ⟨h1, x, h2, .inl h3⟩
    · rcases Nat.lt_or_ge i j with h4 | h4
      · exact .inl ⟨h1, x, h2, .inr ⟨rfl, h4⟩⟩
      · have : i = j := by (first | lia | omega)
        subst this
        refine .inr ⟨rfl, ?_⟩
        have a := joins_is h2
        have b := joins_is hj
        by_cases e : o' = x
        · subst e; exact absurd ht h1
        · rcases a with ⟨a1, a2⟩ | ⟨a1, a2⟩ <;> rcases b with ⟨b1, b2⟩ | ⟨b1, b2⟩ <;> (first | lia | omega)
  · rintro (⟨h1, x, h2, h3 | ⟨rfl, h3⟩⟩ | ⟨rfl, rfl⟩)
    · exact ⟨h1, x, h2, .inl h3⟩
    · exact ⟨h1, x, h2, .inr ⟨rfl, by (first | lia | omega)⟩⟩
    · exact ⟨ho, t, hj, .inr ⟨rfl, by (first | lia | omega)⟩⟩
theorem MT_no (h : ∀ o, Joins wys j t o → T o) (i o' : Nat) : MT wys T t (j + 1) i o' ↔ MT wys T t j i o' := by
  constructor
  · rintro ⟨h1, x, h2, h3 | ⟨rfl, h3⟩⟩
    · exact ⟨h1, x, h2, .inl h3⟩
    · rcases Nat.lt_or_ge i j with h4 | h4
      · exact ⟨h1, x, h2, .inr ⟨rfl, h4⟩⟩
      · have : i = j := by (first | lia | omega)
        subst this
        exact absurd (h o' h2) h1
  · rintro ⟨h1, x, h2, h3 | ⟨rfl, h3⟩⟩
    · exact ⟨h1, x, h2, .inl h3⟩
    · exact ⟨h1, x, h2, .inr ⟨rfl, by (first | lia | omega)⟩⟩
/-- an older way to o is another one -/
theorem MT_ne (ht : T t) (hj : Joins wys j t o) (ho : ¬ T o) {i : Nat} (h : MT wys T t j i o) : i ≠ j := by
  rintro rfl
  obtain ⟨_, x, h2, ⟨h3, h4⟩ | ⟨rfl, h3⟩⟩ := h
  · have a := joins_is h2
    have b := joins_is hj
    by_cases e : x = o
    · subst e; exact ho h3
    · rcases a with ⟨a1, a2⟩ | ⟨a1, a2⟩ <;> rcases b with ⟨b1, b2⟩ | ⟨b1, b2⟩ <;> (first | lia | omega)
  · (first | lia | omega)
theorem Ent.new {es : List (Nat × Nat)} (h : Ent wys T (MT wys T t j) es) (ht : T t) (hj : Joins wys j t o) (ho : ¬ T o) (ho8 : o < 8) (hn : ∀ e ∈ es, e.2 ≠ o) : Ent wys T (MT wys T t (j + 1)) (es ++ [(j, o)]) := by
  refine ⟨fun e he => ?_, fun i o' hm => ?_, ?_⟩
  · rcases List.mem_append.mp he with he | he
    · obtain ⟨a, b, c, d, f⟩ := h.ok e he
      refine ⟨a, b, c, (MT_yes ht hj ho _ _).mpr (.inl d), fun i hi => ?_⟩
      rcases (MT_yes ht hj ho _ _).mp hi with hi | ⟨_, q⟩
      · exact f i hi
      · exact absurd q (hn e he)
    · rw [List.mem_singleton.mp he]
      refine ⟨ho, ho8, joins_lt hj, (MT_yes ht hj ho _ _).mpr (.inr ⟨rfl, rfl⟩), fun i hi => ?_⟩
      rcases (MT_yes ht hj ho _ _).mp hi with hi | ⟨q, _⟩
      · obtain ⟨e, he, q⟩ := h.all _ _ hi
        exact absurd q (hn e he)
      · exact .inl q
  · rcases (MT_yes ht hj ho _ _).mp hm with hi | ⟨_, q⟩
    · obtain ⟨e, he, q⟩ := h.all _ _ hi
      exact ⟨e, List.mem_append_left _ he, q⟩
    · exact ⟨(j, o), by simp, q.symm⟩
  · rw [List.map_append, List.nodup_append]
    refine ⟨h.nd, by simp, ?_⟩
    intro a ha b hb e
    obtain ⟨x, hx, rfl⟩ := List.mem_map.mp ha
    have : b = o := by simpa using hb
    exact hn x hx (by (first | lia | omega))
theorem Ent.keep {es : List (Nat × Nat)} {i0 : Nat} (h : Ent wys T (MT wys T t j) es) (ht : T t) (hj : Joins wys j t o) (ho : ¬ T o) (he0 : (i0, o) ∈ es) (hk : ¬ kl wys j i0) : Ent wys T (MT wys T t (j + 1)) es := by
  have hne := MT_ne ht hj ho (h.ok _ he0).2.2.2.1
  have hk' : kl wys i0 j := by
    rcases kl_total (ws := wys) hne with q | q
    · exact q
    · exact absurd q hk
  refine ⟨fun e he => ?_, fun i o' hm => ?_, h.nd⟩
  · obtain ⟨a, b, c, d, f⟩ := h.ok e he
    refine ⟨a, b, c, (MT_yes ht hj ho _ _).mpr (.inl d), fun i hi => ?_⟩
    rcases (MT_yes ht hj ho _ _).mp hi with hi | ⟨q1, q2⟩
    · exact f i hi
    · have : e = (i0, o) := nodup_map_inj h.nd he he0 q2
      subst this; subst q1
      exact .inr hk'
  · rcases (MT_yes ht hj ho _ _).mp hm with hi | ⟨_, q⟩
    · exact h.all _ _ hi
    · exact ⟨_, he0, q.symm⟩
theorem Ent.less {es : List (Nat × Nat)} {i0 k : Nat} (h : Ent wys T (MT wys T t j) es) (ht : T t) (hj : Joins wys j t o) (ho : ¬ T o) (ho8 : o < 8) (he0 : es[k]? = some (i0, o)) (hk : kl wys j i0) : Ent wys T (MT wys T t (j + 1)) (es.set k (j, o)) := by
  obtain ⟨hkl, he1⟩ := List.getElem?_eq_some_iff.mp he0
  have hm0 : (i0, o) ∈ es := List.mem_of_getElem? he0
  have hmap : (es.set k (j, o)).map (·.2) = es.map (·.2) := by
    rw [List.map_set]
    have : (es.map (·.2))[k]? = some o := by rw [List.getElem?_map, he0]; rfl
    obtain ⟨q1, q2⟩ := List.getElem?_eq_some_iff.mp this
    conv => lhs; rw [show (j, o).2 = (es.map (·.2))[k] from q2.symm]
    exact List.set_getElem_self q1
  have hnd : ((es.set k (j, o)).map (·.2)).Nodup := by rw [hmap]; exact h.nd
  have hin : (j, o) ∈ es.set k (j, o) := List.mem_set hkl _
  refine ⟨fun e he => ?_, fun i o' hm => ?_, hnd⟩
  · by_cases heo : e.2 = o
    · have : e = (j, o) := nodup_map_inj hnd he hin heo
      subst this
      refine ⟨ho, ho8, joins_lt hj, (MT_yes ht hj ho _ _).mpr (.inr ⟨rfl, rfl⟩), fun i hi => ?_⟩
      rcases (MT_yes ht hj ho _ _).mp hi with hi | ⟨q, _⟩
      · rcases (h.ok _ hm0).2.2.2.2 i hi with q | q
        · subst q; exact .inr hk
        · exact .inr (kl_trans hk q)
      · exact .inl q
    · have he' : e ∈ es := by
        rcases List.mem_or_eq_of_mem_set he with q | q
        · exact q
        · subst q; exact absurd rfl heo
      obtain ⟨a, b, c, d, f⟩ := h.ok e he'
      refine ⟨a, b, c, (MT_yes ht hj ho _ _).mpr (.inl d), fun i hi => ?_⟩
      rcases (MT_yes ht hj ho _ _).mp hi with hi | ⟨_, q⟩
      · exact f i hi
      · exact absurd q heo
  · rcases (MT_yes ht hj ho _ _).mp hm with hi | ⟨_, q⟩
    · obtain ⟨e, he, q⟩ := h.all _ _ hi
      have : e.2 ∈ (es.set k (j, o)).map (·.2) := by rw [hmap]; exact List.mem_map.mpr ⟨e, he, rfl⟩
      obtain ⟨e', he', q'⟩ := List.mem_map.mp this
      exact ⟨e', he', q'.trans q⟩
    · exact ⟨(j, o), hin, q.symm⟩
end

/-! ### a lighter one where it stands -/
theorem sd_less {P : V → Prop} {lt : V → V → Bool} (O : SWO P lt) {vs : List V} {k : Nat} {x : V} (hP : ∀ a ∈ vs, P a) (hx : P x) (hh : HeapFrom lt 0 vs) (hk : k < vs.length) (hl : lt (nth vs k) x = false) :
    HeapFrom lt 0 (sd lt x 0 (vs.set k x) k) := by
  refine sd_heap O x 0 hx k _ (all_set hP hx) ?_ ?_
  · refine Hole.set ⟨?_, ?_, desc_zero _, hk⟩ x
    · intro j h0 hl hs h1 h2
      exact hh j h0 hl (by (first | lia | omega))
    · intro hk0 j h0 hl hp
      have h1 := hh j h0 hl (by (first | lia | omega))
      rw [hp] at h1
      have h2 := hh k hk0 hk (by (first | lia | omega))
      exact O.trans _ _ _ (hP _ (nth_mem (by (first | lia | omega)))) (hP _ (nth_mem hk)) (hP _ (nth_mem hl)) h2 h1
  · intro j h0 hlj hp
    rw [List.length_set] at hlj
    rw [nth_set_ne (by (first | lia | omega))]
    have h1 := hh j h0 hlj (by (first | lia | omega))
    rw [hp] at h1
    exact O.trans _ _ _ hx (hP _ (nth_mem hk)) (hP _ (nth_mem hlj)) hl h1

theorem known_ok {σ : S} {wys : List Wy} {es : List (Nat × Nat)} {l : Nat} {Q : V → S → Prop} (hl : σ.st[l]? = some (.lst (es.map (entV wys)))) (hn : es.length ≤ 1000)
    (q : ∀ k st', Pres [] σ.st st' → σ.st.length ≤ k → st'[k]? = some (.lst ((es.map fun e => (e.2 : Int)).map V.int)) → Q (.obj k) ⟨st', σ.lo⟩) : MW (compTail [] law_c2 (.obj l)) σ Q := by
  refine MW_compPure (us := es.map (entV wys)) (n := 4096) (t := law_c2_t) (c := law_c2_i) (e := (do let o ← (getv "one"); let i ← (pure (V.int 2) : M V); getI o i))
    (fun v => match v with | .tup [_, _, c] => some c | _ => none)
    (fun _ _ => rfl) (ok_obj hl) (by have := lt_of_get hl; (first | lia | omega)) (nxt_obj hl) (by simp; (first | lia | omega)) (by simp; (first | lia | omega)) ?_ ?_
  · intro v hv σ' hag hlo
    obtain ⟨e, he, rfl⟩ := List.mem_map.mp hv
    unfold law_c2_t law_c2_i
    try simp only [MW_bind, MW_getv, MW_pure, MW_setv, put_lo, put_st, if_true, if_false, String.reduceEq, Option.some.injEq, exists_eq_left', MW_add, MW_sub, MW_neg, MW_tru, MW_lt_int, MW_gt, MW_ge, MW_le, MW_eqI, MW_neI, MW_isNone, MW_isNotNone, Bool.false_eq_true, Bool.not_true, Bool.not_false, rangeB]
    refine ⟨trivial, by intro x hx; simp at hx, trivial, trivial, ?_⟩
    unfold entV ent3
    exact (MW_getTI (j := 2) rfl (by simp)).mpr ⟨rfl, rfl⟩
  · intro k st' p f g
    refine q k st' p f ?_
    rw [g]
    congr 2
    rw [List.filterMap_map, List.map_map, ← List.filterMap_eq_map]
    congr 1

def keptN : List String := ["ways", "net", "taken", "heap"]
theorem kept_put {σ : S} {x : String} {v : V} (h : x ∉ keptN) : ∀ y ∈ keptN, (σ.put x v).lo y = σ.lo y := by
  intro y hy
  rw [put_lo, if_neg (fun (q : y = x) => h (q ▸ hy))]

theorem way_round {σ : S} {lt lh t j pa pb : Nat} {pw : Int} {wys : List Wy} {tk : List Nat} {es : List (Nat × Nat)}
    (r1 : σ.lo "taken" = some (.obj lt)) (r2 : σ.lo "heap" = some (.obj lh)) (r3 : σ.lo "weight" = some (.int pw)) (r4 : σ.lo "i" = some (.int (j : Int))) (r5 : σ.lo "a" = some (.int (pa : Int))) (r6 : σ.lo "b" = some (.int (pb : Int)))
    (hj : j < wys.length) (hp : nth wys j = (pw, pa, pb)) (ha : pa < 8) (hb : pb < 8) (g1 : σ.st[lt]? = some (.lst ((tk.map fun (n : Nat) => (n : Int)).map V.int))) (htl : tk.length ≤ 100) (hlast : tk[tk.length - 1]? = some t)
    (g2 : σ.st[lh]? = some (.lst (es.map (entV wys)))) (hh : HeapFrom ltT 0 (es.map (entV wys))) (hE : Ent wys (· ∈ tk) (MT wys (· ∈ tk) t j) es) (hl0 : lh ≠ 0) (hne : lh ≠ lt) :
    MW law_l3_b σ (fun f σ' => (f = .next ∨ f = .cont) ∧ (∀ y ∈ keptN, σ'.lo y = σ.lo y) ∧ Pres [lh] σ.st σ'.st ∧ ∃ es', σ'.st[lh]? = some (.lst (es'.map (entV wys))) ∧ HeapFrom ltT 0 (es'.map (entV wys)) ∧ Ent wys (· ∈ tk) (MT wys (· ∈ tk) t (j + 1)) es') := by
  have ht : t ∈ tk := List.mem_of_getElem? hlast
  have htk : 0 < tk.length := List.length_pos_of_mem ht
  have hel := hE.length
  have hgl : ∀ σ' : S, σ'.st[lt]? = some (.lst ((tk.map fun (n : Nat) => (n : Int)).map V.int)) → ∀ Q : V → S → Prop, MW (getI (.obj lt) (.int (-1))) σ' Q ↔ Q (.int (t : Int)) σ' := by
    intro σ' h Q
    refine MW_getI h (j := tk.length - 1) ?_ ?_
    · have := ix_neg1 (n := ((tk.map fun (n : Nat) => (n : Int)).map V.int).length) (by simpa using htk)
      rw [this]; simp
    · rw [List.getElem?_map, List.getElem?_map, hlast]; rfl
  unfold law_l3_b
  first | (subst hRs; refine MW_seqR fun Rs hRs => ?_) | refine MW_seqR fun Rs hRs => ?_
  try simp only [MW_bind, MW_getv, MW_pure, MW_setv, put_lo, put_st, if_true, if_false, String.reduceEq, Option.some.injEq, exists_eq_left', MW_add, MW_sub, MW_neg, MW_tru, MW_lt_int, MW_gt, MW_ge, MW_le, MW_eqI, MW_neI, MW_isNone, MW_isNotNone, Bool.false_eq_true, Bool.not_true, Bool.not_false, rangeB, r1, r2, r3, r4, r5, r6]
  refine (hgl _ (by exact g1) _).mpr ?_
  subst hRs
  try simp only [MW_bind, MW_getv, MW_pure, MW_setv, put_lo, put_st, if_true, if_false, String.reduceEq, Option.some.injEq, exists_eq_left', MW_add, MW_sub, MW_neg, MW_tru, MW_lt_int, MW_gt, MW_ge, MW_le, MW_eqI, MW_neI, MW_isNone, MW_isNotNone, Bool.false_eq_true, Bool.not_true, Bool.not_false, rangeB, r1, r2, r3, r4, r5, r6]
  refine (hgl _ (by exact g1) _).mpr ?_
  try simp only [MW_bind, MW_getv, MW_pure, MW_setv, put_lo, put_st, if_true, if_false, String.reduceEq, Option.some.injEq, exists_eq_left', MW_add, MW_sub, MW_neg, MW_tru, MW_lt_int, MW_gt, MW_ge, MW_le, MW_eqI, MW_neI, MW_isNone, MW_isNotNone, Bool.false_eq_true, Bool.not_true, Bool.not_false, rangeB, r1, r2, r3, r4, r5, r6]
  refine (MW_mkT (by simp)).mpr ?_
  have e1 : V.tup [.int (pa : Int), .int (pb : Int)] = tI [(pa : Int), (pb : Int)] := rfl
  rw [e1, MW_inT]
  try simp only [MW_bind, MW_getv, MW_pure, MW_setv, put_lo, put_st, if_true, if_false, String.reduceEq, Option.some.injEq, exists_eq_left', MW_add, MW_sub, MW_neg, MW_tru, MW_lt_int, MW_gt, MW_ge, MW_le, MW_eqI, MW_neI, MW_isNone, MW_isNotNone, Bool.false_eq_true, Bool.not_true, Bool.not_false, rangeB, r1, r2, r3, r4, r5, r6]
  have hself := joins_self hj
  rw [hp] at hself
  simp only [] at hself
  -- the way does not count
  have no : (∀ o, Joins wys j t o → o ∈ tk) → (∀ y ∈ keptN, (σ.put "other" (.int ((pa : Int) + (pb : Int) - (t : Int)))).lo y = σ.lo y) ∧ Pres [lh] σ.st (σ.put "other" (.int ((pa : Int) + (pb : Int) - (t : Int)))).st ∧ ∃ es', (σ.put "other" (.int ((pa : Int) + (pb : Int) - (t : Int)))).st[lh]? = some (.lst (es'.map (entV wys))) ∧ HeapFrom ltT 0 (es'.map (entV wys)) ∧ Ent wys (· ∈ tk) (MT wys (· ∈ tk) t (j + 1)) es' := by
    intro h
    exact ⟨kept_put (by decide), Pres.refl _ _, es, g2, hh, hE.congr (MT_no h)⟩
  by_cases h1 : (t : Int) ∈ [(pa : Int), (pb : Int)]
  · have h1' : pa = t ∨ pb = t := by simp at h1; (first | lia | omega)
    obtain ⟨o, ho, hoe⟩ : ∃ o : Nat, (pa : Int) + (pb : Int) - (t : Int) = (o : Int) ∧ ((pa = t ∧ pb = o) ∨ (pa = o ∧ pb = t)) := by
      rcases h1' with h | h
      · exact ⟨pb, by (first | lia | omega), .inl ⟨h, rfl⟩⟩
      · exact ⟨pa, by (first | lia | omega), .inr ⟨rfl, h⟩⟩
    have ho8 : o < 8 := by (first | lia | omega)
    have hjo : Joins wys j t o := by
      rcases hoe with ⟨rfl, rfl⟩ | ⟨rfl, rfl⟩
      · exact hself
      · exact hself.symm
    rw [ho]
    rw [ho] at no
    simp only [h1, decide_true, if_true, MW_bind, MW_getv, put_lo, String.reduceEq, if_false, r1, Option.some.injEq, exists_eq_left']
    refine (MW_notInL (by exact g1)).mpr ?_
    rw [MW_tru]
    have hmem : ((o : Int) ∈ tk.map fun (n : Nat) => (n : Int)) ↔ o ∈ tk := by
      rw [List.mem_map]
      constructor
      · rintro ⟨x, hx, e⟩; have : x = o := by (first | lia | omega)
        subst this; exact hx
      · intro h; exact ⟨o, h, rfl⟩
    by_cases h2 : o ∈ tk
    · simp only [hmem.mpr h2, decide_true, Bool.not_true, Bool.false_eq_true, if_false, MW_pure]
      refine ⟨.inl trivial, no ?_⟩
      intro o' hj'
      have a := joins_is hj'
      rw [hp] at a
      simp only [] at a
      by_cases q : o' = o
      · subst q; exact h2
      · have : o' = t := by (first | lia | omega)
        subst this; exact ht
    · have h2' : ¬ ((o : Int) ∈ tk.map fun (n : Nat) => (n : Int)) := fun q => h2 (hmem.mp q)
      simp only [h2', decide_false, Bool.not_false, if_true, MW_pure]
      first | (subst hRs; refine MW_seqR fun Rs hRs => ?_) | refine MW_seqR fun Rs hRs => ?_
      try simp only [MW_bind, MW_getv, MW_pure, MW_setv, put_lo, put_st, if_true, if_false, String.reduceEq, Option.some.injEq, exists_eq_left', MW_add, MW_sub, MW_neg, MW_tru, MW_lt_int, MW_gt, MW_ge, MW_le, MW_eqI, MW_neI, MW_isNone, MW_isNotNone, Bool.false_eq_true, Bool.not_true, Bool.not_false, rangeB, r2]
      refine known_ok (by exact g2) (by (first | lia | omega)) fun k1 st1 p1 f1 g3 => ?_
      simp only [put_st] at p1 f1
      first | (subst hRs; refine MW_seqR fun Rs hRs => ?_) | refine MW_seqR fun Rs hRs => ?_
      try simp only [MW_bind, MW_getv, MW_pure, MW_setv, put_lo, put_st, if_true, if_false, String.reduceEq, Option.some.injEq, exists_eq_left', MW_add, MW_sub, MW_neg, MW_tru, MW_lt_int, MW_gt, MW_ge, MW_le, MW_eqI, MW_neI, MW_isNone, MW_isNotNone, Bool.false_eq_true, Bool.not_true, Bool.not_false, rangeB]
      refine (MW_notInL (by exact g3)).mpr ?_
      rw [MW_tru]
      have hkn : ((o : Int) ∈ es.map fun e => (e.2 : Int)) ↔ ∃ e ∈ es, e.2 = o := by
        rw [List.mem_map]
        constructor
        · rintro ⟨x, hx, e⟩; exact ⟨x, hx, by (first | lia | omega)⟩
        · rintro ⟨x, hx, e⟩; exact ⟨x, hx, by (first | lia | omega)⟩
      have hlh := lt_of_get g2
      have hk1 : k1 ≠ lh := by (first | lia | omega)
      -- behind the change: _siftdown
      have fin : ∀ (σ' : S) (p : Nat) (vs : List V) (es' : List (Nat × Nat)), (∀ y ∈ keptN, σ'.lo y = σ.lo y) → Pres [lh] σ.st σ'.st → σ'.st[lh]? = some (.lst vs) → vs = es'.map (entV wys) → p < vs.length →
          vs.length ≤ 100 → HeapFrom ltT 0 (sd ltT (nth vs p) 0 vs p) → Ent wys (· ∈ tk) (MT wys (· ∈ tk) t (j + 1)) es' →
          MW (callF f_siftdown [.obj lh, .int 0, .int (p : Int)]) σ' (fun a σ' => MW (if (!a.isNone) = true then (do let v ← (pure (V.bool false) : M V); pure (.ret v) : M Fl) else (pure .next : M Fl)) σ'
            (fun f σ' => (f = .next ∨ f = .cont) ∧ (∀ y ∈ keptN, σ'.lo y = σ.lo y) ∧ Pres [lh] σ.st σ'.st ∧ ∃ es', σ'.st[lh]? = some (.lst (es'.map (entV wys))) ∧ HeapFrom ltT 0 (es'.map (entV wys)) ∧ Ent wys (· ∈ tk) (MT wys (· ∈ tk) t (j + 1)) es')) := by
        intro σ' p vs es' q3 q4 q5 q6 q7 q8 q9 q10
        have hP : ∀ a ∈ vs, IsT1 a := by rw [q6]; exact entV_is
        have sp := siftdown_spec (P := IsT1) (lt := ltT) (st := σ'.st) (l := lh) (vs := vs) (s := 0) (p := p) q5 hl0 q7 (by (first | lia | omega)) hP (ltAt_tup _ _)
        refine MW_callF' (by exact sp) ?_
        try simp only [MW_bind, MW_getv, MW_pure, MW_setv, put_lo, put_st, if_true, if_false, String.reduceEq, Option.some.injEq, exists_eq_left', MW_add, MW_sub, MW_neg, MW_tru, MW_lt_int, MW_gt, MW_ge, MW_le, MW_eqI, MW_neI, MW_isNone, MW_isNotNone, Bool.false_eq_true, Bool.not_true, Bool.not_false, rangeB, V.isNone]
        have hperm := sd_perm ltT (nth vs p) 0 p vs q7
        rw [set_nth] at hperm
        have hperm' : (sd ltT (nth vs p) 0 vs p).Perm (es'.map (entV wys)) := by rw [← q6]; exact hperm
        obtain ⟨fs, hf1, hf2⟩ := perm_map_inv (entI_entV wys) hperm'
        refine ⟨.inl trivial, q3, q4.trans (Pres.set (by simp)), fs, ?_, ?_, q10.perm hf1⟩
        · rw [set_self (lt_of_get q5), ← hf2]
        · rw [← hf2]; exact q9
      by_cases h3 : ∃ e ∈ es, e.2 = o
      · simp only [hkn.mpr h3, decide_true, Bool.not_true, Bool.false_eq_true, if_false]
        -- where it stands
        have hix : (es.map fun e => (e.2 : Int)).idxOf (o : Int) < es.length := by
          have := List.idxOf_lt_length_iff.mpr (hkn.mpr h3)
          simpa using this
        have hat : (es.map fun e => (e.2 : Int))[(es.map fun e => (e.2 : Int)).idxOf (o : Int)]'(by simpa using hix) = (o : Int) := List.getElem_idxOf _
        generalize hkd : (es.map fun e => (e.2 : Int)).idxOf (o : Int) = k at hix hat
        obtain ⟨i0, hek⟩ : ∃ i0, es[k]? = some (i0, o) := by
          rw [List.getElem_map] at hat
          refine ⟨es[k].1, ?_⟩
          rw [List.getElem?_eq_getElem hix]
          have : es[k].2 = o := by (first | lia | omega)
          rw [← this]
        have hlay : PyData.layable0 (.list ((es.map fun e => (e.2 : Int)).map .int)) = true := by
          refine lay_small ?_ (by simp; (first | lia | omega))
          intro x hx
          obtain ⟨e, he, rfl⟩ := List.mem_map.mp hx
          have := (hE.ok e he).2.1
          (first | lia | omega)
        have hMi : ∀ (σ' : S), σ'.st[k1]? = some (.lst ((es.map fun e => (e.2 : Int)).map V.int)) → ∀ Q : V → S → Prop, MW (indexG (.obj k1) [.int (o : Int)]) σ' Q ↔ Q (.int (k : Int)) σ' := by
          intro σ' h Q
          rw [MW_index h (hkn.mpr h3) hlay, hkd]
        have hok := hE.ok (i0, o) (List.mem_of_getElem? hek)
        try simp only [MW_bind, MW_getv, MW_pure, MW_setv, put_lo, put_st, if_true, if_false, String.reduceEq, Option.some.injEq, exists_eq_left', MW_add, MW_sub, MW_neg, MW_tru, MW_lt_int, MW_gt, MW_ge, MW_le, MW_eqI, MW_neI, MW_isNone, MW_isNotNone, Bool.false_eq_true, Bool.not_true, Bool.not_false, rangeB, r2, r3, r4]
        refine (MW_mkT (by simp)).mpr ?_
        try simp only [MW_bind, MW_getv, MW_pure, MW_setv, put_lo, put_st, if_true, if_false, String.reduceEq, Option.some.injEq, exists_eq_left', MW_add, MW_sub, MW_neg, MW_tru, MW_lt_int, MW_gt, MW_ge, MW_le, MW_eqI, MW_neI, MW_isNone, MW_isNotNone, Bool.false_eq_true, Bool.not_true, Bool.not_false, rangeB, r2, r3, r4]
        refine (MW_chkL (by exact g3)).mpr ?_
        try simp only [MW_bind, MW_getv, MW_pure, MW_setv, put_lo, put_st, if_true, if_false, String.reduceEq, Option.some.injEq, exists_eq_left', MW_add, MW_sub, MW_neg, MW_tru, MW_lt_int, MW_gt, MW_ge, MW_le, MW_eqI, MW_neI, MW_isNone, MW_isNotNone, Bool.false_eq_true, Bool.not_true, Bool.not_false, rangeB, r2, r3, r4]
        refine (hMi _ (by exact g3) _).mpr ?_
        have g2' := p1.get0 g2
        have hnk : (es.map (entV wys))[k]? = some (entV wys (i0, o)) := by rw [List.getElem?_map, hek]; rfl
        refine (MW_getI (by exact g2') (j := k) (by rw [ix_nat, if_pos (by simpa using hix)]) hnk).mpr ?_
        try simp only [MW_bind, MW_getv, MW_pure, MW_setv, put_lo, put_st, if_true, if_false, String.reduceEq, Option.some.injEq, exists_eq_left', MW_add, MW_sub, MW_neg, MW_tru, MW_lt_int, MW_gt, MW_ge, MW_le, MW_eqI, MW_neI, MW_isNone, MW_isNotNone, Bool.false_eq_true, Bool.not_true, Bool.not_false, rangeB]
        have hsl : ∀ (σ' : S) (Q : V → S → Prop), MW (sliceT (entV wys (i0, o)) (.none, .int 2, .none)) σ' Q ↔ Q (tI [(nth wys i0).1, (i0 : Int)]) σ' := by
          intro σ' Q
          refine MW_fun_ok ?_
          simp [sliceT, entV, ent3, tI]
        refine (hsl _ _).mpr ?_
        have e2 : V.tup [.int pw, .int (j : Int)] = tI [pw, (j : Int)] := rfl
        rw [e2, MW_ltT, MW_tru]
        have hkl : lexB [pw, (j : Int)] [(nth wys i0).1, (i0 : Int)] = true ↔ kl wys j i0 := by
          unfold kl
          rw [keyOf_eq hj, keyOf_eq hok.2.2.1, hp]
        by_cases h4 : kl wys j i0
        · rw [if_pos (hkl.mpr h4)]
          first | (subst hRs; refine MW_seqR fun Rs hRs => ?_) | refine MW_seqR fun Rs hRs => ?_
          try simp only [MW_bind, MW_getv, MW_pure, MW_setv, put_lo, put_st, if_true, if_false, String.reduceEq, Option.some.injEq, exists_eq_left', MW_add, MW_sub, MW_neg, MW_tru, MW_lt_int, MW_gt, MW_ge, MW_le, MW_eqI, MW_neI, MW_isNone, MW_isNotNone, Bool.false_eq_true, Bool.not_true, Bool.not_false, rangeB, r2, r3, r4]
          refine (MW_chkL (by exact g3)).mpr ?_
          try simp only [MW_bind, MW_getv, MW_pure, MW_setv, put_lo, put_st, if_true, if_false, String.reduceEq, Option.some.injEq, exists_eq_left', MW_add, MW_sub, MW_neg, MW_tru, MW_lt_int, MW_gt, MW_ge, MW_le, MW_eqI, MW_neI, MW_isNone, MW_isNotNone, Bool.false_eq_true, Bool.not_true, Bool.not_false, rangeB, r2, r3, r4]
          refine (hMi _ (by exact g3) _).mpr ?_
          subst hRs
          try simp only [MW_bind, MW_getv, MW_pure, MW_setv, put_lo, put_st, if_true, if_false, String.reduceEq, Option.some.injEq, exists_eq_left', MW_add, MW_sub, MW_neg, MW_tru, MW_lt_int, MW_gt, MW_ge, MW_le, MW_eqI, MW_neI, MW_isNone, MW_isNotNone, Bool.false_eq_true, Bool.not_true, Bool.not_false, rangeB, r2, r3, r4]
          refine (MW_mkT (by simp)).mpr ?_
          try simp only [MW_bind, MW_getv, MW_pure, MW_setv, put_lo, put_st, if_true, if_false, String.reduceEq, Option.some.injEq, exists_eq_left', MW_add, MW_sub, MW_neg, MW_tru, MW_lt_int, MW_gt, MW_ge, MW_le, MW_eqI, MW_neI, MW_isNone, MW_isNotNone, Bool.false_eq_true, Bool.not_true, Bool.not_false, rangeB, r2, r3, r4]
          have e3 : V.tup [.int pw, .int (j : Int), .int (o : Int)] = entV wys (j, o) := by
            unfold entV ent3 tI; rw [hp]; rfl
          rw [e3]
          refine (MW_setI (j := k) (by exact g2') hl0 rfl (by simpa using hix)).mpr ?_
          try simp only [MW_bind, MW_getv, MW_pure, MW_setv, put_lo, put_st, if_true, if_false, String.reduceEq, Option.some.injEq, exists_eq_left', MW_add, MW_sub, MW_neg, MW_tru, MW_lt_int, MW_gt, MW_ge, MW_le, MW_eqI, MW_neI, MW_isNone, MW_isNotNone, Bool.false_eq_true, Bool.not_true, Bool.not_false, rangeB, r2]
          refine fin _ k ((es.map (entV wys)).set k (entV wys (j, o))) (es.set k (j, o)) ?_ ?_ ?_ ?_ ?_ ?_ ?_ ?_
          · intro y hy
            simp only [put_lo]
            have : ∀ x, x ∉ keptN → y ≠ x := fun x hx (q : y = x) => hx (q ▸ hy)
            rw [if_neg (this "at" (by decide)), if_neg (this "known" (by decide)), if_neg (this "other" (by decide))]
          · exact p1.nil.trans (Pres.set (by simp))
          · simp only [put_st]; exact set_self (lt_of_get g2')
          · rw [List.map_set]
          · simpa using hix
          · simp; (first | lia | omega)
          · rw [nth_set_self (by simpa using hix)]
            refine sd_less swo_tup entV_is ⟨_, by simp [ent3], rfl⟩ hh (by simpa using hix) ?_
            have : nth (es.map (entV wys)) k = entV wys (i0, o) := by unfold nth; rw [hnk]; rfl
            rw [this, ltT_ent]
            exact lexB_asymm _ _ (lex_ent (wys := wys) (e := (j, o)) (f := (i0, o)) hj hok.2.2.1 h4)
          · exact hE.less ht hjo h2 ho8 hek h4
        · rw [if_neg (fun q => h4 (hkl.mp q))]
          try simp only [MW_bind, MW_getv, MW_pure, MW_setv, put_lo, put_st, if_true, if_false, String.reduceEq, Option.some.injEq, exists_eq_left', MW_add, MW_sub, MW_neg, MW_tru, MW_lt_int, MW_gt, MW_ge, MW_le, MW_eqI, MW_neI, MW_isNone, MW_isNotNone, Bool.false_eq_true, Bool.not_true, Bool.not_false, rangeB]
          refine ⟨.inr trivial, ?_, p1.nil, es, g2', hh, hE.keep ht hjo h2 (List.mem_of_getElem? hek) h4⟩
          intro y hy
          try simp only [put_lo]
          have : ∀ x, x ∉ keptN → y ≠ x := fun x hx (q : y = x) => hx (q ▸ hy)
          rw [if_neg (this "known" (by decide)), if_neg (this "other" (by decide))]
      · have h3' : ¬ ((o : Int) ∈ es.map fun e => (e.2 : Int)) := fun q => h3 (hkn.mp q)
        simp only [h3', decide_false, Bool.not_false, if_true]
        first | (subst hRs; refine MW_seqR fun Rs hRs => ?_) | refine MW_seqR fun Rs hRs => ?_
        try simp only [MW_bind, MW_getv, MW_pure, MW_setv, put_lo, put_st, if_true, if_false, String.reduceEq, Option.some.injEq, exists_eq_left', MW_add, MW_sub, MW_neg, MW_tru, MW_lt_int, MW_gt, MW_ge, MW_le, MW_eqI, MW_neI, MW_isNone, MW_isNotNone, Bool.false_eq_true, Bool.not_true, Bool.not_false, rangeB, r2, r3, r4]
        have g2' := p1.get0 g2
        refine (MW_chkL (by exact g2')).mpr ?_
        try simp only [MW_bind, MW_getv, MW_pure, MW_setv, put_lo, put_st, if_true, if_false, String.reduceEq, Option.some.injEq, exists_eq_left', MW_add, MW_sub, MW_neg, MW_tru, MW_lt_int, MW_gt, MW_ge, MW_le, MW_eqI, MW_neI, MW_isNone, MW_isNotNone, Bool.false_eq_true, Bool.not_true, Bool.not_false, rangeB, r2, r3, r4]
        refine (MW_mkT (by simp)).mpr ?_
        try simp only [MW_bind, MW_getv, MW_pure, MW_setv, put_lo, put_st, if_true, if_false, String.reduceEq, Option.some.injEq, exists_eq_left', MW_add, MW_sub, MW_neg, MW_tru, MW_lt_int, MW_gt, MW_ge, MW_le, MW_eqI, MW_neI, MW_isNone, MW_isNotNone, Bool.false_eq_true, Bool.not_true, Bool.not_false, rangeB, r2, r3, r4]
        have e3 : V.tup [.int pw, .int (j : Int), .int (o : Int)] = entV wys (j, o) := by
          unfold entV ent3 tI; rw [hp]; rfl
        rw [e3]
        refine (MW_append (by exact g2') hl0 (by simp; (first | lia | omega))).mpr ?_
        subst hRs
        try simp only [MW_bind, MW_getv, MW_pure, MW_setv, put_lo, put_st, if_true, if_false, String.reduceEq, Option.some.injEq, exists_eq_left', MW_add, MW_sub, MW_neg, MW_tru, MW_lt_int, MW_gt, MW_ge, MW_le, MW_eqI, MW_neI, MW_isNone, MW_isNotNone, Bool.false_eq_true, Bool.not_true, Bool.not_false, rangeB, r2, r3, r4]
        refine (MW_len (vs := es.map (entV wys) ++ [entV wys (j, o)]) (by exact set_self (lt_of_get g2'))).mpr ?_
        try simp only [MW_bind, MW_getv, MW_pure, MW_setv, put_lo, put_st, if_true, if_false, String.reduceEq, Option.some.injEq, exists_eq_left', MW_add, MW_sub, MW_neg, MW_tru, MW_lt_int, MW_gt, MW_ge, MW_le, MW_eqI, MW_neI, MW_isNone, MW_isNotNone, Bool.false_eq_true, Bool.not_true, Bool.not_false, rangeB, r2, r3, r4]
        have e4 : (((es.map (entV wys) ++ [entV wys (j, o)]).length : Nat) : Int) - 1 = (es.length : Int) := by simp
        rw [e4]
        refine fin _ es.length (es.map (entV wys) ++ [entV wys (j, o)]) (es ++ [(j, o)]) ?_ ?_ ?_ ?_ ?_ ?_ ?_ ?_
        · intro y hy
          simp only [put_lo]
          have : ∀ x, x ∉ keptN → y ≠ x := fun x hx (q : y = x) => hx (q ▸ hy)
          rw [if_neg (this "at" (by decide)), if_neg (this "known" (by decide)), if_neg (this "other" (by decide))]
        · exact p1.nil.trans (Pres.set (by simp))
        · simp only [put_st]; exact set_self (lt_of_get g2')
        · rw [List.map_append]; rfl
        · simp
        · simp; (first | lia | omega)
        · have : nth (es.map (entV wys) ++ [entV wys (j, o)]) es.length = entV wys (j, o) := by unfold nth; simp
          rw [this]
          have := hpush_heap swo_tup entV_is (x := entV wys (j, o)) ⟨_, by simp [ent3], rfl⟩ hh
          unfold hpush at this
          rw [List.length_map] at this
          exact this
        · exact hE.new ht hjo h2 ho8 fun e he q => h3 ⟨e, he, q⟩
  · simp only [h1, decide_false, Bool.false_eq_true, if_false, MW_pure]
    refine ⟨.inl trivial, no ?_⟩
    intro o' hj'
    exfalso
    apply h1
    have a := joins_is hj'
    rw [hp] at a
    simp only [] at a
    simp; (first | lia | omega)
end Mine


/-! part L02 -/
set_option autoImplicit false
set_option maxRecDepth 100000
set_option linter.unusedVariables false
set_option linter.unusedSimpArgs false
open PySem PySem.W PyProof.Rows
namespace Mine

def sumsOf (ns : List Int) : List Int := (List.range (min 32 ns.length)).map fun (k : Nat) => (pickV ns (some (k : Int)) none (some 32)).sum
theorem sums_ok {σ : S} {ns : List Int} {Q : V → S → Prop} (hs : σ.lo "script" = some (.obj 0)) (hl : σ.st[0]? = some (.lst (ns.map V.int))) (hn : ns.length ≤ 63)
    (q : ∀ k st', Pres [] σ.st st' → σ.st.length ≤ k → st'[k]? = some (.lst ((sumsOf ns).map V.int)) → Q (.obj k) ⟨st', σ.lo⟩) : MW (compTail ["script"] law_c6 (.rng 0 ((min 32 ns.length : Nat) : Int) 1)) σ Q := by
  refine MW_compGrow (us := (List.range (min 32 ns.length)).map fun (j : Nat) => V.int (0 + (j : Int))) (n := 4096) (t := law_c6_t) (c := law_c6_i) (e := (do let vs ← (do let v ← (do let o ← (getv "script"); let i ← (do let a ← (getv "k"); let b ← (pure V.none : M V); let c ← (pure (V.int 32) : M V); pure (a, b, c)); sliceV o i); let vs ← (pure [] : M (List V)); pure (v :: vs)); sumB vs))
    (fun v => match v with | .int k => some (.int (pickV ns (some k) none (some 32)).sum) | _ => none)
    (fun _ _ => rfl) (ok_rng (rngU_small (by (first | lia | omega)) (by (first | lia | omega)) (by (first | lia | omega)))) (by have := lt_of_get hl; (first | lia | omega)) (fun σ' i _ => nxt_rngU σ' i (by (first | lia | omega))) (by simp; (first | lia | omega)) (by simp; (first | lia | omega)) ?_ ?_
  · intro v hv σ' hag hlo
    obtain ⟨j, hj, rfl⟩ := List.mem_map.mp hv
    have h0 : σ'.st[0]? = some (.lst (ns.map V.int)) := (hag 0 (lt_of_get hl)).trans hl
    have hs' : σ'.lo "script" = some (.obj 0) := (hlo "script" (by simp)).trans hs
    unfold law_c6_t law_c6_i
    try simp only [MW_bind, MW_getv, MW_pure, MW_setv, put_lo, put_st, if_true, if_false, String.reduceEq, Option.some.injEq, exists_eq_left', MW_add, MW_sub, MW_neg, MW_tru, MW_lt_int, MW_gt, MW_ge, MW_le, MW_eqI, MW_neI, MW_isNone, MW_isNotNone, Bool.false_eq_true, Bool.not_true, Bool.not_false, rangeB, hs']
    refine ⟨trivial, ?_, trivial, trivial, ?_⟩
    · intro x hx
      rw [List.mem_singleton.mp hx]
      simp only [String.reduceEq, if_false]
    refine MW_sliceS (lo := some (0 + (j : Int))) (hi := none) (st := some 32) (by exact h0) rfl rfl rfl (by simp) fun k1 st1 p1 f1 g1 => ?_
    rw [pickV_map] at g1
    refine (MW_sum (by exact g1)).mpr ⟨rfl, p1, fun x hx => rfl⟩
  · intro k st' p f g
    refine q k st' p f ?_
    rw [g, List.filterMap_map]
    unfold sumsOf
    rw [List.map_map, ← List.filterMap_eq_map]
    congr 3
    funext j
    simp

def wyOf (x : Int) : Wy := (x / 64, (x % 8).toNat, (x / 8 % 8).toNat)
theorem ways_ok {σ : S} {ds : List Int} {l : Nat} {Q : V → S → Prop} (hl : σ.st[l]? = some (.lst (ds.map V.int))) (hn : ds.length ≤ 1000)
    (q : ∀ k st', Pres [] σ.st st' → σ.st.length ≤ k → st'[k]? = some (.lst (waysV (ds.map wyOf))) → Q (.obj k) ⟨st', σ.lo⟩) : MW (enumIt (.obj l) >>= compTailG [] law_c5) σ Q := by
  refine MW_compEnum (us := ds.map V.int) (n := 4096) (t := law_c5_t) (e := (do let vs ← (do let v ← (do let a ← (getv "x"); let b ← (pure (V.int 64) : M V); fdivV a b); let vs ← (do let v ← (getv "i"); let vs ← (do let v ← (do let a ← (getv "x"); let b ← (pure (V.int 8) : M V); fmodV a b); let vs ← (do let v ← (do let a ← (do let a ← (getv "x"); let b ← (pure (V.int 8) : M V); fdivV a b); let b ← (pure (V.int 8) : M V); fmodV a b); let vs ← (pure [] : M (List V)); pure (v :: vs)); pure (v :: vs)); pure (v :: vs)); pure (v :: vs)); mkT vs))
    (fun i v => match v with | .int x => tI [x / 64, (i : Int), x % 8, x / 8 % 8] | _ => .none) (fun _ _ => rfl) hl (by simp; (first | lia | omega)) (by simp; (first | lia | omega)) ?_ ?_
  · intro i v hv σ'
    rw [List.getElem?_map] at hv
    obtain ⟨x, hx, rfl⟩ := Option.map_eq_some_iff.mp hv
    unfold law_c5_t
    rw [MW_unpack2, MW_consT, MW_setv, MW_consT, MW_setv, MW_pure]
    refine ⟨rfl, ?_⟩
    try simp only [MW_bind, MW_getv, MW_pure, MW_setv, put_lo, put_st, if_true, if_false, String.reduceEq, Option.some.injEq, exists_eq_left', MW_add, MW_sub, MW_neg, MW_tru, MW_lt_int, MW_gt, MW_ge, MW_le, MW_eqI, MW_neI, MW_isNone, MW_isNotNone, Bool.false_eq_true, Bool.not_true, Bool.not_false, rangeB, MW_fdiv, MW_fmod]
    refine ⟨by (first | lia | omega), by (first | lia | omega), by (first | lia | omega), by (first | lia | omega), ?_⟩
    exact (MW_mkT (by simp)).mpr ⟨rfl, rfl⟩
  · intro k st' p f g
    refine q k st' p f ?_
    rw [g]
    unfold waysV wayV
    simp only [List.length_map]
    congr 2
    refine List.map_congr_left fun i hi => ?_
    have hi' : i < ds.length := by simpa using hi
    have e1 : nth (ds.map wyOf) i = wyOf (nth ds i) := by
      rw [nth_getElem (by simpa using hi'), nth_getElem hi']; simp
    rw [e1]
    simp only [List.getD_eq_getElem?_getD, List.getElem?_map, nth_eq hi', Option.map_some, Option.getD_some, wyOf]
    congr 2
    simp; (first | lia | omega)

theorem MW_append' {σ : S} {l : Nat} {vs : List V} {v : V} {Q : V → S → Prop} (h : σ.st[l]? = some (.lst vs)) (hl : l ≠ 0) (hn : vs.length < 1000000) (q : Q .none ⟨σ.st.set l (.lst (vs ++ [v])), σ.lo⟩) : MW (appendG (.obj l) [v]) σ Q := (MW_append h hl hn).mpr q

structure Inv (wys : List Wy) (lw lt ln lh : Nat) (tk net : List Nat) (es : List (Nat × Nat)) (σ : S) : Prop where
  l1 : σ.lo "ways" = some (.obj lw)
  l2 : σ.lo "taken" = some (.obj lt)
  l3 : σ.lo "net" = some (.obj ln)
  l4 : σ.lo "heap" = some (.obj lh)
  g1 : σ.st[lw]? = some (.lst (waysV wys))
  g2 : σ.st[lt]? = some (.lst ((tk.map fun (n : Nat) => (n : Int)).map V.int))
  g3 : σ.st[ln]? = some (.lst ((net.map fun (n : Nat) => (n : Int)).map V.int))
  g4 : σ.st[lh]? = some (.lst (es.map (entV wys)))
  nd : tk.Nodup
  lt8 : ∀ x ∈ tk, x < 8
  nel : net.length ≤ 8
  hh : HeapFrom ltT 0 (es.map (entV wys))
  pr : Prim wys (· ∈ tk) net

theorem prim_round {σ : S} {wys : List Wy} {lw lt ln lh t : Nat} {tk net : List Nat} {es : List (Nat × Nat)} (I : Inv wys lw lt ln lh tk net es σ) (hlast : tk[tk.length - 1]? = some t) (hnl : net.length + 1 = tk.length)
    (hE : Ent wys (· ∈ tk) (MT wys (· ∈ tk) t 0) es) (hw : wys.length ≤ 63) (hE8 : ∀ p ∈ wys, p.2.1 < 8 ∧ p.2.2 < 8) (a1 : lt ≠ 0) (a2 : ln ≠ 0) (a3 : lh ≠ 0) (b1 : lh ≠ lw) (b2 : lh ≠ lt) (b3 : lh ≠ ln) (b4 : lt ≠ lw) (b5 : lt ≠ ln) (b6 : ln ≠ lw) :
    MW law_w4_b σ (fun f σ' => (f = .brk ∧ (∃ es', Inv wys lw lt ln lh tk net es' σ') ∧ ∀ i x y, Joins wys i x y → x ∈ tk → y ∈ tk) ∨
      (f = .next ∧ ∃ v e es', v ∉ tk ∧ v < 8 ∧ Inv wys lw lt ln lh (tk ++ [v]) (net ++ [e]) es' σ' ∧ Ent wys (· ∈ tk ++ [v]) (MT wys (· ∈ tk ++ [v]) v 0) es')) := by
  have ht : t ∈ tk := List.mem_of_getElem? hlast
  have htl : tk.length ≤ 8 := nodup_lt_length I.nd I.lt8
  unfold law_w4_b
  first | (subst hRs; refine MW_seqR fun Rs hRs => ?_) | refine MW_seqR fun Rs hRs => ?_
  try simp only [MW_bind, MW_getv, MW_pure, MW_setv, put_lo, put_st, if_true, if_false, String.reduceEq, Option.some.injEq, exists_eq_left', MW_add, MW_sub, MW_neg, MW_tru, MW_lt_int, MW_gt, MW_ge, MW_le, MW_eqI, MW_neI, MW_isNone, MW_isNotNone, Bool.false_eq_true, Bool.not_true, Bool.not_false, rangeB, I.l1]
  refine (MW_okL (by exact I.g1)).mpr ?_
  refine MW_for wys.length (fun j σ' => (∀ y ∈ keptN, σ'.lo y = σ.lo y) ∧ Pres [lh] σ.st σ'.st ∧ ∃ es', σ'.st[lh]? = some (.lst (es'.map (entV wys))) ∧ HeapFrom ltT 0 (es'.map (entV wys)) ∧ Ent wys (· ∈ tk) (MT wys (· ∈ tk) t j) es') ?_ ?_ 4096 0 _ (by (first | lia | omega)) (by (first | lia | omega))
    ⟨fun _ _ => rfl, Pres.refl _ _, es, I.g4, I.hh, hE⟩
  · rintro σ1 ⟨c1, c2, fs, c3, c4, c5⟩
    have hw1 : σ1.st[lw]? = some (.lst (waysV wys)) := c2.get I.g1 (by simp; (first | lia | omega))
    refine ⟨by rw [nxt_ways hw1, if_neg (by (first | lia | omega))], ?_⟩
    have l1 : σ1.lo "ways" = some (.obj lw) := (c1 _ (by decide)).trans I.l1
    have l2 : σ1.lo "taken" = some (.obj lt) := (c1 _ (by decide)).trans I.l2
    have l3 : σ1.lo "net" = some (.obj ln) := (c1 _ (by decide)).trans I.l3
    have l4 : σ1.lo "heap" = some (.obj lh) := (c1 _ (by decide)).trans I.l4
    have g2 := c2.get I.g2 (by simp; (first | lia | omega))
    have g3 := c2.get I.g3 (by simp; (first | lia | omega))
    have hfl := c5.length
    have hMn : ∀ i x y, Joins wys i x y → x ∈ tk → y ∉ tk → MT wys (· ∈ tk) t wys.length i y := by
      intro i x y h1 h2 h3
      refine ⟨h3, x, h1, ?_⟩
      by_cases e : x = t
      · exact .inr ⟨e, joins_lt h1⟩
      · exact .inl ⟨h2, e⟩
    first | (subst hRs; refine MW_seqR fun Rs hRs => ?_) | refine MW_seqR fun Rs hRs => ?_
    try simp only [MW_bind, MW_getv, MW_pure, MW_setv, put_lo, put_st, if_true, if_false, String.reduceEq, Option.some.injEq, exists_eq_left', MW_add, MW_sub, MW_neg, MW_tru, MW_lt_int, MW_gt, MW_ge, MW_le, MW_eqI, MW_neI, MW_isNone, MW_isNotNone, Bool.false_eq_true, Bool.not_true, Bool.not_false, rangeB, l4]
    refine MW_newL' (by simp) fun k2 st2 p2 f2 g5 => ?_
    have c3' : σ1.st[lh]? = some (.lst ((fs.map (ent3 wys)).map tI)) := by rw [c3, List.map_map]; rfl
    refine (MW_eqTL (bs := []) (by exact p2.get0 c3') (by exact g5)).mpr ?_
    try simp only [MW_bind, MW_getv, MW_pure, MW_setv, put_lo, put_st, if_true, if_false, String.reduceEq, Option.some.injEq, exists_eq_left', MW_add, MW_sub, MW_neg, MW_tru, MW_lt_int, MW_gt, MW_ge, MW_le, MW_eqI, MW_neI, MW_isNone, MW_isNotNone, Bool.false_eq_true, Bool.not_true, Bool.not_false, rangeB]
    by_cases hz : fs = []
    · subst hz
      simp only [List.map_nil, decide_true, if_true, MW_pure]
      refine .inl ⟨trivial, ⟨[], ⟨l1, l2, l3, l4, p2.get0 hw1, p2.get0 g2, p2.get0 g3, p2.get0 c3, I.nd, I.lt8, I.nel, by intro j h1 h2; simp at h2, I.pr⟩⟩, ?_⟩
      intro i x y h1 h2
      by_cases h3 : y ∈ tk
      · exact h3
      · obtain ⟨e, he, _⟩ := c5.all i y (hMn i x y h1 h2 h3)
        cases he
    · have hz' : ¬ fs.map (ent3 wys) = [] := by simpa using hz
      simp only [hz', decide_false, Bool.false_eq_true, if_false, MW_pure]
      first | (subst hRs; refine MW_seqR fun Rs hRs => ?_) | refine MW_seqR fun Rs hRs => ?_
      try simp only [MW_bind, MW_getv, MW_pure, MW_setv, put_lo, put_st, if_true, if_false, String.reduceEq, Option.some.injEq, exists_eq_left', MW_add, MW_sub, MW_neg, MW_tru, MW_lt_int, MW_gt, MW_ge, MW_le, MW_eqI, MW_neI, MW_isNone, MW_isNotNone, Bool.false_eq_true, Bool.not_true, Bool.not_false, rangeB, l4]
      have hpos : 0 < fs.length := by cases fs with | nil => exact absurd rfl hz | cons a b => simp
      refine MW_minLT (by exact p2.get0 c3') (by simpa using hpos) fun top htop hmin => ?_
      try simp only [MW_bind, MW_getv, MW_pure, MW_setv, put_lo, put_st, if_true, if_false, String.reduceEq, Option.some.injEq, exists_eq_left', MW_add, MW_sub, MW_neg, MW_tru, MW_lt_int, MW_gt, MW_ge, MW_le, MW_eqI, MW_neI, MW_isNone, MW_isNotNone, Bool.false_eq_true, Bool.not_true, Bool.not_false, rangeB]
      first | (subst hRs; refine MW_seqR fun Rs hRs => ?_) | refine MW_seqR fun Rs hRs => ?_
      try simp only [MW_bind, MW_getv, MW_pure, MW_setv, put_lo, put_st, if_true, if_false, String.reduceEq, Option.some.injEq, exists_eq_left', MW_add, MW_sub, MW_neg, MW_tru, MW_lt_int, MW_gt, MW_ge, MW_le, MW_eqI, MW_neI, MW_isNone, MW_isNotNone, Bool.false_eq_true, Bool.not_true, Bool.not_false, rangeB, l4]
      have sp := heappop_spec (P := IsT1) (lt := ltT) (st := st2) (l := lh) (vs := fs.map (entV wys)) (p2.get0 c3) a3 (by simpa using hpos) (by simp; (first | lia | omega)) entV_is (ltAt_tup _ _)
      have hpp := hpop_perm ltT (vs := fs.map (entV wys)) (by simpa using hpos)
      have hph := hpop_heap swo_tup (entV_is (wys := wys) (es := fs)) (by simpa using hpos) c4
      have hpm := hpop_min swo_tup (entV_is (wys := wys) (es := fs)) c4
      generalize hpop ltT (fs.map (entV wys)) = pr at sp hpp hph hpm
      obtain ⟨zs, hz1, hz2⟩ := perm_map_inv (entI_entV wys) hpp
      obtain ⟨e0, rs, rfl⟩ : ∃ e0 rs, zs = e0 :: rs := by
        cases zs with
        | nil => simp at hz2
        | cons a b => exact ⟨a, b, rfl⟩
      rw [List.map_cons, List.cons.injEq] at hz2
      obtain ⟨hp1, hp2⟩ := hz2
      rw [hp1, hp2] at sp
      rw [hp1] at hpm
      rw [hp2] at hph
      have he0 : e0 ∈ fs := hz1.mem_iff.mp List.mem_cons_self
      have hok0 := c5.ok e0 he0
      -- the least is the first one out
      have hmin0 : ∀ e ∈ fs, lexB (ent3 wys e) (ent3 wys e0) = false := by
        intro e he
        rw [← ltT_ent]
        exact hpm _ (List.mem_map.mpr ⟨e, he, rfl⟩)
      have htop' : top = ent3 wys e0 := by
        obtain ⟨e, he, rfl⟩ := List.mem_map.mp htop
        exact lexB_total _ _ (hmin0 e he) (hmin _ (List.mem_map.mpr ⟨e0, he0, rfl⟩))
      subst htop'
      refine MW_callF' (by exact sp) ?_
      try simp only [MW_bind, MW_getv, MW_pure, MW_setv, put_lo, put_st, if_true, if_false, String.reduceEq, Option.some.injEq, exists_eq_left', MW_add, MW_sub, MW_neg, MW_tru, MW_lt_int, MW_gt, MW_ge, MW_le, MW_eqI, MW_neI, MW_isNone, MW_isNotNone, Bool.false_eq_true, Bool.not_true, Bool.not_false, rangeB]
      have ev : entV wys e0 = tI (ent3 wys e0) := rfl
      rw [ev, MW_neT]
      try simp only [MW_bind, MW_getv, MW_pure, MW_setv, put_lo, put_st, if_true, if_false, String.reduceEq, Option.some.injEq, exists_eq_left', MW_add, MW_sub, MW_neg, MW_tru, MW_lt_int, MW_gt, MW_ge, MW_le, MW_eqI, MW_neI, MW_isNone, MW_isNotNone, Bool.false_eq_true, Bool.not_true, Bool.not_false, rangeB, decide_true]
      first | (subst hRs; refine MW_seqR fun Rs hRs => ?_) | refine MW_seqR fun Rs hRs => ?_
      try simp only [MW_bind, MW_getv, MW_pure, MW_setv, put_lo, put_st, if_true, if_false, String.reduceEq, Option.some.injEq, exists_eq_left', MW_add, MW_sub, MW_neg, MW_tru, MW_lt_int, MW_gt, MW_ge, MW_le, MW_eqI, MW_neI, MW_isNone, MW_isNotNone, Bool.false_eq_true, Bool.not_true, Bool.not_false, rangeB, l2]
      have q2 : (st2.set lh (.lst (rs.map (entV wys))))[lt]? = some (.lst ((tk.map fun (n : Nat) => (n : Int)).map V.int)) := by rw [List.getElem?_set_ne b2]; exact p2.get0 g2
      refine (MW_chkL (by exact q2)).mpr ?_
      try simp only [MW_bind, MW_getv, MW_pure, MW_setv, put_lo, put_st, if_true, if_false, String.reduceEq, Option.some.injEq, exists_eq_left', MW_add, MW_sub, MW_neg, MW_tru, MW_lt_int, MW_gt, MW_ge, MW_le, MW_eqI, MW_neI, MW_isNone, MW_isNotNone, Bool.false_eq_true, Bool.not_true, Bool.not_false, rangeB]
      refine (MW_getTI (j := 2) rfl (by simp [ent3])).mpr ?_
      refine MW_append' (by exact q2) a1 (by simp; (first | lia | omega)) ?_
      subst hRs
      try simp only [MW_bind, MW_getv, MW_pure, MW_setv, put_lo, put_st, if_true, if_false, String.reduceEq, Option.some.injEq, exists_eq_left', MW_add, MW_sub, MW_neg, MW_tru, MW_lt_int, MW_gt, MW_ge, MW_le, MW_eqI, MW_neI, MW_isNone, MW_isNotNone, Bool.false_eq_true, Bool.not_true, Bool.not_false, rangeB, l3]
      have q3 : ((st2.set lh (.lst (rs.map (entV wys)))).set lt (.lst ((tk.map fun (n : Nat) => (n : Int)).map V.int ++ [.int (nth (ent3 wys e0) 2)])))[ln]? = some (.lst ((net.map fun (n : Nat) => (n : Int)).map V.int)) := by
        rw [List.getElem?_set_ne b5, List.getElem?_set_ne b3]; exact p2.get0 g3
      refine (MW_chkL (by exact q3)).mpr ?_
      try simp only [MW_bind, MW_getv, MW_pure, MW_setv, put_lo, put_st, if_true, if_false, String.reduceEq, Option.some.injEq, exists_eq_left', MW_add, MW_sub, MW_neg, MW_tru, MW_lt_int, MW_gt, MW_ge, MW_le, MW_eqI, MW_neI, MW_isNone, MW_isNotNone, Bool.false_eq_true, Bool.not_true, Bool.not_false, rangeB]
      refine (MW_getTI (j := 1) rfl (by simp [ent3])).mpr ?_
      have hnel := I.nel
      refine MW_append' (by exact q3) a2 (by simp; (first | lia | omega)) ?_
      have ho : nth (ent3 wys e0) 2 = (e0.2 : Int) := rfl
      have hi : nth (ent3 wys e0) 1 = (e0.1 : Int) := rfl
      rw [ho, hi]
      have hv : e0.2 ∉ tk := hok0.1
      have hnd' : (tk ++ [e0.2]).Nodup := by
        rw [List.nodup_append]
        exact ⟨I.nd, by simp, fun a ha b hb q => by have : b = e0.2 := by simpa using hb
                                                    subst this; subst q; exact hv ha⟩
      have hlt8' : ∀ x ∈ tk ++ [e0.2], x < 8 := by
        intro x hx
        rcases List.mem_append.mp hx with h | h
        · exact I.lt8 x h
        · rw [List.mem_singleton.mp h]; exact hok0.2.1
      have hlen' := nodup_lt_length hnd' hlt8'
      simp only [List.length_append, List.length_singleton] at hlen'
      -- the way taken
      obtain ⟨hu1, u0, hu2, hu3⟩ := hok0.2.2.2.1
      have hu0 : u0 ∈ tk := by
        rcases hu3 with ⟨h, _⟩ | ⟨h, _⟩
        · exact h
        · rw [h]; exact ht
      have hprim := I.pr.step hu2 hu0 hv (by
        intro i x y h1 h2 h3
        have hM := hMn i x y h1 h2 h3
        obtain ⟨e, he, q⟩ := c5.all i y hM
        subst q
        have hoke := c5.ok e he
        have h4 := hoke.2.2.2.2 i hM
        rcases kl_of_ent (wys := wys) hoke.2.2.1 hok0.2.2.1 (hmin0 e he) with h5 | h5
        · rw [h5]; exact h4
        · rcases h4 with h4 | h4
          · subst h4; exact .inr h5
          · exact .inr (kl_trans h5 h4))
      have hT : (fun x => x ∈ tk ∨ x = e0.2) = (fun x => x ∈ tk ++ [e0.2]) := by funext x; simp
      rw [hT] at hprim
      refine .inr ⟨trivial, e0.2, e0.1, rs, hv, hok0.2.1, ⟨?_, ?_, ?_, ?_, ?_, ?_, ?_, ?_, hnd', hlt8', ?_, hph, hprim⟩, ?_⟩
      · simp only [put_lo, String.reduceEq, if_false]; exact l1
      · simp only [put_lo, String.reduceEq, if_false]; exact l2
      · simp only [put_lo, String.reduceEq, if_false]; exact l3
      · simp only [put_lo, String.reduceEq, if_false]; exact l4
      · simp only []
        rw [List.getElem?_set_ne b6, List.getElem?_set_ne b4, List.getElem?_set_ne b1]; exact p2.get0 hw1
      · simp only []
        rw [List.getElem?_set_ne (Ne.symm b5), set_self (lt_of_get q2), List.map_append, List.map_append]; rfl
      · simp only []
        rw [ho] at q3
        rw [set_self (lt_of_get q3), List.map_append, List.map_append]; rfl
      · simp only []
        rw [List.getElem?_set_ne (Ne.symm b3), List.getElem?_set_ne (Ne.symm b2), set_self (lt_of_get (p2.get0 c3))]
      · simp only [List.length_append, List.length_singleton]; (first | lia | omega)
      · -- what is held now
        have hnds : (rs.map (·.2)).Nodup ∧ e0.2 ∉ rs.map (·.2) := by
          have := (hz1.map (·.2)).nodup_iff.mpr c5.nd
          rw [List.map_cons, List.nodup_cons] at this
          exact ⟨this.2, this.1⟩
        have hMM : ∀ i o, MT wys (· ∈ tk ++ [e0.2]) e0.2 0 i o ↔ (MT wys (· ∈ tk) t wys.length i o ∧ o ≠ e0.2) := by
          intro i o
          constructor
          · rintro ⟨h1, x, h2, ⟨h3, h4⟩ | ⟨_, h4⟩⟩
            · have h1' : o ∉ tk := fun q => h1 (by simp [q])
              refine ⟨hMn i x o h2 ?_ h1', fun q => h1 (by simp [q])⟩
              rcases List.mem_append.mp h3 with q | q
              · exact q
              · exact absurd (List.mem_singleton.mp q) h4
            · (first | lia | omega)
          · rintro ⟨⟨h1, x, h2, h3⟩, h4⟩
            have hx : x ∈ tk := by
              rcases h3 with ⟨q, _⟩ | ⟨q, _⟩
              · exact q
              · rw [q]; exact ht
            refine ⟨?_, x, h2, .inl ⟨?_, ?_⟩⟩
            · intro q
              rcases List.mem_append.mp q with q | q
              · exact h1 q
              · exact h4 (List.mem_singleton.mp q)
            · exact List.mem_append_left _ hx
            · rintro rfl; exact hv hx
        refine ⟨fun e he => ?_, fun i o hm => ?_, hnds.1⟩
        · obtain ⟨d1, d2, d3, d4, d5⟩ := c5.ok e (hz1.mem_iff.mp (List.mem_cons_of_mem _ he))
          have hne : e.2 ≠ e0.2 := fun q => hnds.2 (q ▸ List.mem_map.mpr ⟨e, he, rfl⟩)
          refine ⟨?_, d2, d3, (hMM _ _).mpr ⟨d4, hne⟩, fun i hi => d5 i ((hMM _ _).mp hi).1⟩
          intro q
          rcases List.mem_append.mp q with q | q
          · exact d1 q
          · exact hne (List.mem_singleton.mp q)
        · obtain ⟨h1, h2⟩ := (hMM _ _).mp hm
          obtain ⟨e, he, q⟩ := c5.all _ _ h1
          rcases List.mem_cons.mp (hz1.mem_iff.mpr he) with h3 | h3
          · subst h3; exact absurd q.symm h2
          · exact ⟨e, h3, q⟩
  · rintro j σ1 hj ⟨c1, c2, fs, c3, c4, c5⟩
    have hw1 : σ1.st[lw]? = some (.lst (waysV wys)) := c2.get I.g1 (by simp; (first | lia | omega))
    refine ⟨wayV wys j, by rw [nxt_ways hw1, if_pos hj], ?_⟩
    have hends := hE8 _ (nth_mem hj)
    have hp : nth wys j = ((nth wys j).1, (nth wys j).2.1, (nth wys j).2.2) := rfl
    unfold law_l3_t wayV tI
    generalize (nth wys j).1 = pw at hp ⊢
    generalize (nth wys j).2.1 = pa at hp hends ⊢
    generalize (nth wys j).2.2 = pb at hp hends ⊢
    simp only [List.map_cons, List.map_nil]
    rw [MW_unpack4]
    simp only [MW_consT, MW_setv, MW_pure]
    have l2 : σ1.lo "taken" = some (.obj lt) := (c1 _ (by decide)).trans I.l2
    have l4 : σ1.lo "heap" = some (.obj lh) := (c1 _ (by decide)).trans I.l4
    refine (way_round (σ := (((σ1.put "weight" (.int pw)).put "i" (.int (j : Int))).put "a" (.int (pa : Int))).put "b" (.int (pb : Int))) (lt := lt) (lh := lh) (by simp only [put_lo, String.reduceEq, if_true, if_false]; exact l2) (by simp only [put_lo, String.reduceEq, if_true, if_false]; exact l4) (by simp only [put_lo, String.reduceEq, if_true, if_false]) (by simp only [put_lo, String.reduceEq, if_true, if_false]) (by simp only [put_lo, String.reduceEq, if_true, if_false]) (by simp only [put_lo, String.reduceEq, if_true, if_false]) hj hp hends.1 hends.2 (c2.get I.g2 (by simp; (first | lia | omega))) (by (first | lia | omega)) hlast c3 c4 c5 a3 b2).mono ?_
    rintro f σ2 ⟨d1, d2, d3, fs', d4, d5, d6⟩
    have key : (∀ y ∈ keptN, σ2.lo y = σ.lo y) ∧ Pres [lh] σ.st σ2.st ∧ ∃ es', σ2.st[lh]? = some (.lst (es'.map (entV wys))) ∧ HeapFrom ltT 0 (es'.map (entV wys)) ∧ Ent wys (· ∈ tk) (MT wys (· ∈ tk) t (j + 1)) es' := by
      refine ⟨fun y hy => ?_, c2.trans d3, fs', d4, d5, d6⟩
      rw [d2 y hy, kept_put (by decide) y hy, kept_put (by decide) y hy, kept_put (by decide) y hy, kept_put (by decide) y hy]
      exact c1 y hy
    rcases d1 with rfl | rfl
    · exact key
    · exact key

theorem law_true (ns : List Int) (hns : ns.length ≤ 63) : ∃ st', f_law [.obj 0] [.lst (ns.map .int)] = .ok (.bool true) st' := by
  suffices h : ∃ v st', f_law [.obj 0] [.lst (ns.map .int)] = .ok v st' ∧ v = .bool true by
    obtain ⟨v, st', e, rfl⟩ := h; exact ⟨st', e⟩
  unfold f_law
  refine funM_ex (params := ["script"]) (vs := [.obj 0]) (R := fun v _ => v = .bool true) (by rfl) ?_
  unfold law_m
  first | (subst hRs; refine MW_seqR fun Rs hRs => ?_) | refine MW_seqR fun Rs hRs => ?_
  try simp only [MW_bind, MW_getv, MW_pure, MW_setv, put_lo, put_st, if_true, if_false, String.reduceEq, Option.some.injEq, exists_eq_left', MW_add, MW_sub, MW_neg, MW_tru, MW_lt_int, MW_gt, MW_ge, MW_le, MW_eqI, MW_neI, MW_isNone, MW_isNotNone, Bool.false_eq_true, Bool.not_true, Bool.not_false, rangeB, bindP]
  refine MW_newL' (by simp) fun k1 st1 p1 f1 g1 => ?_
  have g0 : st1[0]? = some (.lst (ns.map V.int)) := p1.get0 rfl
  try simp only [MW_bind, MW_getv, MW_pure, MW_setv, put_lo, put_st, if_true, if_false, String.reduceEq, Option.some.injEq, exists_eq_left', MW_add, MW_sub, MW_neg, MW_tru, MW_lt_int, MW_gt, MW_ge, MW_le, MW_eqI, MW_neI, MW_isNone, MW_isNotNone, Bool.false_eq_true, Bool.not_true, Bool.not_false, rangeB]
  refine (MW_len (by exact g0)).mpr ?_
  rw [MW_min2I, List.length_map]
  have emin : (if (ns.length : Int) < 32 then (ns.length : Int) else 32) = ((min 32 ns.length : Nat) : Int) := by split <;> (first | lia | omega)
  rw [emin]
  try simp only [MW_bind, MW_getv, MW_pure, MW_setv, put_lo, put_st, if_true, if_false, String.reduceEq, Option.some.injEq, exists_eq_left', MW_add, MW_sub, MW_neg, MW_tru, MW_lt_int, MW_gt, MW_ge, MW_le, MW_eqI, MW_neI, MW_isNone, MW_isNotNone, Bool.false_eq_true, Bool.not_true, Bool.not_false, rangeB]
  refine sums_ok (by simp) (by exact g0) hns fun k2 st2 p2 f2 g2 => ?_
  refine MW_addL' (by exact p2.get0 g1) (by exact g2) (by simp [sumsOf]; (first | lia | omega)) fun ld st3 p3 f3 g3 => ?_
  simp only [] at p3 f3
  rw [show [V.int 584, V.int 528, V.int 472, V.int 416, V.int 360, V.int 13, V.int 529, V.int (-140)] ++ (sumsOf ns).map V.int = ([584, 528, 472, 416, 360, 13, 529, -140] ++ sumsOf ns).map V.int by simp] at g3
  generalize hds : [584, 528, 472, 416, 360, 13, 529, -140] ++ sumsOf ns = ds at g3
  have hdl : ds.length ≤ 40 ∧ 8 ≤ ds.length := by rw [← hds]; simp [sumsOf]; (first | lia | omega)
  try simp only [MW_bind, MW_getv, MW_pure, MW_setv, put_lo, put_st, if_true, if_false, String.reduceEq, Option.some.injEq, exists_eq_left', MW_add, MW_sub, MW_neg, MW_tru, MW_lt_int, MW_gt, MW_ge, MW_le, MW_eqI, MW_neI, MW_isNone, MW_isNotNone, Bool.false_eq_true, Bool.not_true, Bool.not_false, rangeB]
  first | (subst hRs; refine MW_seqR fun Rs hRs => ?_) | refine MW_seqR fun Rs hRs => ?_
  try simp only [MW_bind, MW_getv, MW_pure, MW_setv, put_lo, put_st, if_true, if_false, String.reduceEq, Option.some.injEq, exists_eq_left', MW_add, MW_sub, MW_neg, MW_tru, MW_lt_int, MW_gt, MW_ge, MW_le, MW_eqI, MW_neI, MW_isNone, MW_isNotNone, Bool.false_eq_true, Bool.not_true, Bool.not_false, rangeB]
  rw [← MW_bind]
  refine ways_ok (by exact g3) (by (first | lia | omega)) fun lw st4 p4 f4 g4 => ?_
  simp only [put_st] at p4 f4
  generalize hwy : ds.map wyOf = wys at g4
  have hwl : wys.length ≤ 40 ∧ 8 ≤ wys.length := by rw [← hwy]; simpa using hdl
  have hE8 : ∀ p ∈ wys, p.2.1 < 8 ∧ p.2.2 < 8 := by
    intro p hp
    rw [← hwy] at hp
    obtain ⟨x, _, rfl⟩ := List.mem_map.mp hp
    unfold wyOf; dsimp only; (first | lia | omega)
  have hl3 := lt_of_get g3
  have hlw := lt_of_get g4
  try simp only [MW_bind, MW_getv, MW_pure, MW_setv, put_lo, put_st, if_true, if_false, String.reduceEq, Option.some.injEq, exists_eq_left', MW_add, MW_sub, MW_neg, MW_tru, MW_lt_int, MW_gt, MW_ge, MW_le, MW_eqI, MW_neI, MW_isNone, MW_isNotNone, Bool.false_eq_true, Bool.not_true, Bool.not_false, rangeB]
  first | (subst hRs; refine MW_seqR fun Rs hRs => ?_) | refine MW_seqR fun Rs hRs => ?_
  try simp only [MW_bind, MW_getv, MW_pure, MW_setv, put_lo, put_st, if_true, if_false, String.reduceEq, Option.some.injEq, exists_eq_left', MW_add, MW_sub, MW_neg, MW_tru, MW_lt_int, MW_gt, MW_ge, MW_le, MW_eqI, MW_neI, MW_isNone, MW_isNotNone, Bool.false_eq_true, Bool.not_true, Bool.not_false, rangeB]
  refine MW_newL' (by simp) fun lt st5 p5 f5 g5 => ?_
  simp only [put_st] at p5 f5
  have hlt := lt_of_get g5
  first | (subst hRs; refine MW_seqR fun Rs hRs => ?_) | refine MW_seqR fun Rs hRs => ?_
  try simp only [MW_bind, MW_getv, MW_pure, MW_setv, put_lo, put_st, if_true, if_false, String.reduceEq, Option.some.injEq, exists_eq_left', MW_add, MW_sub, MW_neg, MW_tru, MW_lt_int, MW_gt, MW_ge, MW_le, MW_eqI, MW_neI, MW_isNone, MW_isNotNone, Bool.false_eq_true, Bool.not_true, Bool.not_false, rangeB]
  refine MW_newL' (by simp) fun ln st6 p6 f6 g6 => ?_
  simp only [put_st] at p6 f6
  have hln := lt_of_get g6
  first | (subst hRs; refine MW_seqR fun Rs hRs => ?_) | refine MW_seqR fun Rs hRs => ?_
  try simp only [MW_bind, MW_getv, MW_pure, MW_setv, put_lo, put_st, if_true, if_false, String.reduceEq, Option.some.injEq, exists_eq_left', MW_add, MW_sub, MW_neg, MW_tru, MW_lt_int, MW_gt, MW_ge, MW_le, MW_eqI, MW_neI, MW_isNone, MW_isNotNone, Bool.false_eq_true, Bool.not_true, Bool.not_false, rangeB]
  refine MW_newL' (by simp) fun lh st7 p7 f7 g7 => ?_
  simp only [put_st] at p7 f7
  have hlh := lt_of_get g7
  first | (subst hRs; refine MW_seqR fun Rs hRs => ?_) | refine MW_seqR fun Rs hRs => ?_
  have d1 : lt ≠ 0 := by (first | lia | omega)
  have d2 : ln ≠ 0 := by (first | lia | omega)
  have d3 : lh ≠ 0 := by (first | lia | omega)
  have e1 : lh ≠ lw := by (first | lia | omega)
  have e2 : lh ≠ lt := by (first | lia | omega)
  have e3 : lh ≠ ln := by (first | lia | omega)
  have e4 : lt ≠ lw := by (first | lia | omega)
  have e5 : lt ≠ ln := by (first | lia | omega)
  have e6 : ln ≠ lw := by (first | lia | omega)
  refine MW_while (fun k σ => ∃ tk net es t, Inv wys lw lt ln lh tk net es σ ∧ tk[tk.length - 1]? = some t ∧ net.length + 1 = tk.length ∧ Ent wys (· ∈ tk) (MT wys (· ∈ tk) t 0) es ∧ k = 9 - tk.length) ?_ 4096 8 _ (by (first | lia | omega)) ?_
  · rintro k σ ⟨tk, net, es, t, I, hlast, hnl, hE, rfl⟩
    unfold law_w4_c
    try simp only [MW_bind, MW_getv, MW_pure, MW_setv, put_lo, put_st, if_true, if_false, String.reduceEq, Option.some.injEq, exists_eq_left', MW_add, MW_sub, MW_neg, MW_tru, MW_lt_int, MW_gt, MW_ge, MW_le, MW_eqI, MW_neI, MW_isNone, MW_isNotNone, Bool.false_eq_true, Bool.not_true, Bool.not_false, rangeB]
    refine (prim_round I hlast hnl hE (by (first | lia | omega)) hE8 d1 d2 d3 e1 e2 e3 e4 e5 e6).mono ?_
    rintro f σ' (⟨rfl, ⟨es', I'⟩, hcl⟩ | ⟨rfl, v, e, es', hv, hv8, I', hE'⟩)
    · dsimp only
      first | (subst hRs; refine MW_seqR fun Rs hRs => ?_) | refine MW_seqR fun Rs hRs => ?_
      try simp only [MW_bind, MW_getv, MW_pure, MW_setv, put_lo, put_st, if_true, if_false, String.reduceEq, Option.some.injEq, exists_eq_left', MW_add, MW_sub, MW_neg, MW_tru, MW_lt_int, MW_gt, MW_ge, MW_le, MW_eqI, MW_neI, MW_isNone, MW_isNotNone, Bool.false_eq_true, Bool.not_true, Bool.not_false, rangeB, I'.l1]
      obtain ⟨v, st8, hsp, lm, r, far, L, rfl, p8, hM, hS, hU, hfar⟩ := lowest_spec I'.g1 (by (first | lia | omega)) (by (first | lia | omega)) hE8
      refine MW_callF' (by exact hsp) ?_
      subst hRs
      try simp only [MW_bind, MW_getv, MW_pure, MW_setv, put_lo, put_st, if_true, if_false, String.reduceEq, Option.some.injEq, exists_eq_left', MW_add, MW_sub, MW_neg, MW_tru, MW_lt_int, MW_gt, MW_ge, MW_le, MW_eqI, MW_neI, MW_isNone, MW_isNotNone, Bool.false_eq_true, Bool.not_true, Bool.not_false, rangeB, I'.l3]
      have g3' := p8.get0 I'.g3
      have hnn : net.length ≤ 8 := I'.nel
      refine (MW_sorted (by exact g3') (by simp; (first | lia | omega))).mpr ?_
      try simp only [MW_bind, MW_getv, MW_pure, MW_setv, put_lo, put_st, if_true, if_false, String.reduceEq, Option.some.injEq, exists_eq_left', MW_add, MW_sub, MW_neg, MW_tru, MW_lt_int, MW_gt, MW_ge, MW_le, MW_eqI, MW_neI, MW_isNone, MW_isNotNone, Bool.false_eq_true, Bool.not_true, Bool.not_false, rangeB, I'.l1]
      have pS : Pres [] st8 (st8 ++ [.lst ((sortI (net.map fun (n : Nat) => (n : Int))).map V.int)]) := Pres.app ..
      have gS : (st8 ++ [.lst ((sortI (net.map fun (n : Nat) => (n : Int))).map V.int)])[st8.length]? = some (.lst ((sortI (net.map fun (n : Nat) => (n : Int))).map V.int)) := List.getElem?_concat_length
      generalize st8 ++ [.lst ((sortI (net.map fun (n : Nat) => (n : Int))).map V.int)] = st9 at pS gS ⊢
      have gw9 := pS.get0 (p8.get0 I'.g1)
      have gt9 := pS.get0 (p8.get0 I'.g2)
      have hM9 := hM.pres pS
      -- which ones
      obtain ⟨cond, hcd⟩ : ∃ cond : Nat → Bool, ∀ i, cond i = (decide ((nth wys i).2.1 ≠ (nth wys i).2.2) && (decide ((nth wys i).2.1 ∈ tk) && decide (phases L 8 (nth wys i).2.1 (nth wys i).2.2 = keyOf wys i))) := ⟨_, fun _ => rfl⟩
      refine MW_compPure (us := waysV wys) (n := 4096) (t := law_c1_t) (c := law_c1_i) (e := getv "i") (fun v => match v with | .tup [_, .int i, _, _] => if cond i.toNat = true then some (.int i) else none | _ => none)
        (fun _ _ => rfl) (ok_obj (by exact gw9)) (by have := lt_of_get gw9; simp only []; (first | lia | omega)) (nxt_obj (by exact gw9)) (by simp [waysV]; (first | lia | omega)) (by simp [waysV]; (first | lia | omega)) ?_ ?_
      · intro v hv σ₁ hag hlo
        obtain ⟨i, hi, rfl⟩ := List.mem_map.mp hv
        have hi' : i < wys.length := by simpa using hi
        have hends := hE8 _ (nth_mem hi')
        have hl1 : σ₁.lo "low" = some (.obj lm) := (hlo "low" (by simp)).trans (by simp only [put_lo, if_true])
        have hl2 : σ₁.lo "taken" = some (.obj lt) := (hlo "taken" (by simp)).trans (by simp only [put_lo, String.reduceEq, if_false]; exact I'.l2)
        have gt1 : σ₁.st[lt]? = some (.lst ((tk.map fun (n : Nat) => (n : Int)).map V.int)) := (hag lt (lt_of_get gt9)).trans gt9
        have hM1 : Mat σ₁.st lm r (phases L 8) := ⟨(hag lm (lt_of_get hM9.top)).trans hM9.top, fun a ha => (hag _ (lt_of_get (hM9.row a ha))).trans (hM9.row a ha), hM9.inj, hM9.pos⟩
        have hk := keyOf_eq hi'
        have hcond := hcd i
        rw [hk] at hcond
        unfold law_c1_t law_c1_i wayV tI
        simp only [List.map_cons, List.map_nil, Int.toNat_natCast]
        generalize (nth wys i).1 = pw at hcond ⊢
        generalize (nth wys i).2.1 = pa at hends hcond ⊢
        generalize (nth wys i).2.2 = pb at hends hcond ⊢
        rw [MW_unpack4]
        simp only [MW_consT, MW_setv, MW_pure]
        refine ⟨rfl, ?_, ?_⟩
        · intro x hx
          simp only [List.mem_cons, List.not_mem_nil, or_false] at hx
          rcases hx with rfl | rfl <;> simp only [put_lo, String.reduceEq, if_false]
        try simp only [MW_bind, MW_getv, MW_pure, MW_setv, put_lo, put_st, if_true, if_false, String.reduceEq, Option.some.injEq, exists_eq_left', MW_add, MW_sub, MW_neg, MW_tru, MW_lt_int, MW_gt, MW_ge, MW_le, MW_eqI, MW_neI, MW_isNone, MW_isNotNone, Bool.false_eq_true, Bool.not_true, Bool.not_false, rangeB, hl1, hl2]
        have hab : ((pa : Int) = (pb : Int)) ↔ pa = pb := by (first | lia | omega)
        by_cases h1 : pa = pb
        · have hci : cond i = false := by rw [hcond]; simp [h1]
          simp only [hci, hab.mpr h1, decide_true, Bool.not_true, Bool.false_eq_true, if_false, MW_pure]
          exact ⟨trivial, trivial⟩
        · have hab' : ¬ (pa : Int) = (pb : Int) := fun q => h1 (hab.mp q)
          simp only [hab', decide_false, Bool.not_false, if_true]
          try simp only [MW_bind, MW_getv, MW_pure, MW_setv, put_lo, put_st, if_true, if_false, String.reduceEq, Option.some.injEq, exists_eq_left', MW_add, MW_sub, MW_neg, MW_tru, MW_lt_int, MW_gt, MW_ge, MW_le, MW_eqI, MW_neI, MW_isNone, MW_isNotNone, Bool.false_eq_true, Bool.not_true, Bool.not_false, rangeB, hl1, hl2]
          refine (MW_inL (by exact gt1)).mpr ?_
          try simp only [MW_bind, MW_getv, MW_pure, MW_setv, put_lo, put_st, if_true, if_false, String.reduceEq, Option.some.injEq, exists_eq_left', MW_add, MW_sub, MW_neg, MW_tru, MW_lt_int, MW_gt, MW_ge, MW_le, MW_eqI, MW_neI, MW_isNone, MW_isNotNone, Bool.false_eq_true, Bool.not_true, Bool.not_false, rangeB, hl1, hl2]
          have hmem : ((pa : Int) ∈ tk.map fun (n : Nat) => (n : Int)) ↔ pa ∈ tk := by
            rw [List.mem_map]
            constructor
            · rintro ⟨x, hx, e⟩; have : x = pa := by (first | lia | omega)
              subst this; exact hx
            · intro h; exact ⟨pa, h, rfl⟩
          by_cases h2 : pa ∈ tk
          · simp only [hmem.mpr h2, decide_true, if_true]
            try simp only [MW_bind, MW_getv, MW_pure, MW_setv, put_lo, put_st, if_true, if_false, String.reduceEq, Option.some.injEq, exists_eq_left', MW_add, MW_sub, MW_neg, MW_tru, MW_lt_int, MW_gt, MW_ge, MW_le, MW_eqI, MW_neI, MW_isNone, MW_isNotNone, Bool.false_eq_true, Bool.not_true, Bool.not_false, rangeB, hl1, hl2]
            refine (MW_mrow (by exact hM1) hends.1).mpr ?_
            try simp only [MW_bind, MW_getv, MW_pure, MW_setv, put_lo, put_st, if_true, if_false, String.reduceEq, Option.some.injEq, exists_eq_left', MW_add, MW_sub, MW_neg, MW_tru, MW_lt_int, MW_gt, MW_ge, MW_le, MW_eqI, MW_neI, MW_isNone, MW_isNotNone, Bool.false_eq_true, Bool.not_true, Bool.not_false, rangeB]
            refine (MW_mget (by exact hM1) hends.1 hends.2).mpr ?_
            try simp only [MW_bind, MW_getv, MW_pure, MW_setv, put_lo, put_st, if_true, if_false, String.reduceEq, Option.some.injEq, exists_eq_left', MW_add, MW_sub, MW_neg, MW_tru, MW_lt_int, MW_gt, MW_ge, MW_le, MW_eqI, MW_neI, MW_isNone, MW_isNotNone, Bool.false_eq_true, Bool.not_true, Bool.not_false, rangeB]
            refine (MW_mkT (by simp)).mpr ?_
            have e7 : V.tup [.int pw, .int (i : Int)] = tI [pw, (i : Int)] := rfl
            rw [e7, MW_eqT]
            try simp only [MW_bind, MW_getv, MW_pure, MW_setv, put_lo, put_st, if_true, if_false, String.reduceEq, Option.some.injEq, exists_eq_left', MW_add, MW_sub, MW_neg, MW_tru, MW_lt_int, MW_gt, MW_ge, MW_le, MW_eqI, MW_neI, MW_isNone, MW_isNotNone, Bool.false_eq_true, Bool.not_true, Bool.not_false, rangeB]
            by_cases h3 : phases L 8 pa pb = [pw, (i : Int)]
            · have hci : cond i = true := by rw [hcond]; simp [h1, h2, h3]
              try simp only [MW_bind, MW_getv, MW_pure, MW_setv, put_lo, put_st, if_true, if_false, String.reduceEq, Option.some.injEq, exists_eq_left', MW_add, MW_sub, MW_neg, MW_tru, MW_lt_int, MW_gt, MW_ge, MW_le, MW_eqI, MW_neI, MW_isNone, MW_isNotNone, Bool.false_eq_true, Bool.not_true, Bool.not_false, rangeB, hci, h3, decide_true]
              exact ⟨trivial, trivial, trivial, trivial⟩
            · have hci : cond i = false := by rw [hcond]; simp [h3]
              simp only [hci, h3, decide_false, Bool.false_eq_true, if_false, MW_pure]
              exact ⟨trivial, trivial⟩
          · have hci : cond i = false := by rw [hcond]; simp [h2]
            have h2' : ¬ ((pa : Int) ∈ tk.map fun (n : Nat) => (n : Int)) := fun q => h2 (hmem.mp q)
            simp only [hci, h2', decide_false, Bool.false_eq_true, if_false, MW_pure]
            exact ⟨trivial, trivial⟩
      · intro k10 st10 p10 f10 g10
        simp only [] at p10 f10
        have eL : (waysV wys).filterMap (fun v => match v with | .tup [_, .int i, _, _] => if cond i.toNat = true then some (.int i) else none | _ => none) = (((List.range wys.length).filter cond).map fun (n : Nat) => (n : Int)).map V.int := by
          unfold waysV
          generalize List.range wys.length = is
          induction is with
          | nil => rfl
          | cons a is ih =>
            simp only [List.map_cons, List.filterMap_cons, List.filter_cons]
            have : (match wayV wys a with | .tup [_, .int i, _, _] => if cond i.toNat = true then some (V.int i) else none | _ => none) = if cond a = true then some (V.int (a : Int)) else none := by
              simp [wayV, tI]
            rw [this]
            cases cond a with
            | true => simp only [if_true, List.map_cons]; rw [ih]
            | false => simp only [Bool.false_eq_true, if_false]; rw [ih]
        rw [eL] at g10
        refine (MW_eqL (by exact p10.get0 gS) (by exact g10)).mpr ?_
        have hfin : sortI (net.map fun (n : Nat) => (n : Int)) = ((List.range wys.length).filter cond).map fun (n : Nat) => (n : Int) := by
          refine (sortI_eq ?_ ?_).symm
          · refine List.Perm.map _ ?_
            refine (List.perm_ext_iff_of_nodup (List.nodup_range.filter _) I'.pr.E).mpr ?_
            intro i
            rw [List.mem_filter, List.mem_range]
            constructor
            · rintro ⟨hi, hc⟩
              have hj := nth_eq hi
              rw [I'.pr.net_iff hcl hj]
              simp only [hcd, Bool.and_eq_true, decide_eq_true_eq] at hc
              refine ⟨hc.1, hc.2.1, fun hcon => ?_⟩
              have := (low_iff hS hU hE8 hc.1 (hfar i hi)).mpr hcon
              rw [hc.2.2, lexB_irrefl] at this; cases this
            · intro hi
              obtain ⟨x, y, hj, _⟩ := I'.pr.D i hi
              have hil := joins_lt hj
              have h1 := (I'.pr.net_iff hcl (nth_eq hil)).mp hi
              refine ⟨hil, ?_⟩
              simp only [hcd, Bool.and_eq_true, decide_eq_true_eq]
              refine ⟨h1.1, h1.2.1, ?_⟩
              refine lexB_total _ _ ?_ ?_
              · cases hq : lexB (phases L 8 (nth wys i).2.1 (nth wys i).2.2) (keyOf wys i) with
                | false => rfl
                | true => exact absurd ((low_iff hS hU hE8 h1.1 (hfar i hil)).mp hq) h1.2.2
              · exact phases_under hU 8 i _ _ (joins_self hil) h1.1
          · rw [List.pairwise_map]
            exact (List.pairwise_lt_range.filter _).imp (by intro a b h; (first | lia | omega))
        rw [hfin]
        simp
    · dsimp only
      have hll := nodup_lt_length I'.nd I'.lt8
      simp only [List.length_append, List.length_singleton] at hll
      refine ⟨9 - (tk ++ [v]).length, by simp; (first | lia | omega), tk ++ [v], net ++ [e], es', v, I', by simp, by simp; (first | lia | omega), hE', rfl⟩
  · refine ⟨[0], [], [], 0, ⟨?_, ?_, ?_, ?_, ?_, ?_, ?_, g7, by simp, by simp, by simp, ?_, ?_⟩, rfl, rfl, ?_, rfl⟩
    · simp only [put_lo, String.reduceEq, if_true, if_false]
    · simp only [put_lo, String.reduceEq, if_true, if_false]
    · simp only [put_lo, String.reduceEq, if_true, if_false]
    · simp only [put_lo, String.reduceEq, if_true, if_false]
    · exact p7.get0 (p6.get0 (p5.get0 g4))
    · exact p7.get0 (p6.get0 g5)
    · exact p7.get0 g6
    · intro j h1 h2; simp at h2
    · have : (fun x => x ∈ [0]) = (fun x : Nat => x = 0) := by funext x; simp
      rw [this]; exact prim_start
    · refine ⟨(fun e he => by cases he), ?_, by simp⟩
      rintro i o ⟨h1, x, h2, ⟨h3, h4⟩ | ⟨h3, h4⟩⟩
      · exact absurd (by simpa using h3) h4
      · (first | lia | omega)

end Mine


/-! part J02 -/
open PySem PySem.W PyProof.Rows
set_option Elab.async false
set_option maxRecDepth 100000
set_option maxHeartbeats 8000000
open_top hd for PySem.Challenge.rw_dm0136_02
theorem Mine.recs_same : ∀ d ∈ recsOf Mine.prg, d ∈ recsOf hd.view_39 := by
  have e : recsOf Mine.prg = recsOf hd.view_39 := by kernel_rfl
  rw [e]; exact fun _ h => h
theorem PySem.Challenge.cw_dm0136_02_holds : PySem.Challenge.rw_dm0136_02.Holds := by
  apply hd
  k_fill
  intro w s₀ s₁ mg mb G Y fa o pm cd doc dV kV ho hd hcd hD hmg hg args vals as hpre hlay hrd hwl hlo
  refine Ground.open G ?_
  intro T B D TE TW
  wrow_args hpre hlay hrd hwl hlo
  rename_i ns _ _ _ _ _ _ _ l _ _ _ _ w1 _ _ _ hn _
  have hmg' : mg (Str.ofString "law") = some (.ref fa) := hmg
  clear hD hcd hd ho hmg B D TE TW G Y
  refine enter_call ?_
  refine codeAny_mono ?_ (fun _ _ g => GoodW.toG g)
  obtain ⟨vs, hL, hI⟩ := Mine.well_script w1
  have hn' : ns.length ≤ 63 := by omega
  obtain ⟨st', hlaw⟩ := Mine.law_true ns hn'
  refine Mine.top_law T hg (Mine.has_all Mine.recs_same ?_) (by decide) hmg' hL hI hn' hlaw ?_ ?_
  · intro x hx
    show mg (Str.ofString x) = none
    simp only [Mine.bltNames, List.mem_cons, List.not_mem_nil, or_false] at hx
    rcases hx with rfl | rfl | rfl | rfl | rfl | rfl | rfl <;> exact T.free _ (by decide +kernel) (by decide +kernel) (by decide +kernel) (by decide +kernel) (by decide +kernel)
  · exact raisesW_false (by wrow_none_raised)
  · wrow_post
