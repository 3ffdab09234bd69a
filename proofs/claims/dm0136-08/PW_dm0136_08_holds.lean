import PyProof.Rows.All
import Wide.All
import OpenK.AllK
import Wide.FinOn
import Lean
import PySem.Challenge.RW_dm0136_08
set_option Elab.async false

/-! part F1 -/
set_option autoImplicit false
set_option maxRecDepth 100000
open PySem PySem.W PyProof.Rows
namespace Mine

/-- plain values: what a program's value is, without tokens and addresses; a list is a place in the store -/
inductive V where
  | none
  | bool (b : Bool)
  | int (i : Int)
  | str (x : Str)
  | tup (vs : List V)
  | obj (l : Nat)
  | fn (x : String)
  | rng (a b c : Int)
  deriving Inhabited

inductive Cel where
  | lst (vs : List V)
  deriving Inhabited

abbrev Store := List Cel

structure Exc where
  cls : String
  msg : Str

/-- the state that a frame's code sees: the store and the frame's names -/
structure S where
  st : Store
  lo : String → Option V

inductive Res (σ α : Type) where
  | ok (a : α) (s : σ)
  | exc (e : Exc) (s : σ)
  | stuck

abbrev M (α : Type) := S → Res S α

namespace M
variable {α β : Type}
@[simp] def pure (a : α) : M α := fun σ => .ok a σ
@[simp] def bind (m : M α) (f : α → M β) : M β := fun σ => match m σ with
  | .ok a σ' => f a σ'
  | .exc e σ' => .exc e σ'
  | .stuck => .stuck
instance : Monad M where
  pure := M.pure
  bind := M.bind
theorem bind_def (m : M α) (f : α → M β) (σ : S) : (m >>= f) σ = (match m σ with
  | .ok a σ' => f a σ'
  | .exc e σ' => .exc e σ'
  | .stuck => .stuck) := rfl
theorem pure_def (a : α) (σ : S) : (Pure.pure a : M α) σ = .ok a σ := rfl
theorem bind_ok {m : M α} {f : α → M β} {σ σ' : S} {a : α} (h : m σ = .ok a σ') : (m >>= f) σ = f a σ' := by rw [bind_def, h]
end M
def stuck {α : Type} : M α := fun _ => .stuck

/-- what stands around all frames -/
structure Glo where
  prog : Program
  w : World
  p : Program
  loose : List Str
  mean : ExcName → Option Value
  mg : Str → Option Value
  mb : Str → Option Value
  base : Heap
  os : OsState
  top : Top p loose mean mg mb base

mutual
def Rep (K : Glo) (h : Heap) (ρ : List Addr) : V → Value → Prop
  | .none, w => w = .none
  | .bool b, w => w = .bool b
  | .int i, w => ∃ t, w = .int i t
  | .str x, w => ∃ t, w = .str x t
  | .tup vs, w => vs.length ≤ 1000000 ∧ ∃ a ws, w = .ref a ∧ IsTup h a ws.toArray ∧ RepL K h ρ vs ws
  | .obj l, w => ∃ a, ρ[l]? = some a ∧ w = .ref a
  | .fn x, w => K.mg (Str.ofString x) = some w ∧ ∃ a, w = .ref a
  | .rng a b c, w => ∃ r t u v, w = .ref r ∧ IsRange h r a b c t u v
def RepL (K : Glo) (h : Heap) (ρ : List Addr) : List V → List Value → Prop
  | [], ws => ws = []
  | v :: vs, ws => ∃ x r, ws = x :: r ∧ Rep K h ρ v x ∧ RepL K h ρ vs r
end

def CelRep (K : Glo) (h : Heap) (ρ : List Addr) : Cel → Addr → Prop
  | .lst vs, a => vs.length ≤ 1000000 ∧ ∃ ws n, IsL h a ws.toArray n ∧ RepL K h ρ vs ws

structure GRel (K : Glo) (st : Store) (ρ : List Addr) (s : Shared) : Prop where
  gens : s.gens = #[]
  os : s.os = K.os
  base : ∀ b o, K.base.get? b = some o → s.heap.get? b = some o
  len : ρ.length = st.length
  cell : ∀ (l : Nat) (a : Addr) (c : Cel), ρ[l]? = some a → st[l]? = some c → CelRep K s.heap ρ c a
  nodup : ρ.Nodup
  above : ∀ (l : Nat) (a : Addr), ρ[l]? = some a → l ≠ 0 → K.base.get? a = none

/-- what a frame's object may become: a namespace (a frame) may get slots, nothing else turns -/
def Like (o o' : Obj) : Prop := o' = o ∨ (∃ es n, o.data = .dict es n) ∧ ∃ sl, o' = { o with slots := sl }
theorem Like.refl (o : Obj) : Like o o := .inl rfl
theorem Like.trans {o o₁ o₂ : Obj} (x : Like o o₁) (y : Like o₁ o₂) : Like o o₂ := by
  rcases x with rfl | ⟨d, sl, rfl⟩
  · exact y
  · rcases y with rfl | ⟨_, sl', rfl⟩
    · exact .inr ⟨d, sl, rfl⟩
    · exact .inr ⟨d, sl', rfl⟩
theorem Like.same {o o' : Obj} (x : Like o o') (hd : ∀ es n, o.data ≠ .dict es n) : o' = o := by
  rcases x with rfl | ⟨⟨es, n, d⟩, _⟩
  · rfl
  · exact absurd d (hd es n)
theorem Like.data {o o' : Obj} (x : Like o o') : o'.data = o.data ∧ o'.cls = o.cls ∧ o'.dict = o.dict := by
  rcases x with rfl | ⟨_, sl, rfl⟩ <;> exact ⟨rfl, rfl, rfl⟩
def Froz (o : Obj) : Prop := (o.cls = .type "tuple" ∧ ∃ xs n, o.data = .seq xs n) ∨ (o.cls = .type "range" ∧ ∃ vs, o.data = .fields vs)

structure Ext (mine ρ ρ' : List Addr) (h h' : Heap) : Prop where
  pre : ρ <+: ρ'
  alive : ∀ b o, h.get? b = some o → ∃ o', h'.get? b = some o'
  new : ∀ a ∈ ρ', a ∈ ρ ∨ h.get? a = none
  keep : ∀ b o, h.get? b = some o → b ∉ ρ → b ∉ mine → ∃ o', h'.get? b = some o' ∧ Like o o'
  froz : ∀ b o, h.get? b = some o → Froz o → h'.get? b = some o

structure Frm where
  env : Env
  A : Around
  mine : List Addr

def VarAt (env : Env) (h : Heap) (x : Str) (w : Value) : Prop :=
  (env.kindOf x = some .local ∧ ∃ m, h.Ns env.locals m ∧ m x = some w) ∨
  ((env.kindOf x = some .cell ∨ env.kindOf x = some .free) ∧ ∃ c, env.cells.lookup x = some c ∧ h.IsCell c (some w))

structure Rel (K : Glo) (F : Frm) (σ : S) (ρ : List Addr) (s : Shared) : Prop extends GRel K σ.st ρ s where
  vars : ∀ x v, σ.lo x = some v → ∃ w, VarAt F.env s.heap (Str.ofString x) w ∧ Rep K s.heap ρ v w
  loc : ∃ m, s.heap.Ns F.env.locals m
  cels : ∀ x c, F.env.cells.lookup x = some c → ∃ v, s.heap.IsCell c v
  mineAbove : ∀ a ∈ F.mine, K.base.get? a = none ∧ ∃ o, s.heap.get? a = some o
  mineApart : ∀ a ∈ F.mine, a ∉ ρ
  mineLoc : F.env.locals ∈ F.mine

/-- an exception on its way, seen from frame F -/
def XRep (_K : Glo) (_F : Frm) (_e : Exc) (_ρ : List Addr) (_v : Value) (_s : Shared) : Prop := False

/-- from s, t does what the outcome tells -/
def Run {α β : Type} (K : Glo) (F : Frm) (t : Sem α) (R : Heap → List Addr → β → α → Prop) (out : Res S β) (ρ : List Addr) (s : Shared) : Prop :=
  match out with
  | .stuck => True
  | .ok b σ' => wpAny (model K.prog K.w) F.A t (fun a s' => ∃ ρ', Rel K F σ' ρ' s' ∧ Ext F.mine ρ ρ' s.heap s'.heap ∧ R s'.heap ρ' b a) (fun _ _ => False) s
  | .exc e σ' => wpAny (model K.prog K.w) F.A t (fun _ _ => False) (fun v s' => ∃ ρ', Rel K F σ' ρ' s' ∧ Ext F.mine ρ ρ' s.heap s'.heap ∧ XRep K F e ρ' v s') s

/-! ### Rep and Ext -/

theorem Ext.refl (mine ρ : List Addr) (h : Heap) : Ext mine ρ ρ h h :=
  ⟨List.prefix_refl _, fun _ o e => ⟨o, e⟩, fun _ ha => .inl ha, fun _ o e _ _ => ⟨o, e, .refl _⟩, fun _ _ e _ => e⟩

theorem Ext.trans {mine ρ ρ₁ ρ₂ : List Addr} {h h₁ h₂ : Heap} (x : Ext mine ρ ρ₁ h h₁) (y : Ext mine ρ₁ ρ₂ h₁ h₂) : Ext mine ρ ρ₂ h h₂ where
  pre := x.pre.trans y.pre
  alive := fun b o e => by
    obtain ⟨o1, e1⟩ := x.alive b o e
    exact y.alive b o1 e1
  new := fun a ha => by
    rcases y.new a ha with h1 | h1
    · exact x.new a h1
    · refine .inr ?_
      cases e : h.get? a with
      | none => rfl
      | some o =>
        obtain ⟨o1, e1⟩ := x.alive a o e
        rw [h1] at e1; cases e1
  keep := fun b o e n1 n2 => by
    obtain ⟨o1, e1, l1⟩ := x.keep b o e n1 n2
    have hn : b ∉ ρ₁ := fun hb => by
      rcases x.new b hb with h1 | h1
      · exact n1 h1
      · rw [e] at h1; cases h1
    obtain ⟨o2, e2, l2⟩ := y.keep b _ e1 hn n2
    exact ⟨o2, e2, l1.trans l2⟩
  froz := fun b o e f => y.froz b o (x.froz b o e f) f

theorem getElem?_prefix {α : Type} {l l' : List α} {i : Nat} {a : α} (h : l <+: l') (e : l[i]? = some a) : l'[i]? = some a := by
  obtain ⟨t, rfl⟩ := h
  rw [List.getElem?_append_left]
  · exact e
  · exact (List.getElem?_eq_some_iff.mp e).1

mutual
theorem Rep.mono' {K : Glo} {ρ ρ' : List Addr} {h h' : Heap} (hp : ρ <+: ρ') (ht : ∀ b o, h.get? b = some o → Froz o → h'.get? b = some o) : ∀ {v : V} {w : Value}, Rep K h ρ v w → Rep K h' ρ' v w
  | .none, _, r => by simpa only [Rep] using r
  | .bool _, _, r => by simpa only [Rep] using r
  | .int _, _, r => by simpa only [Rep] using r
  | .str _, _, r => by simpa only [Rep] using r
  | .tup vs, w, r => by
    simp only [Rep] at r ⊢
    obtain ⟨hl, a, ws, e, t, r⟩ := r
    obtain ⟨o, e1, c, n, d⟩ := t
    exact ⟨hl, a, ws, e, ⟨o, ht _ _ e1 (.inl ⟨c, _, n, d⟩), c, n, d⟩, RepL.mono' hp ht r⟩
  | .obj l, w, r => by
    simp only [Rep] at r ⊢
    obtain ⟨a, e, e2⟩ := r
    exact ⟨a, getElem?_prefix hp e, e2⟩
  | .fn _, _, r => by simpa only [Rep] using r
  | .rng _ _ _, _, r => by
    simp only [Rep] at r ⊢
    obtain ⟨a, t, u, v, e, i⟩ := r
    exact ⟨a, t, u, v, e, ht _ _ i (.inr ⟨rfl, _, rfl⟩)⟩
theorem RepL.mono' {K : Glo} {ρ ρ' : List Addr} {h h' : Heap} (hp : ρ <+: ρ') (ht : ∀ b o, h.get? b = some o → Froz o → h'.get? b = some o) : ∀ {vs : List V} {ws : List Value}, RepL K h ρ vs ws → RepL K h' ρ' vs ws
  | [], _, r => by simpa only [RepL] using r
  | v :: vs, ws, r => by
    simp only [RepL] at r ⊢
    obtain ⟨x, r', e, r1, r2⟩ := r
    exact ⟨x, r', e, Rep.mono' hp ht r1, RepL.mono' hp ht r2⟩
end
theorem Rep.mono {K : Glo} {mine ρ ρ' : List Addr} {h h' : Heap} {v : V} {w : Value} (r : Rep K h ρ v w) (x : Ext mine ρ ρ' h h') : Rep K h' ρ' v w := Rep.mono' x.pre x.froz r
theorem RepL.mono {K : Glo} {mine ρ ρ' : List Addr} {h h' : Heap} {vs : List V} {ws : List Value} (r : RepL K h ρ vs ws) (x : Ext mine ρ ρ' h h') : RepL K h' ρ' vs ws := RepL.mono' x.pre x.froz r

section
variable {K : Glo} {h : Heap} {ρ : List Addr}
theorem Rep.none_iff {w : Value} : Rep K h ρ .none w ↔ w = .none := by simp only [Rep]
theorem Rep.bool_iff {b : Bool} {w : Value} : Rep K h ρ (.bool b) w ↔ w = .bool b := by simp only [Rep]
theorem Rep.int_iff {i : Int} {w : Value} : Rep K h ρ (.int i) w ↔ ∃ t, w = .int i t := by simp only [Rep]
theorem Rep.str_iff {x : Str} {w : Value} : Rep K h ρ (.str x) w ↔ ∃ t, w = .str x t := by simp only [Rep]
theorem Rep.tup_iff {vs : List V} {w : Value} : Rep K h ρ (.tup vs) w ↔ vs.length ≤ 1000000 ∧ ∃ a ws, w = .ref a ∧ IsTup h a ws.toArray ∧ RepL K h ρ vs ws := by simp only [Rep]
theorem Rep.obj_iff {l : Nat} {w : Value} : Rep K h ρ (.obj l) w ↔ ∃ a, ρ[l]? = some a ∧ w = .ref a := by simp only [Rep]
theorem Rep.rng_iff {a b c : Int} {w : Value} : Rep K h ρ (.rng a b c) w ↔ ∃ r t u v, w = .ref r ∧ IsRange h r a b c t u v := by simp only [Rep]
theorem Rep.int (i : Int) (t : Tok) : Rep K h ρ (.int i) (.int i t) := Rep.int_iff.mpr ⟨t, rfl⟩
theorem Rep.str (x : Str) (t : Tok) : Rep K h ρ (.str x) (.str x t) := Rep.str_iff.mpr ⟨t, rfl⟩
theorem Rep.bool (b : Bool) : Rep K h ρ (.bool b) (.bool b) := Rep.bool_iff.mpr rfl
theorem Rep.none : Rep K h ρ .none .none := Rep.none_iff.mpr rfl
theorem RepL.nil_iff {ws : List Value} : RepL K h ρ [] ws ↔ ws = [] := by simp only [RepL]
theorem RepL.cons_iff {v : V} {vs : List V} {ws : List Value} : RepL K h ρ (v :: vs) ws ↔ ∃ x r, ws = x :: r ∧ Rep K h ρ v x ∧ RepL K h ρ vs r := by simp only [RepL]
theorem RepL.nil : RepL K h ρ [] [] := RepL.nil_iff.mpr rfl
theorem RepL.cons {v : V} {vs : List V} {w : Value} {ws : List Value} (r1 : Rep K h ρ v w) (r2 : RepL K h ρ vs ws) : RepL K h ρ (v :: vs) (w :: ws) := RepL.cons_iff.mpr ⟨w, ws, rfl, r1, r2⟩
theorem RepL.cons' {v : V} {vs : List V} {w : Value} {ws : List Value} (r : RepL K h ρ (v :: vs) (w :: ws)) : Rep K h ρ v w ∧ RepL K h ρ vs ws := by
  obtain ⟨x, r', e, r1, r2⟩ := RepL.cons_iff.mp r
  cases e; exact ⟨r1, r2⟩

theorem RepL.length : ∀ {vs : List V} {ws : List Value}, RepL K h ρ vs ws → ws.length = vs.length
  | [], _, r => by rw [RepL.nil_iff.mp r]; rfl
  | v :: vs, ws, r => by
    obtain ⟨x, r', rfl, _, r2⟩ := RepL.cons_iff.mp r
    simp [RepL.length r2]
theorem RepL.append : ∀ {vs us : List V} {ws xs : List Value}, RepL K h ρ vs ws → RepL K h ρ us xs → RepL K h ρ (vs ++ us) (ws ++ xs)
  | [], _, _, _, r, q => by rw [RepL.nil_iff.mp r]; exact q
  | v :: vs, us, ws, xs, r, q => by
    obtain ⟨x, r', rfl, r1, r2⟩ := RepL.cons_iff.mp r
    exact RepL.cons r1 (RepL.append r2 q)
theorem RepL.get? : ∀ {vs : List V} {ws : List Value}, RepL K h ρ vs ws → ∀ {i : Nat} {v : V}, vs[i]? = some v → ∃ w, ws[i]? = some w ∧ Rep K h ρ v w
  | [], _, _, i, v, e => by simp at e
  | u :: vs, ws, r, i, v, e => by
    obtain ⟨x, r', rfl, r1, r2⟩ := RepL.cons_iff.mp r
    cases i with
    | zero => simp only [List.getElem?_cons_zero, Option.some.injEq] at e; subst e; exact ⟨x, by simp, r1⟩
    | succ i => simp only [List.getElem?_cons_succ] at e ⊢; exact RepL.get? r2 e
theorem RepL.getW : ∀ {vs : List V} {ws : List Value}, RepL K h ρ vs ws → ∀ {i : Nat} {w : Value}, ws[i]? = some w → ∃ v, vs[i]? = some v ∧ Rep K h ρ v w
  | [], ws, r, i, w, e => by rw [RepL.nil_iff.mp r] at e; simp at e
  | u :: vs, ws, r, i, w, e => by
    obtain ⟨x, r', rfl, r1, r2⟩ := RepL.cons_iff.mp r
    cases i with
    | zero => simp only [List.getElem?_cons_zero, Option.some.injEq] at e; subst e; exact ⟨u, by simp, r1⟩
    | succ i => simp only [List.getElem?_cons_succ] at e ⊢; exact RepL.getW r2 e
theorem RepL.set : ∀ {vs : List V} {ws : List Value}, RepL K h ρ vs ws → ∀ (i : Nat) {v : V} {w : Value}, Rep K h ρ v w → RepL K h ρ (vs.set i v) (ws.set i w)
  | [], _, r, i, v, w, _ => by rw [RepL.nil_iff.mp r]; exact RepL.nil
  | u :: vs, ws, r, i, v, w, q => by
    obtain ⟨x, r', rfl, r1, r2⟩ := RepL.cons_iff.mp r
    cases i with
    | zero => exact RepL.cons q r2
    | succ i => exact RepL.cons r1 (RepL.set r2 i q)
theorem RepL.take : ∀ {vs : List V} {ws : List Value}, RepL K h ρ vs ws → ∀ (i : Nat), RepL K h ρ (vs.take i) (ws.take i)
  | [], _, r, i => by rw [RepL.nil_iff.mp r]; simp [RepL.nil]
  | u :: vs, ws, r, i => by
    obtain ⟨x, r', rfl, r1, r2⟩ := RepL.cons_iff.mp r
    cases i with
    | zero => exact RepL.nil
    | succ i => exact RepL.cons r1 (RepL.take r2 i)
theorem RepL.drop : ∀ {vs : List V} {ws : List Value}, RepL K h ρ vs ws → ∀ (i : Nat), RepL K h ρ (vs.drop i) (ws.drop i)
  | [], _, r, i => by rw [RepL.nil_iff.mp r]; simp [RepL.nil]
  | u :: vs, ws, r, i => by
    obtain ⟨x, r', rfl, r1, r2⟩ := RepL.cons_iff.mp r
    cases i with
    | zero => exact RepL.cons r1 r2
    | succ i => exact RepL.drop r2 i
theorem RepL.eraseIdx : ∀ {vs : List V} {ws : List Value}, RepL K h ρ vs ws → ∀ (i : Nat), RepL K h ρ (vs.eraseIdx i) (ws.eraseIdx i)
  | [], _, r, i => by rw [RepL.nil_iff.mp r]; simp [RepL.nil]
  | u :: vs, ws, r, i => by
    obtain ⟨x, r', rfl, r1, r2⟩ := RepL.cons_iff.mp r
    cases i with
    | zero => exact r2
    | succ i => exact RepL.cons r1 (RepL.eraseIdx r2 i)
theorem RepL.reverse {vs : List V} {ws : List Value} (r : RepL K h ρ vs ws) : RepL K h ρ vs.reverse ws.reverse := by
  induction vs generalizing ws with
  | nil => rw [RepL.nil_iff.mp r]; exact RepL.nil
  | cons v vs ih =>
    obtain ⟨x, r', rfl, r1, r2⟩ := RepL.cons_iff.mp r
    rw [List.reverse_cons, List.reverse_cons]
    exact (ih r2).append (RepL.cons r1 RepL.nil)
theorem RepL.of_get : ∀ {vs : List V} {ws : List Value}, ws.length = vs.length → (∀ (i : Nat) v w, vs[i]? = some v → ws[i]? = some w → Rep K h ρ v w) → RepL K h ρ vs ws
  | [], [], _, _ => RepL.nil
  | [], _ :: _, e, _ => by simp at e
  | _ :: _, [], e, _ => by simp at e
  | v :: vs, w :: ws, e, k => RepL.cons (k 0 v w rfl rfl) (RepL.of_get (by simpa using e) fun i v' w' h1 h2 => k (i + 1) v' w' (by simpa using h1) (by simpa using h2))
end

/-! ### Run -/
section
variable {K : Glo} {F : Frm} {α β γ δ : Type}

theorem Run.stuck {t : Sem α} {R : Heap → List Addr → β → α → Prop} {ρ : List Addr} {s : Shared} : Run K F t R (.stuck : Res S β) ρ s := trivial

theorem Run.pure {a : α} {b : β} {σ : S} {R : Heap → List Addr → β → α → Prop} {ρ : List Addr} {s : Shared} (rel : Rel K F σ ρ s) (r : R s.heap ρ b a) :
    Run K F (Pure.pure a) R (.ok b σ) ρ s := wpAny_pure ⟨ρ, rel, Ext.refl .., r⟩

theorem Run.bind {t : Sem α} {f : α → Sem γ} {R : Heap → List Addr → β → α → Prop} {R' : Heap → List Addr → δ → γ → Prop} {m : M β} {k : β → M δ} {σ : S} {ρ : List Addr} {s : Shared}
    (h1 : Run K F t R (m σ) ρ s)
    (h2 : ∀ b σ' ρ' s' a, m σ = .ok b σ' → Rel K F σ' ρ' s' → Ext F.mine ρ ρ' s.heap s'.heap → R s'.heap ρ' b a → Run K F (f a) R' (k b σ') ρ' s') :
    Run K F (t >>= f) R' ((m >>= k) σ) ρ s := by
  rw [M.bind_def]
  cases e : m σ with
  | stuck => trivial
  | exc x σ' =>
    rw [e] at h1
    exact wpAny_bind (wpAny_mono h1 (fun _ _ h => h.elim) fun _ _ h => h)
  | ok b σ' =>
    rw [e] at h1
    dsimp only
    have key : ∀ {P : Prop} {b' : Res S δ}, k b σ' = b' → P → P := fun _ p => p
    cases e2 : k b σ' with
    | stuck => trivial
    | ok d σ'' =>
      refine wpAny_bind (wpAny_mono h1 (fun a s' h => ?_) fun _ _ h => h.elim)
      obtain ⟨ρ', rel, x, r⟩ := h
      have := h2 b σ' ρ' s' a e rel x r
      rw [e2] at this
      exact wpAny_mono this (fun c s'' h => by obtain ⟨ρ'', rel', x', r'⟩ := h; exact ⟨ρ'', rel', x.trans x', r'⟩) fun _ _ h => h
    | exc y σ'' =>
      refine wpAny_bind (wpAny_mono h1 (fun a s' h => ?_) fun _ _ h => h.elim)
      obtain ⟨ρ', rel, x, r⟩ := h
      have := h2 b σ' ρ' s' a e rel x r
      rw [e2] at this
      exact wpAny_mono this (fun _ _ h => h) fun c s'' h => by obtain ⟨ρ'', rel', x', r'⟩ := h; exact ⟨ρ'', rel', x.trans x', r'⟩

/-- the same with the first part's outcome told by a plain command that leaves the frame's state as it is -/
theorem Run.step {t : Sem α} {f : α → Sem γ} {R' : Heap → List Addr → δ → γ → Prop} {out : Res S δ} {ρ : List Addr} {s : Shared}
    (h : ∀ (Q : α → Shared → Prop) (E : Value → Shared → Prop), (∀ a, Q a s) → wpAny (model K.prog K.w) F.A t Q E s)
    (h2 : ∀ a, Run K F (f a) R' out ρ s) : Run K F (t >>= f) R' out ρ s := by
  cases out with
  | stuck => trivial
  | ok d σ' => exact wpAny_bind (h _ _ fun a => h2 a)
  | exc y σ' => exact wpAny_bind (h _ _ fun a => h2 a)

theorem Run.standAt {p : Pos} {f : Unit → Sem γ} {R' : Heap → List Addr → δ → γ → Prop} {out : Res S δ} {ρ : List Addr} {s : Shared} (h2 : Run K F (f ()) R' out ρ s) :
    Run K F (PySem.standAt p >>= f) R' out ρ s := Run.step (fun _ _ h => wpAny_standAt (h ())) fun _ => h2

theorem Run.holding {vs : List Value} {t : Sem α} {R : Heap → List Addr → β → α → Prop} {out : Res S β} {ρ : List Addr} {s : Shared} (h : Run K F t R out ρ s) : Run K F (PySem.holding vs t) R out ρ s := by
  cases out with
  | stuck => trivial
  | ok d σ' => exact wpAny_holding h
  | exc y σ' => exact wpAny_holding h

theorem Run.mono {t : Sem α} {R R' : Heap → List Addr → β → α → Prop} {out : Res S β} {ρ : List Addr} {s : Shared} (h : Run K F t R out ρ s) (hr : ∀ h ρ b a, R h ρ b a → R' h ρ b a) : Run K F t R' out ρ s := by
  cases out with
  | stuck => trivial
  | ok d σ' => exact wpAny_mono h (fun a s' ⟨ρ', r1, r2, r3⟩ => ⟨ρ', r1, r2, hr _ _ _ _ r3⟩) fun _ _ h => h
  | exc y σ' => exact h

theorem Run.of_eq {t t' : Sem α} {R : Heap → List Addr → β → α → Prop} {out : Res S β} {ρ : List Addr} {s : Shared} (h : Run K F t R out ρ s) (e : t' = t) : Run K F t' R out ρ s := e ▸ h

theorem Run.operate {vs : List Value} {t : Sem Value} {R : Heap → List Addr → β → Value → Prop} {out : Res S β} {ρ : List Addr} {s : Shared} (h : Run K F t R out ρ s) : Run K F (PySem.operate vs t) R out ρ s := by
  cases out with
  | stuck => trivial
  | ok d σ' => exact wpAny_operating h
  | exc y σ' => exact wpAny_operating h
end

end Mine


/-! part F2 -/
set_option autoImplicit false
set_option maxRecDepth 100000
open PySem PySem.W PyProof.Rows
namespace Mine

theorem ofString_inj {a b : String} (h : Str.ofString a = Str.ofString b) : a = b := by
  have h1 : (cpsOfBytes 0 0 a.toByteArray.data.toList).toArray = (cpsOfBytes 0 0 b.toByteArray.data.toList).toArray := congrArg Str.cps h
  have h2 := congrArg Array.toList h1
  rw [cpsOfBytes_string, cpsOfBytes_string] at h2
  have h3 : a.toList.map Char.toNat = b.toList.map Char.toNat := by simpa using h2
  have h4 : a.toList = b.toList := List.map_inj_right (fun x y e => Char.toNat_inj.mp e) |>.mp h3
  exact String.toList_inj.mp h4

theorem kept_list {h h' : Heap} {a : Addr} {items : Array Value} (hk : ∀ b o, h.get? b = some o → h'.get? b = some o) (x : h.IsList a items) : h'.IsList a items :=
  let ⟨o, ho, r⟩ := x; ⟨o, hk a o ho, r⟩

theorem CelRep.mono {K : Glo} {h h' : Heap} {ρ ρ' : List Addr} {c : Cel} {a : Addr} (x : CelRep K h ρ c a) (hp : ρ <+: ρ') (ht : ∀ b o, h.get? b = some o → Froz o → h'.get? b = some o)
    (hl : ∀ items n, IsL h a items n → IsL h' a items n) : CelRep K h' ρ' c a := by
  cases c with
  | lst vs => obtain ⟨h0, ws, n, h1, h2⟩ := x; exact ⟨h0, ws, n, hl _ _ h1, RepL.mono' hp ht h2⟩

theorem VarAt.mono {env : Env} {h h' : Heap} {x : Str} {w : Value} (v : VarAt env h x w) (hn : ∀ m, h.Ns env.locals m → h'.Ns env.locals m)
    (hc : ∀ c u, env.cells.lookup x = some c → h.IsCell c (some u) → h'.IsCell c (some u)) : VarAt env h' x w := by
  rcases v with ⟨k, m, n, e⟩ | ⟨k, c, e, n⟩
  · exact .inl ⟨k, m, hn m n, e⟩
  · exact .inr ⟨k, c, e, hc c w e n⟩

section
variable {K : Glo} {F : Frm} {σ : S} {ρ ρ' : List Addr} {s s' : Shared} {mine : List Addr} {h h' : Heap}

theorem kept_tup (hk : ∀ b o, h.get? b = some o → h'.get? b = some o) : ∀ b o, h.get? b = some o → Froz o → h'.get? b = some o := fun _ _ e _ => hk _ _ e

theorem Ext.kept (hk : ∀ b o, h.get? b = some o → h'.get? b = some o) : Ext mine ρ ρ h h' :=
  ⟨List.prefix_refl _, fun _ o e => ⟨o, hk _ _ e⟩, fun _ ha => .inl ha, fun _ o e _ _ => ⟨o, hk _ _ e, .refl _⟩, kept_tup hk⟩

theorem GRel.kept {st : Store} (rel : GRel K st ρ s) (hk : ∀ b o, s.heap.get? b = some o → s'.heap.get? b = some o) (hg : s'.gens = s.gens) (ho : s'.os = s.os) : GRel K st ρ s' where
  gens := hg.trans rel.gens
  os := ho.trans rel.os
  base := fun b o e => hk _ _ (rel.base b o e)
  len := rel.len
  cell := fun l a c h1 h2 => (rel.cell l a c h1 h2).mono (List.prefix_refl _) (kept_tup hk) fun _ _ x => hk _ _ x
  nodup := rel.nodup
  above := rel.above

theorem Rel.kept (rel : Rel K F σ ρ s) (hk : ∀ b o, s.heap.get? b = some o → s'.heap.get? b = some o) (hg : s'.gens = s.gens) (ho : s'.os = s.os) : Rel K F σ ρ s' where
  toGRel := rel.toGRel.kept hk hg ho
  vars := fun x v e => by
    obtain ⟨w, h1, h2⟩ := rel.vars x v e
    exact ⟨w, h1.mono (fun m n => n.keeps hk) (fun c u _ n => n.keeps hk), Rep.mono' (List.prefix_refl _) (kept_tup hk) h2⟩
  loc := let ⟨m, n⟩ := rel.loc; ⟨m, n.keeps hk⟩
  cels := fun x c e => let ⟨v, n⟩ := rel.cels x c e; ⟨v, n.keeps hk⟩
  mineAbove := fun a ha => let ⟨h1, o, h2⟩ := rel.mineAbove a ha; ⟨h1, o, hk _ _ h2⟩
  mineApart := rel.mineApart
  mineLoc := rel.mineLoc

theorem Rel.tok (rel : Rel K F σ ρ s) (t : Nat) : Rel K F σ ρ { s with toks := t } := rel.kept (fun _ _ e => e) rfl rfl
theorem Rel.push (rel : Rel K F σ ρ s) (o : Obj) (t : Nat) : Rel K F σ ρ { s with heap := s.heap.push o, toks := t } := rel.kept (fun _ _ e => Heap.get?_push_of_some o e) rfl rfl
theorem Ext.push (o : Obj) : Ext mine ρ ρ h (h.push o) := Ext.kept fun _ _ e => Heap.get?_push_of_some o e

theorem GRel.alive {st : Store} (rel : GRel K st ρ s) {a : Addr} (ha : a ∈ ρ) : ∃ items, s.heap.IsList a items := by
  obtain ⟨l, hl⟩ := List.mem_iff_getElem?.mp ha
  have h1 : l < ρ.length := (List.getElem?_eq_some_iff.mp hl).1
  rw [rel.len] at h1
  have h2 : st[l]? = some st[l] := List.getElem?_eq_getElem h1
  have h3 := rel.cell l a _ hl h2
  cases hc : st[l] with
  | lst vs => rw [hc] at h3; obtain ⟨_, ws, n, h4, _⟩ := h3; exact ⟨_, h4.isList⟩

theorem list_ne_tup {a b : Addr} {i : Array Value} {o' : Obj} (h1 : h.IsList a i) (e' : h.get? b = some o') (f : Froz o') : b ≠ a := by
  rintro rfl
  obtain ⟨o, e, c, _⟩ := h1
  rw [e] at e'; cases e'
  rcases f with ⟨f, _⟩ | ⟨f, _⟩
  · rw [c] at f; exact absurd f (by decide)
  · rw [c] at f; exact absurd f (by decide)
theorem froz_ne_dict {o : Obj} (f : Froz o) : ∀ es n, o.data ≠ .dict es n := by
  rintro es n d
  rcases f with ⟨_, _, _, f⟩ | ⟨_, _, f⟩ <;> (rw [d] at f; cases f)
theorem froz_ne_cell {o : Obj} (f : Froz o) : ∀ v, o.data ≠ .cell v := by
  rintro v d
  rcases f with ⟨_, _, _, f⟩ | ⟨_, _, f⟩ <;> (rw [d] at f; cases f)
theorem list_ne_ns {a b : Addr} {i : Array Value} {m : Str → Option Value} (h1 : h.IsList a i) (h2 : h.Ns b m) : b ≠ a := by
  rintro rfl
  obtain ⟨o, e, _, n, d⟩ := h1
  obtain ⟨o', es, ep, e', d', _⟩ := h2
  rw [e] at e'; cases e'; rw [d] at d'; cases d'
theorem list_ne_cell {a b : Addr} {i : Array Value} {v : Option Value} (h1 : h.IsList a i) (h2 : h.IsCell b v) : b ≠ a := by
  rintro rfl
  obtain ⟨o, e, _, n, d⟩ := h1
  obtain ⟨o', e', d'⟩ := h2
  rw [e] at e'; cases e'; rw [d] at d'; cases d'
theorem ns_ne_tup {a b : Addr} {o' : Obj} {m : Str → Option Value} (h1 : h.Ns a m) (e' : h.get? b = some o') (f : Froz o') : b ≠ a := by
  rintro rfl
  obtain ⟨o, es, ep, e, d', _⟩ := h1
  rw [e] at e'; cases e'; exact froz_ne_dict f _ _ d'
theorem cell_ne_tup {a b : Addr} {o' : Obj} {v : Option Value} (h1 : h.IsCell a v) (e' : h.get? b = some o') (f : Froz o') : b ≠ a := by
  rintro rfl
  obtain ⟨o, e, d'⟩ := h1
  rw [e] at e'; cases e'; exact froz_ne_cell f _ d'
theorem cell_ne_ns {a b : Addr} {v : Option Value} {m : Str → Option Value} (h1 : h.IsCell a v) (h2 : h.Ns b m) : b ≠ a := by
  rintro rfl
  obtain ⟨o', es, ep, e', d', _⟩ := h2
  obtain ⟨o, e, d⟩ := h1
  rw [e] at e'; cases e'; rw [d] at d'; cases d'

theorem nodup_get {α : Type} : ∀ {l : List α}, l.Nodup → ∀ {i j : Nat} {a : α}, l[i]? = some a → l[j]? = some a → i = j
  | [], _, i, j, a, h1, _ => by simp at h1
  | x :: l, n, i, j, a, h1, h2 => by
    obtain ⟨n1, n2⟩ := List.nodup_cons.mp n
    cases i with
    | zero =>
      cases j with
      | zero => rfl
      | succ j =>
        simp only [List.getElem?_cons_zero, Option.some.injEq] at h1; subst h1
        exact absurd (List.mem_of_getElem? (by simpa using h2)) n1
    | succ i =>
      cases j with
      | zero =>
        simp only [List.getElem?_cons_zero, Option.some.injEq] at h2; subst h2
        exact absurd (List.mem_of_getElem? (by simpa using h1)) n1
      | succ j => exact congrArg (· + 1) (nodup_get n2 (by simpa using h1) (by simpa using h2))

/-- a list of the store is replaced -/
theorem GRel.upd {st : Store} {l n : Nat} {a : Addr} {vs : List V} {ws : List Value} (rel : GRel K st ρ s) (hl : ρ[l]? = some a) (hl0 : l ≠ 0) (hs : Heap.SameBut a s.heap s'.heap)
    (hL : IsL s'.heap a ws.toArray n) (hr : RepL K s.heap ρ vs ws) (hln : vs.length ≤ 1000000) (hg : s'.gens = s.gens) (ho : s'.os = s.os) :
    GRel K (st.set l (.lst vs)) ρ s' ∧ Ext mine ρ ρ s.heap s'.heap := by
  have ha : a ∈ ρ := List.mem_of_getElem? hl
  obtain ⟨items, hold⟩ := rel.alive ha
  have ht : ∀ b o, s.heap.get? b = some o → Froz o → s'.heap.get? b = some o := fun b o e f => (hs.2 b (list_ne_tup hold e f)).trans e
  refine ⟨⟨hg.trans rel.gens, ho.trans rel.os, ?_, ?_, ?_, rel.nodup, rel.above⟩, ?_⟩
  · intro b o e
    have hne : b ≠ a := by rintro rfl; rw [rel.above l _ hl hl0] at e; cases e
    exact (hs.2 b hne).trans (rel.base b o e)
  · rw [rel.len, List.length_set]
  · intro k b c h1 h2
    by_cases hk : k = l
    · subst hk
      rw [hl] at h1; cases h1
      have h3 : k < st.length := by rw [← rel.len]; exact (List.getElem?_eq_some_iff.mp hl).1
      rw [List.getElem?_set_self h3] at h2; cases h2
      exact ⟨hln, ws, n, hL, RepL.mono' (List.prefix_refl _) ht hr⟩
    · rw [List.getElem?_set_ne (Ne.symm hk)] at h2
      have hne : b ≠ a := fun e => hk (nodup_get rel.nodup (e ▸ h1) hl)
      exact (rel.cell k b c h1 h2).mono (List.prefix_refl _) ht fun it n' x => (hs.2 b hne).trans x
  · refine ⟨List.prefix_refl _, fun b o e => ?_, fun _ hb => .inl hb, fun b o e n1 _ => ⟨o, (hs.2 b (fun x => n1 (x ▸ ha))).trans e, .refl _⟩, ht⟩
    by_cases hb : b = a
    · subst hb; exact ⟨_, hL⟩
    · exact ⟨o, (hs.2 b hb).trans e⟩

theorem Rel.upd {l n : Nat} {a : Addr} {vs : List V} {ws : List Value} (rel : Rel K F σ ρ s) (hl : ρ[l]? = some a) (hl0 : l ≠ 0) (hs : Heap.SameBut a s.heap s'.heap)
    (hL : IsL s'.heap a ws.toArray n) (hr : RepL K s.heap ρ vs ws) (hln : vs.length ≤ 1000000) (hg : s'.gens = s.gens) (ho : s'.os = s.os) :
    Rel K F { σ with st := σ.st.set l (.lst vs) } ρ s' ∧ Ext F.mine ρ ρ s.heap s'.heap := by
  obtain ⟨g, x⟩ := rel.toGRel.upd (mine := F.mine) hl hl0 hs hL hr hln hg ho
  have ha : a ∈ ρ := List.mem_of_getElem? hl
  obtain ⟨items, hold⟩ := rel.toGRel.alive ha
  refine ⟨{ toGRel := g, vars := ?_, loc := ?_, cels := ?_, mineAbove := ?_, mineApart := rel.mineApart, mineLoc := rel.mineLoc }, x⟩
  · intro y v e
    obtain ⟨w, h1, h2⟩ := rel.vars y v e
    exact ⟨w, h1.mono (fun m n => n.sameBut hs (list_ne_ns hold n)) (fun c u _ n => n.sameBut hs (list_ne_cell hold n)), h2.mono x⟩
  · obtain ⟨m, n⟩ := rel.loc; exact ⟨m, n.sameBut hs (list_ne_ns hold n)⟩
  · intro y c e
    obtain ⟨v, n⟩ := rel.cels y c e; exact ⟨v, n.sameBut hs (list_ne_cell hold n)⟩
  · intro b hb
    obtain ⟨h1, o, h2⟩ := rel.mineAbove b hb
    obtain ⟨o', h3⟩ := x.alive b o h2
    exact ⟨h1, o', h3⟩

/-- a new list -/
theorem GRel.newList {st : Store} {vs : List V} {ws : List Value} {o : Obj} (rel : GRel K st ρ s) (ho : o = { cls := .type "list", data := .seq ws.toArray }) (hr : RepL K s.heap ρ vs ws) (hln : vs.length ≤ 1000000) (t : Nat) :
    GRel K (st ++ [.lst vs]) (ρ ++ [s.heap.objs.size]) { s with heap := s.heap.push o, toks := t } ∧ Ext mine ρ (ρ ++ [s.heap.objs.size]) s.heap (s.heap.push o) := by
  have hk : ∀ b o', s.heap.get? b = some o' → (s.heap.push o).get? b = some o' := fun _ _ e => Heap.get?_push_of_some o e
  have hpre : ρ <+: ρ ++ [s.heap.objs.size] := List.prefix_append _ _
  have hnew : s.heap.get? s.heap.objs.size = none := Heap.get?_none_of_le (Nat.le_refl _)
  have hL : IsL (s.heap.push o) s.heap.objs.size ws.toArray 0 := by
    subst ho; exact Heap.get?_push_size _ rfl
  refine ⟨⟨rel.gens, rel.os, fun b o' e => hk _ _ (rel.base b o' e), ?_, ?_, ?_, ?_⟩, ⟨hpre, fun b o' e => ⟨o', hk _ _ e⟩, ?_, fun b o' e _ _ => ⟨o', hk _ _ e, .refl _⟩, kept_tup hk⟩⟩
  · simp [rel.len]
  · intro l a c h1 h2
    by_cases hl : l < st.length
    · rw [List.getElem?_append_left (by rw [rel.len]; exact hl)] at h1
      rw [List.getElem?_append_left hl] at h2
      exact (rel.cell l a c h1 h2).mono hpre (kept_tup hk) fun _ _ x => hk _ _ x
    · have hl' : l = st.length := by
        rcases List.getElem?_eq_some_iff.mp h2 with ⟨h3, _⟩
        simp at h3; omega
      subst hl'
      rw [← rel.len, List.getElem?_concat_length] at h1; cases h1
      rw [List.getElem?_concat_length] at h2; cases h2
      exact ⟨hln, ws, 0, hL, RepL.mono' hpre (kept_tup hk) hr⟩
  · refine List.nodup_append.mpr ⟨rel.nodup, by simp, ?_⟩
    intro a ha b hb
    simp only [List.mem_singleton] at hb; subst hb
    rintro rfl
    obtain ⟨_, o', e, _⟩ := rel.alive ha
    rw [hnew] at e; cases e
  · intro l a hla hl0
    by_cases hlt : l < ρ.length
    · rw [List.getElem?_append_left hlt] at hla
      exact rel.above l a hla hl0
    · have ha : a = s.heap.objs.size := by
        have hm := List.mem_of_getElem? hla
        rw [List.getElem?_append_right (by omega)] at hla
        have := List.mem_of_getElem? hla
        simpa using this
      subst ha
      cases e : K.base.get? s.heap.objs.size with
      | none => rfl
      | some o' => have := rel.base _ _ e; rw [hnew] at this; cases this
  · intro a ha
    rcases List.mem_append.mp ha with ha | ha
    · exact .inl ha
    · simp only [List.mem_singleton] at ha; subst ha; exact .inr hnew

theorem Rel.newList {vs : List V} {ws : List Value} {o : Obj} (rel : Rel K F σ ρ s) (ho : o = { cls := .type "list", data := .seq ws.toArray }) (hr : RepL K s.heap ρ vs ws) (hln : vs.length ≤ 1000000) (t : Nat) :
    Rel K F { σ with st := σ.st ++ [.lst vs] } (ρ ++ [s.heap.objs.size]) { s with heap := s.heap.push o, toks := t } ∧ Ext F.mine ρ (ρ ++ [s.heap.objs.size]) s.heap (s.heap.push o) := by
  obtain ⟨g, x⟩ := rel.toGRel.newList (mine := F.mine) ho hr hln t
  have hk : ∀ b o', s.heap.get? b = some o' → (s.heap.push o).get? b = some o' := fun _ _ e => Heap.get?_push_of_some o e
  have r := rel.push o t
  refine ⟨{ toGRel := g, vars := ?_, loc := r.loc, cels := r.cels, mineAbove := r.mineAbove, mineApart := ?_, mineLoc := r.mineLoc }, x⟩
  · intro y v e
    obtain ⟨w, h1, h2⟩ := rel.vars y v e
    exact ⟨w, h1.mono (fun m n => n.keeps hk) (fun c u _ n => n.keeps hk), h2.mono x⟩
  · intro a ha hb
    rcases List.mem_append.mp hb with hb | hb
    · exact rel.mineApart a ha hb
    · simp only [List.mem_singleton] at hb; subst hb
      obtain ⟨_, o', e⟩ := rel.mineAbove _ ha
      rw [Heap.get?_none_of_le (Nat.le_refl _)] at e; cases e

/-- a name is bound -/
def S.put (σ : S) (x : String) (v : V) : S := { σ with lo := fun y => if y = x then some v else σ.lo y }

theorem Ext.mineBut {a : Addr} (ha : a ∈ mine) (hs : Heap.SameBut a h h') (hal : ∃ o, h'.get? a = some o) (ht : ∀ b o, h.get? b = some o → Froz o → b ≠ a) : Ext mine ρ ρ h h' where
  pre := List.prefix_refl _
  alive := fun b o e => by
    by_cases hb : b = a
    · subst hb; exact hal
    · exact ⟨o, (hs.2 b hb).trans e⟩
  new := fun _ hb => .inl hb
  keep := fun b o e _ n => ⟨o, (hs.2 b (fun x => n (x ▸ ha))).trans e, .refl _⟩
  froz := fun b o e f => (hs.2 b (ht b o e f)).trans e

theorem GRel.mineBut {st : Store} {a : Addr} (rel : GRel K st ρ s) (hb : K.base.get? a = none) (hnl : a ∉ ρ) (hs : Heap.SameBut a s.heap s'.heap) (ht : ∀ b o, s.heap.get? b = some o → Froz o → b ≠ a)
    (hg : s'.gens = s.gens) (ho : s'.os = s.os) : GRel K st ρ s' where
  gens := hg.trans rel.gens
  os := ho.trans rel.os
  base := fun b o e => (hs.2 b (by rintro rfl; rw [hb] at e; cases e)).trans (rel.base b o e)
  len := rel.len
  cell := fun l b c h1 h2 => by
    have hne : b ≠ a := fun e => hnl (e ▸ List.mem_of_getElem? h1)
    refine (rel.cell l b c h1 h2).mono (List.prefix_refl _) (fun d o e f => (hs.2 d (ht d o e f)).trans e) fun it n' x => ?_
    · exact (hs.2 b hne).trans x
  nodup := rel.nodup
  above := rel.above

theorem Rel.setLocal {x : String} {v : V} {w : Value} {m : Str → Option Value} (rel : Rel K F σ ρ s) (hk : F.env.kindOf (Str.ofString x) = some .local) (hm : s.heap.Ns F.env.locals m)
    (hn : s'.heap.Ns F.env.locals (fun y => if y = Str.ofString x then some w else m y)) (hs : Heap.SameBut F.env.locals s.heap s'.heap) (hr : Rep K s.heap ρ v w)
    (hg : s'.gens = s.gens) (ho : s'.os = s.os) : Rel K F (σ.put x v) ρ s' ∧ Ext F.mine ρ ρ s.heap s'.heap := by
  have ht : ∀ b o, s.heap.get? b = some o → Froz o → b ≠ F.env.locals := fun b o e f => ns_ne_tup hm e f
  have hal : ∃ o, s'.heap.get? F.env.locals = some o := by obtain ⟨o, _, _, e, _⟩ := hn; exact ⟨o, e⟩
  have ext : Ext F.mine ρ ρ s.heap s'.heap := Ext.mineBut rel.mineLoc hs hal ht
  refine ⟨{ toGRel := rel.toGRel.mineBut (rel.mineAbove _ rel.mineLoc).1 (rel.mineApart _ rel.mineLoc) hs ht hg ho, vars := ?_, loc := ⟨_, hn⟩, cels := ?_, mineAbove := ?_, mineApart := rel.mineApart, mineLoc := rel.mineLoc }, ext⟩
  · intro y u e
    by_cases hy : y = x
    · subst hy
      simp only [S.put, if_true, Option.some.injEq] at e
      subst e
      exact ⟨w, .inl ⟨hk, _, hn, by simp⟩, hr.mono ext⟩
    · simp only [S.put, if_neg hy] at e
      obtain ⟨w', h1, h2⟩ := rel.vars y u e
      refine ⟨w', ?_, h2.mono ext⟩
      rcases h1 with ⟨k1, m1, n1, e1⟩ | ⟨k1, c, e1, n1⟩
      · refine .inl ⟨k1, _, hn, ?_⟩
        have hne : ¬ Str.ofString y = Str.ofString x := fun q => hy (ofString_inj q)
        rw [if_neg hne]
        obtain ⟨o1, es1, ep1, g1, d1, _, f1⟩ := n1
        obtain ⟨o2, es2, ep2, g2, d2, _, f2⟩ := hm
        rw [g1] at g2; cases g2; rw [d1] at d2; cases d2
        rw [← f2, f1]; exact e1
      · exact .inr ⟨k1, c, e1, n1.sameBut hs (fun q => cell_ne_ns n1 hm q.symm)⟩
  · intro y c e
    obtain ⟨v', n⟩ := rel.cels y c e
    exact ⟨v', n.sameBut hs (fun q => cell_ne_ns n hm q.symm)⟩
  · intro b hb
    obtain ⟨h1, o, h2⟩ := rel.mineAbove b hb
    obtain ⟨o', h3⟩ := ext.alive b o h2
    exact ⟨h1, o', h3⟩

theorem Rel.setCell {x : String} {v : V} {w : Value} {c : Addr} {v₀ : Option Value} (rel : Rel K F σ ρ s) (hk : F.env.kindOf (Str.ofString x) = some .cell) (hc : F.env.cells.lookup (Str.ofString x) = some c) (hmine : c ∈ F.mine)
    (hinj : ∀ y, F.env.cells.lookup y = some c → y = Str.ofString x) (h0 : s.heap.IsCell c v₀)
    (hn : s'.heap.IsCell c (some w)) (hs : Heap.SameBut c s.heap s'.heap) (hr : Rep K s.heap ρ v w)
    (hg : s'.gens = s.gens) (ho : s'.os = s.os) : Rel K F (σ.put x v) ρ s' ∧ Ext F.mine ρ ρ s.heap s'.heap := by
  have ht : ∀ b o, s.heap.get? b = some o → Froz o → b ≠ c := fun b o e f => cell_ne_tup h0 e f
  have hal : ∃ o, s'.heap.get? c = some o := by obtain ⟨o, e, _⟩ := hn; exact ⟨o, e⟩
  have ext : Ext F.mine ρ ρ s.heap s'.heap := Ext.mineBut hmine hs hal ht
  refine ⟨{ toGRel := rel.toGRel.mineBut (rel.mineAbove _ hmine).1 (rel.mineApart _ hmine) hs ht hg ho, vars := ?_, loc := ?_, cels := ?_, mineAbove := ?_, mineApart := rel.mineApart, mineLoc := rel.mineLoc }, ext⟩
  · intro y u e
    by_cases hy : y = x
    · subst hy
      simp only [S.put, if_true, Option.some.injEq] at e
      subst e
      exact ⟨w, .inr ⟨.inl hk, c, hc, hn⟩, hr.mono ext⟩
    · simp only [S.put, if_neg hy] at e
      obtain ⟨w', h1, h2⟩ := rel.vars y u e
      refine ⟨w', ?_, h2.mono ext⟩
      rcases h1 with ⟨k1, m1, n1, e1⟩ | ⟨k1, c', e1, n1⟩
      · exact .inl ⟨k1, m1, n1.sameBut hs (cell_ne_ns h0 n1), e1⟩
      · have hne : c' ≠ c := by rintro rfl; exact hy (ofString_inj (hinj _ e1))
        exact .inr ⟨k1, c', e1, n1.sameBut hs hne⟩
  · obtain ⟨m, n⟩ := rel.loc; exact ⟨m, n.sameBut hs (cell_ne_ns h0 n)⟩
  · intro y c' e
    obtain ⟨v', n⟩ := rel.cels y c' e
    by_cases hcc : c' = c
    · subst hcc; exact ⟨_, hn⟩
    · exact ⟨v', n.sameBut hs hcc⟩
  · intro b hb
    obtain ⟨h1, o, h2⟩ := rel.mineAbove b hb
    obtain ⟨o', h3⟩ := ext.alive b o h2
    exact ⟨h1, o', h3⟩
end

end Mine


/-! part F3 -/
set_option autoImplicit false
set_option maxRecDepth 100000
open PySem PySem.W PyProof.Rows
namespace Mine

inductive Fl where
  | next | brk | cont
  | ret (v : V)

def FlRep (K : Glo) (h : Heap) (ρ : List Addr) : Fl → Flow → Prop
  | .next, f => f = .next
  | .brk, f => f = .brk
  | .cont, f => f = .cont
  | .ret v, f => ∃ w, f = .ret w ∧ Rep K h ρ v w

def SimE (K : Glo) (F : Frm) (e : Expr) (m : M V) : Prop := ∀ σ ρ s, Rel K F σ ρ s → Run K F (eval e F.env) (Rep K) (m σ) ρ s
def BRep (_ : Heap) (_ : List Addr) (b : Bool) (a : Bool) : Prop := a = b
def SimB (K : Glo) (F : Frm) (e : Expr) (m : M Bool) : Prop := ∀ σ ρ s, Rel K F σ ρ s → Run K F (isTrue e F.env (eval e F.env)) BRep (m σ) ρ s
def SimS (K : Glo) (F : Frm) (st : Stmt) (m : M Fl) : Prop := ∀ σ ρ s, Rel K F σ ρ s → Run K F (exec st F.env) (FlRep K) (m σ) ρ s
def SimSs (K : Glo) (F : Frm) (st : List Stmt) (m : M Fl) : Prop := ∀ σ ρ s, Rel K F σ ρ s → Run K F (execs st F.env) (FlRep K) (m σ) ρ s
def URep (_ : Heap) (_ : List Addr) (_ : Unit) (_ : Unit) : Prop := True
def SimT (K : Glo) (F : Frm) (e : Expr) (m : V → M Unit) : Prop := ∀ σ ρ s v w, Rel K F σ ρ s → Rep K s.heap ρ v w → Run K F (assign e F.env w) URep (m v σ) ρ s

structure FOk (F : Frm) : Prop where
  kind : F.env.scope.kind = .function
  glob : F.env.globals = mainGlobals
  blt : F.env.builtins = builtinsNs
  hd : F.A.handled = none
  units : F.A.units + 1000 < cLine

def getv (x : String) : M V := fun σ => match σ.lo x with | some v => .ok v σ | none => .stuck
def setv (x : String) (v : V) : M Unit := fun σ => .ok () (σ.put x v)

variable {K : Glo} {F : Frm}

theorem Run.ok {α β : Type} {t : Sem α} {R : Heap → List Addr → β → α → Prop} {b : β} {σ' : S} {ρ : List Addr} {s : Shared}
    (h : wpAny (model K.prog K.w) F.A t (fun a s' => ∃ ρ', Rel K F σ' ρ' s' ∧ Ext F.mine ρ ρ' s.heap s'.heap ∧ R s'.heap ρ' b a) (fun _ _ => False) s) : Run K F t R (.ok b σ') ρ s := h

/-! ### names and constants -/
theorem simE_name (fk : FOk F) (x : String) (pos : Pos) (hd : (Str.ofString x == ("__debug__" : Str)) = false := by decide) (hc : (Str.ofString x == ("__classdict__" : Str)) = false := by decide) :
    SimE K F (.Name (Str.ofString x) pos) (getv x) := by
  intro σ ρ s rel
  unfold getv
  cases e : σ.lo x with
  | none => exact Run.stuck
  | some v =>
    dsimp only
    obtain ⟨w, h1, h2⟩ := rel.vars x v e
    refine Run.ok (wpAny_Name ?_ hd)
    have fin : ∃ ρ', Rel K F σ ρ' s ∧ Ext F.mine ρ ρ' s.heap s.heap ∧ Rep K s.heap ρ' v w := ⟨ρ, rel, Ext.refl .., h2⟩
    rcases h1 with ⟨k, m, n, em⟩ | ⟨k | k, c, ec, n⟩
    · exact wpAny_loadName_local fk.kind k n em fin
    · exact wpAny_loadName_cell fk.kind k ec n fin
    · exact wpAny_loadName_free fk.kind k ec n fin hc

theorem simE_none (k : Nat) (pos : Pos) : SimE K F (.Constant .none k pos) (pure .none) := fun _ ρ _ rel => Run.ok (wpAny_Constant_none ⟨ρ, rel, Ext.refl .., Rep.none⟩)
theorem simE_bool (b : Bool) (k : Nat) (pos : Pos) : SimE K F (.Constant (.bool b) k pos) (pure (.bool b)) := fun _ ρ _ rel => Run.ok (wpAny_Constant_bool ⟨ρ, rel, Ext.refl .., Rep.bool b⟩)
theorem simE_int (i : Int) (k : Nat) (pos : Pos) : SimE K F (.Constant (.int i) k pos) (pure (.int i)) := fun _ ρ _ rel => Run.ok (wpAny_Constant_int ⟨ρ, rel.tok _, Ext.refl .., Rep.int ..⟩)
theorem simE_str (x : Str) (k : Nat) (pos : Pos) : SimE K F (.Constant (.str x) k pos) (pure (.str x)) := fun _ ρ _ rel => Run.ok (wpAny_Constant_str ⟨ρ, rel.tok _, Ext.refl .., Rep.str ..⟩)

/-! ### operators -/
def BinOk (K : Glo) (op : Operator) (f : V → V → M V) : Prop :=
  ∀ F : Frm, FOk F → ∀ σ ρ s a b wa wb, Rel K F σ ρ s → Rep K s.heap ρ a wa → Rep K s.heap ρ b wb → Run K F (binaryOp op wa wb) (Rep K) (f a b σ) ρ s
def CmpOk (K : Glo) (op : CmpOp) (f : V → V → M V) : Prop :=
  ∀ F : Frm, FOk F → ∀ σ ρ s a b wa wb, Rel K F σ ρ s → Rep K s.heap ρ a wa → Rep K s.heap ρ b wb → Run K F (compareOp op wa wb) (Rep K) (f a b σ) ρ s
def UnOk (K : Glo) (op : UnaryOp) (f : V → M V) : Prop :=
  ∀ F : Frm, FOk F → ∀ σ ρ s a wa, Rel K F σ ρ s → Rep K s.heap ρ a wa → Run K F (unaryOp op wa) (Rep K) (f a σ) ρ s
def TruOk (K : Glo) (f : V → M Bool) : Prop :=
  ∀ F : Frm, FOk F → ∀ σ ρ s a wa, Rel K F σ ρ s → Rep K s.heap ρ a wa → Run K F (truthy wa) BRep (f a σ) ρ s

theorem simE_bin (fk : FOk F) {op : Operator} {f : V → V → M V} (ho : BinOk K op f) {l r : Expr} {ml mr : M V} (pos : Pos) (hl : SimE K F l ml) (hr : SimE K F r mr) :
    SimE K F (.BinOp l op r pos) (do let a ← ml; let b ← mr; f a b) := by
  intro σ ρ s rel
  rw [eval_BinOp]
  refine Run.bind (hl σ ρ s rel) fun a σ₁ ρ₁ s₁ wa _ rel₁ x₁ ra => ?_
  refine Run.bind (Run.holding (hr σ₁ ρ₁ s₁ rel₁)) fun b σ₂ ρ₂ s₂ wb _ rel₂ x₂ rb => ?_
  exact Run.standAt (Run.operate (ho F fk σ₂ ρ₂ s₂ a b wa wb rel₂ (ra.mono x₂) rb))

theorem simE_un (fk : FOk F) {op : UnaryOp} {f : V → M V} (ho : UnOk K op f) {l : Expr} {ml : M V} (pos : Pos) (hl : SimE K F l ml) :
    SimE K F (.UnaryOp op l pos) (do let a ← ml; f a) := by
  intro σ ρ s rel
  show Run K F (do let v ← eval l F.env; standAt pos; holding [v] (unaryOp op v)) (Rep K) _ ρ s
  refine Run.bind (hl σ ρ s rel) fun a σ₁ ρ₁ s₁ wa _ rel₁ x₁ ra => ?_
  exact Run.standAt (Run.holding (ho F fk σ₁ ρ₁ s₁ a wa rel₁ ra))

theorem simE_cmp (fk : FOk F) {op : CmpOp} {f : V → V → M V} (ho : CmpOk K op f) {l r : Expr} {ml mr : M V} (pos : Pos) (hl : SimE K F l ml) (hr : SimE K F r mr)
    (hm : behindInMarks op r = false := by rfl) :
    SimE K F (.Compare l [op] [r] pos) (do let a ← ml; let b ← mr; f a b) := by
  intro σ ρ s rel
  have e : eval (.Compare l [op] [r] pos) F.env = (do let left ← eval l F.env; let rv ← holding [left] (eval r F.env); standAt pos; operate [left, rv] (compareOp op left rv)) := by
    rw [eval_Compare1]
    simp only [markedBehindIn_of_false hm]
  rw [e]
  refine Run.bind (hl σ ρ s rel) fun a σ₁ ρ₁ s₁ wa _ rel₁ x₁ ra => ?_
  refine Run.bind (Run.holding (hr σ₁ ρ₁ s₁ rel₁)) fun b σ₂ ρ₂ s₂ wb _ rel₂ x₂ rb => ?_
  exact Run.standAt (Run.operate (ho F fk σ₂ ρ₂ s₂ a b wa wb rel₂ (ra.mono x₂) rb))

theorem simB_cmp (fk : FOk F) {op : CmpOp} {f : V → V → M V} (ho : CmpOk K op f) {tr : V → M Bool} (ht : TruOk K tr) {l r : Expr} {ml mr : M V} (pos : Pos) (hl : SimE K F l ml) (hr : SimE K F r mr)
    (hm : behindInMarks op r = false := by rfl) :
    SimB K F (.Compare l [op] [r] pos) (do let a ← ml; let b ← mr; let c ← f a b; tr c) := by
  intro σ ρ s rel
  have e : isTrue (.Compare l [op] [r] pos) F.env (eval (.Compare l [op] [r] pos) F.env) = (do let left ← eval l F.env; let rv ← holding [left] (eval r F.env); standAt pos; let c ← operate [left, rv] (compareOp op left rv); holding [c] (truthy c)) := by
    rw [isTrue_Compare1]
    simp only [markedBehindIn_of_false hm]
  rw [e]
  refine Run.bind (hl σ ρ s rel) fun a σ₁ ρ₁ s₁ wa _ rel₁ x₁ ra => ?_
  refine Run.bind (Run.holding (hr σ₁ ρ₁ s₁ rel₁)) fun b σ₂ ρ₂ s₂ wb _ rel₂ x₂ rb => ?_
  refine Run.standAt (Run.bind (Run.operate (ho F fk σ₂ ρ₂ s₂ a b wa wb rel₂ (ra.mono x₂) rb)) fun c σ₃ ρ₃ s₃ wc _ rel₃ x₃ rc => ?_)
  exact Run.holding (ht F fk σ₃ ρ₃ s₃ c wc rel₃ rc)

theorem simB_val (fk : FOk F) {tr : V → M Bool} (ht : TruOk K tr) {e : Expr} {m : M V} (he : SimE K F e m)
    (hi : isTrue e F.env (eval e F.env) = (do let v ← eval e F.env; standAt e.pos; holding [v] (truthy v)) := by rfl) :
    SimB K F e (do let v ← m; tr v) := by
  intro σ ρ s rel
  rw [hi]
  refine Run.bind (he σ ρ s rel) fun a σ₁ ρ₁ s₁ wa _ rel₁ x₁ ra => ?_
  exact Run.standAt (Run.holding (ht F fk σ₁ ρ₁ s₁ a wa rel₁ ra))

theorem simB_not {e : Expr} {m : M Bool} (pos : Pos) (he : SimB K F e m) : SimB K F (.UnaryOp .Not e pos) (do let b ← m; pure (!b)) := by
  intro σ ρ s rel
  show Run K F (do return !(← isTrue e F.env (eval e F.env))) BRep _ ρ s
  refine Run.bind (he σ ρ s rel) fun b σ₁ ρ₁ s₁ wb _ rel₁ x₁ rb => ?_
  have : wb = b := rb
  subst this
  exact Run.pure rel₁ rfl

theorem simB_and_nil : ∀ (σ : S) (ρ : List Addr) (s : Shared), Rel K F σ ρ s → Run K F (allTrue .And [] F.env) BRep ((pure true : M Bool) σ) ρ s := fun _ _ _ rel => Run.pure rel rfl

def SimAll (K : Glo) (F : Frm) (op : BoolOp) (es : List Expr) (m : M Bool) : Prop := ∀ σ ρ s, Rel K F σ ρ s → Run K F (allTrue op es F.env) BRep (m σ) ρ s
theorem simAll_and_nil : SimAll K F .And [] (pure true) := fun _ _ _ rel => Run.pure rel rfl
theorem simAll_or_nil : SimAll K F .Or [] (pure false) := fun _ _ _ rel => Run.pure rel rfl
theorem simAll_and {e : Expr} {es : List Expr} {m ms : M Bool} (he : SimB K F e m) (hs : SimAll K F .And es ms) : SimAll K F .And (e :: es) (do if (← m) = true then ms else pure false) := by
  intro σ ρ s rel
  show Run K F (do match BoolOp.And, ← isTrue e F.env (eval e F.env) with
    | .And, false => pure false
    | .Or, true => pure true
    | _, _ => allTrue .And es F.env) BRep _ ρ s
  refine Run.bind (he σ ρ s rel) fun b σ₁ ρ₁ s₁ wb _ rel₁ x₁ rb => ?_
  have : wb = b := rb
  subst this
  cases wb with
  | false => simp only [Bool.false_eq_true, if_false]; exact Run.pure rel₁ rfl
  | true => simp only [if_true]; exact hs σ₁ ρ₁ s₁ rel₁
theorem simAll_or {e : Expr} {es : List Expr} {m ms : M Bool} (he : SimB K F e m) (hs : SimAll K F .Or es ms) : SimAll K F .Or (e :: es) (do if (← m) = true then pure true else ms) := by
  intro σ ρ s rel
  show Run K F (do match BoolOp.Or, ← isTrue e F.env (eval e F.env) with
    | .And, false => pure false
    | .Or, true => pure true
    | _, _ => allTrue .Or es F.env) BRep _ ρ s
  refine Run.bind (he σ ρ s rel) fun b σ₁ ρ₁ s₁ wb _ rel₁ x₁ rb => ?_
  have : wb = b := rb
  subst this
  cases wb with
  | false => simp only [Bool.false_eq_true, if_false]; exact hs σ₁ ρ₁ s₁ rel₁
  | true => simp only [if_true]; exact Run.pure rel₁ rfl
theorem simB_boolop {op : BoolOp} {es : List Expr} {m : M Bool} (pos : Pos) (h : SimAll K F op es m) : SimB K F (.BoolOp op es pos) m := fun σ ρ s rel => h σ ρ s rel

/-- the value of «x and y»: both are bools -/
def SimBo (K : Glo) (F : Frm) (pos : Pos) (op : BoolOp) (es : List Expr) (m : M V) : Prop := ∀ σ ρ s, Rel K F σ ρ s → Run K F (boolOp pos op (evalEach es F.env)) (Rep K) (m σ) ρ s
theorem simBo_one {e : Expr} {m : M V} {pos : Pos} {op : BoolOp} (he : SimE K F e m) : SimBo K F pos op [e] m := fun σ ρ s rel => he σ ρ s rel
theorem simBo_and (fk : FOk F) {tr : V → M Bool} (ht : TruOk K tr) {e e' : Expr} {es : List Expr} {m ms : M V} {pos : Pos} (he : SimE K F e m) (hs : SimBo K F pos .And (e' :: es) ms) :
    SimBo K F pos .And (e :: e' :: es) (do let v ← m; if (← tr v) = true then ms else pure v) := by
  intro σ ρ s rel
  show Run K F (do
    let v ← eval e F.env
    standAt pos
    let t ← holding [v] (truthy v)
    match BoolOp.And, t with
    | .And, false | .Or, true => pure v
    | _, _ => boolOp pos .And (evalEach (e' :: es) F.env)) (Rep K) _ ρ s
  refine Run.bind (he σ ρ s rel) fun v σ₁ ρ₁ s₁ wv _ rel₁ x₁ rv => ?_
  refine Run.standAt (Run.bind (Run.holding (ht F fk σ₁ ρ₁ s₁ v wv rel₁ rv)) fun b σ₂ ρ₂ s₂ wb _ rel₂ x₂ rb => ?_)
  have : wb = b := rb
  subst this
  cases wb with
  | false => simp only [Bool.false_eq_true, if_false]; exact Run.pure rel₂ (rv.mono x₂)
  | true => simp only [if_true]; exact hs σ₂ ρ₂ s₂ rel₂
theorem simBo_or (fk : FOk F) {tr : V → M Bool} (ht : TruOk K tr) {e e' : Expr} {es : List Expr} {m ms : M V} {pos : Pos} (he : SimE K F e m) (hs : SimBo K F pos .Or (e' :: es) ms) :
    SimBo K F pos .Or (e :: e' :: es) (do let v ← m; if (← tr v) = true then pure v else ms) := by
  intro σ ρ s rel
  show Run K F (do
    let v ← eval e F.env
    standAt pos
    let t ← holding [v] (truthy v)
    match BoolOp.Or, t with
    | .And, false | .Or, true => pure v
    | _, _ => boolOp pos .Or (evalEach (e' :: es) F.env)) (Rep K) _ ρ s
  refine Run.bind (he σ ρ s rel) fun v σ₁ ρ₁ s₁ wv _ rel₁ x₁ rv => ?_
  refine Run.standAt (Run.bind (Run.holding (ht F fk σ₁ ρ₁ s₁ v wv rel₁ rv)) fun b σ₂ ρ₂ s₂ wb _ rel₂ x₂ rb => ?_)
  have : wb = b := rb
  subst this
  cases wb with
  | false => simp only [Bool.false_eq_true, if_false]; exact hs σ₂ ρ₂ s₂ rel₂
  | true => simp only [if_true]; exact Run.pure rel₂ (rv.mono x₂)
theorem simE_boolop {op : BoolOp} {es : List Expr} {m : M V} {pos : Pos} (h : SimBo K F pos op es m) : SimE K F (.BoolOp op es pos) m := fun σ ρ s rel => h σ ρ s rel

theorem simE_ite {test body orelse : Expr} {mt : M Bool} {mb mo : M V} (pos : Pos) (ht : SimB K F test mt) (hb : SimE K F body mb) (ho : SimE K F orelse mo) :
    SimE K F (.IfExp test body orelse pos) (do if (← mt) = true then mb else mo) := by
  intro σ ρ s rel
  show Run K F (do if ← isTrue test F.env (eval test F.env) then eval body F.env else eval orelse F.env) (Rep K) _ ρ s
  refine Run.bind (ht σ ρ s rel) fun b σ₁ ρ₁ s₁ wb _ rel₁ x₁ rb => ?_
  have : wb = b := rb
  subst this
  cases wb with
  | false => simp only [Bool.false_eq_true, if_false]; exact ho σ₁ ρ₁ s₁ rel₁
  | true => simp only [if_true]; exact hb σ₁ ρ₁ s₁ rel₁

/-! ### several expressions -/
def SimEs (K : Glo) (F : Frm) (es : List Expr) (m : M (List V)) : Prop := ∀ (pos : Pos) σ ρ s, Rel K F σ ρ s → Run K F (spliced (backTo pos (starEach es F.env))) (RepL K) (m σ) ρ s
theorem simEs_nil : SimEs K F [] (pure []) := fun _ _ _ _ rel => Run.pure rel RepL.nil
theorem spliced_cons_eq (x : Sem Value) (rest : List (Bool × Sem Value)) : spliced ((false, x) :: rest) = (do let v ← x; let vs ← holding [v] (spliced rest); pure ([v] ++ vs)) := by
  rfl
theorem simEs_cons {e : Expr} {es : List Expr} {m : M V} {ms : M (List V)} (he : SimE K F e m) (hs : SimEs K F es ms)
    (hst : starEach (e :: es) F.env = (false, eval e F.env) :: starEach es F.env := by rfl) : SimEs K F (e :: es) (do let v ← m; let vs ← ms; pure (v :: vs)) := by
  intro pos σ ρ s rel
  rw [hst]
  show Run K F (spliced ((false, eval e F.env) :: backTo pos (starEach es F.env))) _ _ ρ s
  rw [spliced_cons_eq]
  refine Run.bind (he σ ρ s rel) fun a σ₁ ρ₁ s₁ wa _ rel₁ x₁ ra => ?_
  refine Run.bind (Run.holding (hs pos σ₁ ρ₁ s₁ rel₁)) fun b σ₂ ρ₂ s₂ wb _ rel₂ x₂ rb => ?_
  exact Run.pure rel₂ (RepL.cons (ra.mono x₂) rb)

/-! ### displays -/
def newL (vs : List V) : M V := fun σ => if vs.length ≤ 1000000 then .ok (.obj σ.st.length) { σ with st := σ.st ++ [.lst vs] } else .stuck
theorem sizeLine_ge {n : Nat} (h : n ≤ 1000000) : n ≤ sizeLine := by rw [sizeLine_eq]; omega

theorem run_newList {σ : S} {ρ : List Addr} {s : Shared} {vs : List V} {ws : List Value} (rel : Rel K F σ ρ s) (r : RepL K s.heap ρ vs ws) : Run K F (newList ws) (Rep K) (newL vs σ) ρ s := by
  unfold newL
  by_cases hn : vs.length ≤ 1000000
  · rw [if_pos hn]
    obtain ⟨rel', x⟩ := rel.newList (o := { cls := .type "list", data := .seq ws.toArray }) rfl r hn s.toks
    refine Run.ok (wpAny_newList ⟨_, rel', x, ?_⟩ (sizeLine_ge (by rw [r.length]; exact hn)))
    refine Rep.obj_iff.mpr ⟨_, ?_, rfl⟩
    rw [← rel.len, List.getElem?_concat_length]
  · rw [if_neg hn]; exact Run.stuck

theorem simE_list {es : List Expr} {ms : M (List V)} (pos : Pos) (hs : SimEs K F es ms) : SimE K F (.List es pos) (do let vs ← ms; newL vs) := by
  intro σ ρ s rel
  show Run K F (do standAt pos; newList (← spliced (backTo pos (starEach es F.env)))) (Rep K) _ ρ s
  refine Run.standAt (Run.bind (hs pos σ ρ s rel) fun a σ₁ ρ₁ s₁ wa _ rel₁ x₁ ra => ?_)
  exact run_newList rel₁ ra

theorem run_newTuple {σ : S} {ρ : List Addr} {s : Shared} {vs : List V} {ws : List Value} (rel : Rel K F σ ρ s) (r : RepL K s.heap ρ vs ws) (hn : vs.length ≤ 1000000) : Run K F (newTuple ws) (Rep K) (.ok (.tup vs) σ) ρ s := by
  have x : Ext F.mine ρ ρ s.heap (s.heap.push { cls := .type "tuple", data := .seq ws.toArray }) := Ext.push _
  refine Run.ok (wpAny_newTuple ⟨ρ, rel.push _ s.toks, x, ?_⟩ (sizeLine_ge (by rw [r.length]; exact hn)))
  exact Rep.tup_iff.mpr ⟨hn, _, ws, rfl, IsTup.new _ _, r.mono x⟩

def mkT (vs : List V) : M V := fun σ => if vs.length ≤ 1000000 then .ok (.tup vs) σ else .stuck
theorem simE_tuple {es : List Expr} {ms : M (List V)} (k : Nat) (pos : Pos) (hs : SimEs K F es ms) : SimE K F (.Tuple es k pos) (do let vs ← ms; mkT vs) := by
  intro σ ρ s rel
  show Run K F (do standAt pos; newTuple (← spliced (backTo pos (starEach es F.env)))) (Rep K) _ ρ s
  refine Run.standAt (Run.bind (hs pos σ ρ s rel) fun a σ₁ ρ₁ s₁ wa _ rel₁ x₁ ra => ?_)
  unfold mkT
  split
  · exact run_newTuple rel₁ ra ‹_›
  · exact Run.stuck

/-! ### statements -/
theorem simSs_nil : SimSs K F [] (pure .next) := fun _ _ _ rel => Run.pure rel rfl
def seqM (a b : M Fl) : M Fl := do
  match ← a with
  | .next => b
  | f => pure f
theorem simSs_cons {st : Stmt} {sts : List Stmt} {m ms : M Fl} (h : SimS K F st m) (hs : SimSs K F sts ms) : SimSs K F (st :: sts) (seqM m ms) := by
  intro σ ρ s rel
  show Run K F (do match ← exec st F.env with | .next => execs sts F.env | f => pure f) _ _ ρ s
  refine Run.bind (h σ ρ s rel) fun f σ₁ ρ₁ s₁ wf _ rel₁ x₁ rf => ?_
  cases f with
  | next => have : wf = .next := rf; subst this; exact hs σ₁ ρ₁ s₁ rel₁
  | brk => have : wf = .brk := rf; subst this; exact Run.pure rel₁ rfl
  | cont => have : wf = .cont := rf; subst this; exact Run.pure rel₁ rfl
  | ret v => obtain ⟨w, e, r⟩ := rf; subst e; exact Run.pure rel₁ ⟨w, rfl, r⟩
theorem simSs_one {st : Stmt} {m : M Fl} (h : SimS K F st m) : SimSs K F [st] m := by
  intro σ ρ s rel
  have := simSs_cons h simSs_nil σ ρ s rel
  have e : seqM m (pure .next) σ = m σ := by
    unfold seqM
    rw [M.bind_def]
    cases m σ with
    | stuck => rfl
    | exc x y => rfl
    | ok f y => cases f <;> rfl
  rw [e] at this; exact this

theorem simS_pass (pos : Pos) : SimS K F (.Pass pos) (pure .next) := fun _ _ _ rel => Run.standAt (Run.pure rel rfl)
theorem simS_break (pos : Pos) : SimS K F (.Break pos) (pure .brk) := fun _ _ _ rel => Run.standAt (Run.pure rel rfl)
theorem simS_continue (pos : Pos) : SimS K F (.Continue pos) (pure .cont) := fun _ _ _ rel => Run.standAt (Run.pure rel rfl)
theorem simS_return {e : Expr} {m : M V} (pos : Pos) (h : SimE K F e m) : SimS K F (.Return (some e) pos) (do let v ← m; pure (.ret v)) := by
  intro σ ρ s rel
  rw [exec_Return_some]
  exact Run.standAt (Run.bind (h σ ρ s rel) fun v σ₁ ρ₁ s₁ w _ rel₁ x₁ r => Run.pure rel₁ ⟨w, rfl, r⟩)
theorem simS_if {test : Expr} {body orelse : List Stmt} {mt : M Bool} {mb mo : M Fl} (pos : Pos) (ht : SimB K F test mt) (hb : SimSs K F body mb) (ho : SimSs K F orelse mo) :
    SimS K F (.If test body orelse pos) (do if (← mt) = true then mb else mo) := by
  intro σ ρ s rel
  rw [exec_If]
  refine Run.standAt (Run.bind (ht σ ρ s rel) fun b σ₁ ρ₁ s₁ wb _ rel₁ x₁ rb => ?_)
  have : wb = b := rb
  subst this
  cases wb with
  | false => simp only [Bool.false_eq_true, if_false]; exact ho σ₁ ρ₁ s₁ rel₁
  | true => simp only [if_true]; exact hb σ₁ ρ₁ s₁ rel₁

theorem interactive_of (fk : FOk F) : interactive F.env = false := by
  unfold interactive; rw [fk.kind]; rfl
theorem run_dropValue {e : Expr} {pos : Pos} {v : Value} {σ : S} {ρ : List Addr} {s : Shared} (rel : Rel K F σ ρ s) : Run K F (dropValue e pos v) (FlRep K) (.ok .next σ) ρ s :=
  Run.ok (wpAny_dropValue ⟨ρ, rel, Ext.refl .., rfl⟩)
theorem simS_expr (fk : FOk F) {e : Expr} {m : M V} (pos : Pos) (h : SimE K F e m) (hs : swapsWith e none pos.line F.env = pure false := by rfl) :
    SimS K F (.Expr e pos) (do let _ ← m; pure .next) := by
  intro σ ρ s rel
  rw [exec_Expr F.env e pos (interactive_of fk) hs]
  exact Run.standAt (Run.bind (h σ ρ s rel) fun v σ₁ ρ₁ s₁ w _ rel₁ x₁ r => run_dropValue rel₁)

theorem simT_local (x : String) (pos : Pos) (fk : FOk F) (hk : F.env.kindOf (Str.ofString x) = some .local) : SimT K F (.Name (Str.ofString x) pos) (fun v => setv x v) := by
  intro σ ρ s v w rel r
  refine Run.ok (wpAny_assign_Name ?_)
  obtain ⟨m, hm⟩ := rel.loc
  refine wpAny_storeName_local hk hm (fun h' hn hs => ?_) (by rw [fk.kind]; rfl)
  obtain ⟨rel', x'⟩ := rel.setLocal (s' := { s with heap := h', toks := s.toks + 1 }) hk hm hn hs r rfl rfl
  exact ⟨ρ, rel', x', trivial⟩
theorem simT_cell (x : String) (pos : Pos) (fk : FOk F) {c : Addr} (hk : F.env.kindOf (Str.ofString x) = some .cell) (hc : F.env.cells.lookup (Str.ofString x) = some c) (hm : c ∈ F.mine)
    (hinj : ∀ y, F.env.cells.lookup y = some c → y = Str.ofString x) : SimT K F (.Name (Str.ofString x) pos) (fun v => setv x v) := by
  intro σ ρ s v w rel r
  refine Run.ok (wpAny_assign_Name ?_)
  obtain ⟨v₀, h0⟩ := rel.cels _ _ hc
  refine wpAny_storeName_cell fk.kind hk hc h0 (fun h' hn hs => ?_)
  obtain ⟨rel', x'⟩ := rel.setCell (s' := { s with heap := h' }) hk hc hm hinj h0 hn hs r rfl rfl
  exact ⟨ρ, rel', x', trivial⟩

theorem swappedStores_name {x : Str} {p : Pos} {value : Expr} {env : Env} : swappedStores [.Name x p] value env = pure none := rfl

theorem exec_Assign1 (env : Env) (targets : List Expr) (value : Expr) (pos : Pos) : exec (.Assign targets value pos) env = (do
    standAt pos
    if ← swapsWithSole targets value pos.line env then do
      evalThenUse value env fun v => assignAll v ((assignEach targets env).map (·.2))
      pure .next
    else do
      let v ← eval value env
      assignStores env v (← swappedStores targets value env) ((assignEach targets env).map (·.2))) := by rfl
theorem pureBind {α β : Type} (a : α) (f : α → Sem β) : (pure a >>= f) = f a := rfl

/-- target = value, the target no tuple -/
theorem simS_assign {t e : Expr} {mt : V → M Unit} {m : M V} (pos : Pos) (ht : SimT K F t mt) (h : SimE K F e m)
    (hs : swapsWith e (some t) pos.line F.env = pure false := by rfl) (hsw : swappedStores [t] e F.env = pure none := by rfl)
    (hst : assignEach [t] F.env = [(false, assign t F.env)] := by rfl) :
    SimS K F (.Assign [t] e pos) (do let v ← m; mt v; pure .next) := by
  intro σ ρ s rel
  rw [exec_Assign1]
  refine Run.standAt ?_
  rw [show swapsWithSole [t] e pos.line F.env = pure false from hs, pureBind, if_neg Bool.false_ne_true]
  refine Run.bind (h σ ρ s rel) fun v σ₁ ρ₁ s₁ w _ rel₁ x₁ r => ?_
  rw [hsw, hst, pureBind]
  show Run K F (do assign t F.env w; (pure Flow.next : Sem Flow)) _ _ ρ₁ s₁
  exact Run.bind (ht σ₁ ρ₁ s₁ v w rel₁ r) fun _ σ₂ ρ₂ s₂ _ _ rel₂ _ _ => Run.pure rel₂ rfl

end Mine


/-! part F4 -/
set_option autoImplicit false
set_option maxRecDepth 100000
open PySem PySem.W PyProof.Rows
namespace Mine

variable {K : Glo} {F : Frm}

def QO {α β : Type} (K : Glo) (F : Frm) (R : Heap → List Addr → β → α → Prop) (out : Res S β) (ρ : List Addr) (h : Heap) : α → Shared → Prop :=
  fun a s' => ∃ b σ' ρ', out = .ok b σ' ∧ Rel K F σ' ρ' s' ∧ Ext F.mine ρ ρ' h s'.heap ∧ R s'.heap ρ' b a
def EO {β : Type} (K : Glo) (F : Frm) (out : Res S β) (ρ : List Addr) (h : Heap) : Value → Shared → Prop :=
  fun v s' => ∃ e σ' ρ', out = .exc e σ' ∧ Rel K F σ' ρ' s' ∧ Ext F.mine ρ ρ' h s'.heap ∧ XRep K F e ρ' v s'

theorem Run.wp {α β : Type} {t : Sem α} {R : Heap → List Addr → β → α → Prop} {out : Res S β} {ρ : List Addr} {s : Shared} (h : Run K F t R out ρ s) (hne : out ≠ .stuck) :
    wpAny (model K.prog K.w) F.A t (QO K F R out ρ s.heap) (EO K F out ρ s.heap) s := by
  cases out with
  | stuck => exact absurd rfl hne
  | ok b σ' => exact wpAny_mono h (fun a s' ⟨ρ', h1, h2, h3⟩ => ⟨b, σ', ρ', rfl, h1, h2, h3⟩) fun _ _ h => h.elim
  | exc e σ' => exact wpAny_mono h (fun _ _ h => h.elim) fun a s' ⟨ρ', h1, h2, h3⟩ => ⟨e, σ', ρ', rfl, h1, h2, h3⟩
theorem Run.of_wp {α β : Type} {t : Sem α} {R : Heap → List Addr → β → α → Prop} {out : Res S β} {ρ : List Addr} {s : Shared}
    (h : out ≠ .stuck → wpAny (model K.prog K.w) F.A t (QO K F R out ρ s.heap) (EO K F out ρ s.heap) s) : Run K F t R out ρ s := by
  cases out with
  | stuck => trivial
  | ok b σ' =>
    refine wpAny_mono (h (by simp)) (fun a s' hq => ?_) fun a s' he => ?_
    · obtain ⟨b', σ'', ρ', e, h1, h2, h3⟩ := hq; cases e; exact ⟨ρ', h1, h2, h3⟩
    · obtain ⟨_, _, _, e, _⟩ := he; cases e
  | exc x σ' =>
    refine wpAny_mono (h (by simp)) (fun a s' hq => ?_) fun a s' he => ?_
    · obtain ⟨_, _, _, e, _⟩ := hq; cases e
    · obtain ⟨b', σ'', ρ', e, h1, h2, h3⟩ := he; cases e; exact ⟨ρ', h1, h2, h3⟩

/-- the frame notes an exception that goes through one of its blocks -/
theorem XRep.noted {e : Exc} {ρ : List Addr} {v : Value} {s : Shared} {σ : S} {Q : Unit → Shared → Prop} {E : Value → Shared → Prop} (x : XRep K F e ρ v s) (_rel : Rel K F σ ρ s)
    (_h : ∀ s', Rel K F σ ρ s' → Ext F.mine ρ ρ s.heap s'.heap → XRep K F e ρ v s' → Q () s') : wpAny (model K.prog K.w) F.A (noteFrame v F.env) Q E s := x.elim
theorem XRep.back {e : Exc} {ρ : List Addr} {v : Value} {s : Shared} {σ : S} {Q : Unit → Shared → Prop} {E : Value → Shared → Prop} (x : XRep K F e ρ v s) (_rel : Rel K F σ ρ s)
    (_h : ∀ s', Rel K F σ ρ s' → Ext F.mine ρ ρ s.heap s'.heap → XRep K F e ρ v s' → Q () s') : wpAny (model K.prog K.w) F.A (do
    if (← field v 1) == .none then unsupported "frame.own-activation:exception-without-traceback"
    setFlight v F.env.frame) Q E s := x.elim

theorem EO.noted {β : Type} {out : Res S β} {ρ : List Addr} {h : Heap} {v : Value} {s' : Shared} (x : EO K F out ρ h v s') :
    notedBy (model K.prog K.w) F.A F.env (EO K F out ρ h) v s' := by
  obtain ⟨e, σ', ρ', e1, rel, ext, x⟩ := x
  exact x.noted rel fun s'' rel' ext' x' => ⟨e, σ', ρ', e1, rel', ext.trans ext', x'⟩
theorem EO.back {β : Type} {out : Res S β} {ρ : List Addr} {h : Heap} {v : Value} {s' : Shared} (x : EO K F out ρ h v s') :
    cameBackBy (model K.prog K.w) F.A F.env (EO K F out ρ h) v s' := by
  obtain ⟨e, σ', ρ', e1, rel, ext, x⟩ := x
  exact x.back rel fun s'' rel' ext' x' => ⟨e, σ', ρ', e1, rel', ext.trans ext', x'⟩

/-! ### while -/
def whileM (c : M Bool) (b : M Fl) : Nat → M Fl
  | 0 => stuck
  | n + 1 => do
    if (← c) = true then
      match ← b with
      | .next => whileM c b n
      | .cont => whileM c b n
      | .brk => pure .next
      | .ret v => pure (.ret v)
    else pure .next

theorem simS_while {test : Expr} {body : List Stmt} {mt : M Bool} {mb : M Fl} (pos : Pos) (n : Nat) (ht : SimB K F test mt) (hb : SimSs K F body mb) : SimS K F (.While test body [] pos) (whileM mt mb n) := by
  intro σ ρ s rel
  refine Run.of_wp fun hne => ?_
  refine wpAny_While ?_
  refine codeAny_whileLoop (R := fun r s' => match r with | .ok f => QO K F (FlRep K) (whileM mt mb n σ) ρ s.heap f s' | .error e => cameBackBy (model K.prog K.w) F.A F.env (EO K F (whileM mt mb n σ) ρ s.heap) e s')
    (fun k s' => ∃ σ₁ ρ₁, Rel K F σ₁ ρ₁ s' ∧ whileM mt mb k σ₁ = whileM mt mb n σ ∧ Ext F.mine ρ ρ₁ s.heap s'.heap) ?_ n ⟨σ, ρ, rel, rfl, Ext.refl ..⟩
  generalize whileM mt mb n σ = out at hne ⊢
  rintro k s₁ ⟨σ₁, ρ₁, rel₁, e₁, x₁⟩
  have note : ∀ {v : Value} {s' : Shared}, EO K F out ρ s.heap v s' → notedBy (model K.prog K.w) F.A F.env (fun e s' => cameBackBy (model K.prog K.w) F.A F.env (EO K F out ρ s.heap) e s') v s' := by
    intro v s' hx
    obtain ⟨e, σ', ρ', e1, rel, ext, x⟩ := hx
    exact x.noted rel fun s'' rel' ext' x' => EO.back ⟨e, σ', ρ', e1, rel', ext.trans ext', x'⟩
  cases k with
  | zero => exact absurd e₁.symm hne
  | succ k =>
    have hc := ht σ₁ ρ₁ s₁ rel₁
    have e₂ : whileM mt mb (k + 1) σ₁ = (match mt σ₁ with
      | .ok true σ₂ => (match mb σ₂ with
        | .ok .next σ₃ => whileM mt mb k σ₃
        | .ok .cont σ₃ => whileM mt mb k σ₃
        | .ok .brk σ₃ => .ok .next σ₃
        | .ok (.ret v) σ₃ => .ok (.ret v) σ₃
        | .exc e σ₃ => .exc e σ₃
        | .stuck => .stuck)
      | .ok false σ₂ => .ok .next σ₂
      | .exc e σ₂ => .exc e σ₂
      | .stuck => .stuck) := by
      show (mt >>= _) σ₁ = _
      rw [M.bind_def]
      cases mt σ₁ with
      | stuck => rfl
      | exc e y => rfl
      | ok b y =>
        cases b with
        | false => rfl
        | true =>
          dsimp only
          rw [if_pos rfl, M.bind_def]
          cases mb y with
          | stuck => rfl
          | exc e z => rfl
          | ok f z => cases f <;> rfl
    rw [e₂] at e₁
    cases em : mt σ₁ with
    | stuck => rw [em] at e₁; exact absurd e₁.symm hne
    | exc e σ₂ =>
      rw [em] at hc e₁
      refine wpAny_mono (hc.wp (by simp)) (fun a s' hq => ?_) fun v s' he => ?_
      · obtain ⟨_, _, _, e, _⟩ := hq; cases e
      · obtain ⟨e', σ', ρ', e2, r1, r2, r3⟩ := he
        cases e2
        exact note ⟨e, σ₂, ρ', e₁.symm, r1, x₁.trans r2, r3⟩
    | ok b σ₂ =>
      rw [em] at hc e₁
      refine wpAny_mono (hc.wp (by simp)) (fun a s₂ hq => ?_) fun v s' he => ?_
      · obtain ⟨b', σ', ρ₂, e2, rel₂, x₂, rb⟩ := hq
        cases e2
        have : a = b := rb
        subst this
        have x02 := x₁.trans x₂
        cases a with
        | false =>
          simp only [Bool.false_eq_true, if_false]
          exact wpAny_execs_nil ⟨.next, σ₂, ρ₂, e₁.symm, rel₂, x02, rfl⟩
        | true =>
          simp only [if_true]
          dsimp only at e₁
          have hb' := hb σ₂ ρ₂ s₂ rel₂
          cases eb : mb σ₂ with
          | stuck => rw [eb] at e₁; exact absurd e₁.symm hne
          | exc e σ₃ =>
            rw [eb] at hb' e₁
            refine wpAny_mono (hb'.wp (by simp)) (fun a s' hq => ?_) fun v s' he => ?_
            · obtain ⟨_, _, _, e, _⟩ := hq; cases e
            · obtain ⟨e', σ', ρ', e2, r1, r2, r3⟩ := he
              cases e2
              exact note ⟨e, σ₃, ρ', e₁.symm, r1, x02.trans r2, r3⟩
          | ok f σ₃ =>
            rw [eb] at hb' e₁
            refine wpAny_mono (hb'.wp (by simp)) (fun wf s₃ hq => ?_) fun v s' he => ?_
            · obtain ⟨f', σ', ρ₃, e3, rel₃, x₃, rf⟩ := hq
              cases e3
              have x03 := x02.trans x₃
              cases f with
              | next => have : wf = .next := rf; subst this; exact ⟨k, Nat.lt_succ_self _, σ₃, ρ₃, rel₃, e₁, x03⟩
              | cont => have : wf = .cont := rf; subst this; exact ⟨k, Nat.lt_succ_self _, σ₃, ρ₃, rel₃, e₁, x03⟩
              | brk => have : wf = .brk := rf; subst this; exact ⟨.next, σ₃, ρ₃, e₁.symm, rel₃, x03, rfl⟩
              | ret v => obtain ⟨w, e, r⟩ := rf; subst e; exact ⟨.ret v, σ₃, ρ₃, e₁.symm, rel₃, x03, w, rfl, r⟩
            · obtain ⟨_, _, _, e, _⟩ := he; cases e
      · obtain ⟨_, _, _, e, _⟩ := he; cases e

/-! ### targets that are tuples -/
theorem kept_of_extBut {h h' : Heap} (x : Heap.ExtBut h.objs.size h h') : ∀ b o, h.get? b = some o → h'.get? b = some o :=
  fun b o e => x b o (Nat.ne_of_lt (Heap.lt_size e)) e

def SimTs (K : Glo) (F : Frm) (es : List Expr) (m : List V → M Unit) : Prop :=
  (∃ n, (assignEach es F.env).length = n ∧ n = es.length ∧ (assignEach es F.env).findIdx? (·.1) = none) ∧
  ∀ σ ρ s vs ws, Rel K F σ ρ s → RepL K s.heap ρ vs ws → vs.length = es.length → Run K F (assignInOrder ((assignEach es F.env).map (·.2)) ws) URep (m vs σ) ρ s
theorem simTs_nil : SimTs K F [] (fun _ => pure ()) := ⟨⟨0, rfl, rfl, rfl⟩, fun _ _ _ _ _ rel _ _ => Run.pure rel trivial⟩
def consT (m : V → M Unit) (ms : List V → M Unit) : List V → M Unit
  | v :: vs => do m v; ms vs
  | [] => stuck
theorem simTs_cons {e : Expr} {es : List Expr} {m : V → M Unit} {ms : List V → M Unit} (h : SimT K F e m) (hs : SimTs K F es ms)
    (hst : assignEach (e :: es) F.env = (false, assign e F.env) :: assignEach es F.env := by rfl) : SimTs K F (e :: es) (consT m ms) := by
  obtain ⟨⟨n, h1, h2, h3⟩, h4⟩ := hs
  refine ⟨⟨n + 1, by rw [hst]; simp [h1], by simp [h2], by rw [hst, List.findIdx?_cons]; simp [h3]⟩, ?_⟩
  intro σ ρ s vs ws rel r hl
  rw [hst]
  cases vs with
  | nil => exact Run.stuck
  | cons v vs =>
    obtain ⟨x, ws', rfl, r1, r2⟩ := RepL.cons_iff.mp r
    show Run K F (do holding ws' (assign e F.env x); assignInOrder ((assignEach es F.env).map (·.2)) ws') URep ((do m v; ms vs) σ) ρ s
    refine Run.bind (Run.holding (h σ ρ s v x rel r1)) fun _ σ₁ ρ₁ s₁ _ _ rel₁ x₁ _ => ?_
    exact h4 σ₁ ρ₁ s₁ vs ws' rel₁ (r2.mono x₁) (by simpa using hl)

def unpackT (n : Nat) (m : List V → M Unit) : V → M Unit
  | .tup vs => if vs.length = n then m vs else stuck
  | _ => stuck
theorem simT_tuple (fk : FOk F) {es : List Expr} {m : List V → M Unit} (k : Nat) (pos : Pos) (hs : SimTs K F es m) : SimT K F (.Tuple es k pos) (unpackT es.length m) := by
  obtain ⟨⟨n, h1, h2, h3⟩, h4⟩ := hs
  intro σ ρ s v w rel r
  cases v with
  | tup vs =>
    unfold unpackT
    dsimp only
    by_cases hl : vs.length = es.length
    · rw [if_pos hl]
      obtain ⟨_, a, ws, rfl, ht, rl⟩ := Rep.tup_iff.mp r
      refine Run.of_wp fun hne => ?_
      refine wpAny_assign_Tuple fk.hd (items := ws.toArray) ht (by rw [h1, h2, List.size_toArray, rl.length, hl]) h3 fun h' hx => ?_
      have hk := kept_of_extBut hx
      have rel' : Rel K F σ ρ { s with heap := h' } := rel.kept hk rfl rfl
      have x' : Ext F.mine ρ ρ s.heap h' := Ext.kept hk
      refine wpAny_mono ((h4 σ ρ { s with heap := h' } vs ws rel' (rl.mono x') hl).wp hne) ?_ ?_
      · rintro b s'' ⟨b', σ'', ρ', e, q1, q2, q3⟩; exact ⟨b', σ'', ρ', e, q1, x'.trans q2, q3⟩
      · rintro b s'' ⟨b', σ'', ρ', e, q1, q2, q3⟩; exact ⟨b', σ'', ρ', e, q1, x'.trans q2, q3⟩
    · rw [if_neg hl]; exact Run.stuck
  | _ => exact Run.stuck

/-- a, b = value, where the stores go in the other order -/
theorem simS_assign_tup (fk : FOk F) {es : List Expr} {e : Expr} {mt : V → M Unit} {m : M V} (pos : Pos) {k : Nat} {tpos : Pos} (ht : SimT K F (.Tuple es k tpos) mt) (h : SimE K F e m)
    (hs : swapsWith e (some (.Tuple es k tpos)) pos.line F.env = pure false := by rfl) (hsw : swappedStores [.Tuple es k tpos] e F.env = pure none := by rfl) :
    SimS K F (.Assign [.Tuple es k tpos] e pos) (do let v ← m; mt v; pure .next) :=
  simS_assign pos ht h hs hsw rfl

end Mine


/-! part F5 -/
set_option autoImplicit false
set_option maxRecDepth 100000
set_option linter.unusedVariables false
open PySem PySem.W PyProof.Rows
namespace Mine

variable {K : Glo} {F : Frm}

section
variable {σ : S} {ρ ρ₀ : List Addr} {s s' : Shared} {mine : List Addr} {h h₀ h' : Heap} {a : Addr} {o : Obj}

/-- all stays but one hidden object (an iterator) -/
theorem Ext.but {vs : Array Value} (x : Ext mine ρ₀ ρ h₀ h) (h0 : h₀.get? a = none) (ho : h.get? a = some o) (hd : o.data = .fields vs) (hc : o.cls ≠ .type "range") (hx : Heap.ExtBut a h h') : Ext mine ρ₀ ρ h₀ h' where
  pre := x.pre
  alive := fun b o' e => by
    obtain ⟨o1, e1⟩ := x.alive b o' e
    exact ⟨o1, hx b o1 (by rintro rfl; rw [h0] at e; cases e) e1⟩
  new := x.new
  keep := fun b o' e n1 n2 => by
    obtain ⟨o1, e1, l1⟩ := x.keep b o' e n1 n2
    exact ⟨o1, hx b o1 (by rintro rfl; rw [h0] at e; cases e) e1, l1⟩
  froz := fun b o' e f => hx b o' (by rintro rfl; rw [h0] at e; cases e) (x.froz b o' e f)

theorem hid_ne_froz {vs : Array Value} {b : Addr} {o' : Obj} (ho : h.get? a = some o) (hd : o.data = .fields vs) (hc : o.cls ≠ .type "range") (e : h.get? b = some o') (f : Froz o') : b ≠ a := by
  rintro rfl
  rw [ho] at e; cases e
  rcases f with ⟨_, _, _, f⟩ | ⟨f, _⟩
  · rw [hd] at f; cases f
  · exact hc f
theorem hid_ne_list {vs : Array Value} {b : Addr} {it : Array Value} (ho : h.get? a = some o) (hd : o.data = .fields vs) (e : h.IsList b it) : b ≠ a := by
  rintro rfl
  obtain ⟨o', e', _, n, d⟩ := e
  rw [ho] at e'; cases e'; rw [hd] at d; cases d
theorem hid_ne_ns {vs : Array Value} {b : Addr} {m : Str → Option Value} (ho : h.get? a = some o) (hd : o.data = .fields vs) (e : h.Ns b m) : b ≠ a := by
  rintro rfl
  obtain ⟨o', es, ep, e', d, _⟩ := e
  rw [ho] at e'; cases e'; rw [hd] at d; cases d
theorem hid_ne_cell {vs : Array Value} {b : Addr} {v : Option Value} (ho : h.get? a = some o) (hd : o.data = .fields vs) (e : h.IsCell b v) : b ≠ a := by
  rintro rfl
  obtain ⟨o', e', d⟩ := e
  rw [ho] at e'; cases e'; rw [hd] at d; cases d

theorem GRel.but {st : Store} {vs : Array Value} (rel : GRel K st ρ s) (hb : K.base.get? a = none) (ho : s.heap.get? a = some o) (hd : o.data = .fields vs) (hc : o.cls ≠ .type "range") (hx : Heap.ExtBut a s.heap s'.heap)
    (hg : s'.gens = s.gens) (hos : s'.os = s.os) : GRel K st ρ s' where
  gens := hg.trans rel.gens
  os := hos.trans rel.os
  base := fun b o' e => hx b o' (by rintro rfl; rw [hb] at e; cases e) (rel.base b o' e)
  len := rel.len
  cell := fun l b c h1 h2 => by
    refine (rel.cell l b c h1 h2).mono (List.prefix_refl _) (fun d o' e f => hx d o' (hid_ne_froz ho hd hc e f) e) fun it n x => ?_
    have hne := hid_ne_list ho hd x.isList
    exact hx b _ hne x
  nodup := rel.nodup
  above := rel.above

theorem Rel.but {vs : Array Value} (rel : Rel K F σ ρ s) (hb : K.base.get? a = none) (hm : a ∉ F.mine) (ho : s.heap.get? a = some o) (hd : o.data = .fields vs) (hc : o.cls ≠ .type "range") (hx : Heap.ExtBut a s.heap s'.heap)
    (hg : s'.gens = s.gens) (hos : s'.os = s.os) : Rel K F σ ρ s' where
  toGRel := rel.toGRel.but hb ho hd hc hx hg hos
  vars := fun y u e => by
    obtain ⟨w, h1, h2⟩ := rel.vars y u e
    refine ⟨w, h1.mono (fun m n => ?_) (fun c u _ n => ?_), Rep.mono' (List.prefix_refl _) (fun d o' e f => hx d o' (hid_ne_froz ho hd hc e f) e) h2⟩
    · have hne := hid_ne_ns ho hd n
      obtain ⟨o', es, ep, e', r⟩ := n
      exact ⟨o', es, ep, hx _ _ hne e', r⟩
    · have hne := hid_ne_cell ho hd n
      obtain ⟨o', e', r⟩ := n
      exact ⟨o', hx _ _ hne e', r⟩
  loc := by
    obtain ⟨m, n⟩ := rel.loc
    have hne := hid_ne_ns ho hd n
    obtain ⟨o', es, ep, e', r⟩ := n
    exact ⟨m, o', es, ep, hx _ _ hne e', r⟩
  cels := fun y c e => by
    obtain ⟨v, n⟩ := rel.cels y c e
    have hne := hid_ne_cell ho hd n
    obtain ⟨o', e', r⟩ := n
    exact ⟨v, o', hx _ _ hne e', r⟩
  mineAbove := fun b hb' => by
    obtain ⟨h1, o', h2⟩ := rel.mineAbove b hb'
    exact ⟨h1, o', hx b o' (by rintro rfl; exact hm hb') h2⟩
  mineApart := rel.mineApart
  mineLoc := rel.mineLoc
end

/-! ### for -/
def ownedKinds : List String := ["enumerate", "zip", "dict_itemiterator", "dict_reverseitemiterator", "odict_iterator", "itertools.zip_longest", "itertools.pairwise"]
theorem owned_skip {target : Expr} {I : Addr} {v : Value} {s : Shared} {o : Obj} {T : String} {Q : Unit → Shared → Prop} {E : Value → Shared → Prop} (ho : s.heap.get? I = some o) (hc : o.cls = .type T)
    (hT : ownedKinds.contains T = false) (h : Q () s) : wpAny (model K.prog K.w) F.A (letOwnedTupleGo target (.ref I) v) Q E s := by
  have key : ∀ {vs : Array Value} {a : Addr}, o.data = .fields vs → (ownedKinds.contains T && vs[0]? == some (rawInt a)) = false := by
    intro vs a _; rw [hT]; rfl
  have main : wpAny (model K.prog K.w) F.A (do
    let (.ref r, .ref a) := (Value.ref I, v) | return
    let o ← load r
    match o.cls, o.data with
    | .type n, .fields vs =>
      if ownedKinds.contains n && vs[0]? == some (rawInt a) then
        rule "for.unpacks-the-owned-tuple"
        updateField r 0 .none
    | _, _ => pure ()) Q E s := by
    cases v with
    | ref b =>
      refine wpAny_bind (wpAny_load ho ?_)
      rw [hc]
      cases hd : o.data <;> first | exact wpAny_pure h | skip
      rename_i vs
      dsimp only
      rw [hT]
      exact wpAny_pure h
    | _ => exact wpAny_pure h
  cases target <;> first | exact main | exact wpAny_pure h

def forG (nxt : S → Nat → Option (Option V)) (t : V → M Unit) (b : M Fl) : Nat → Nat → M Fl
  | 0, _ => stuck
  | n + 1, i => fun σ => match nxt σ i with
    | none => .stuck
    | some none => .ok .next σ
    | some (some v) => (do
      t v
      match ← b with
      | .next => forG nxt t b n (i + 1)
      | .cont => forG nxt t b n (i + 1)
      | .brk => pure .next
      | .ret v => pure (.ret v)) σ

/-- what an iterator object does: Src i o says that o stands before its item i -/
def Iter (K : Glo) (F : Frm) (I : Addr) (Src : Nat → Obj → Prop) (nxt : S → Nat → Option (Option V)) (ρ₁ : List Addr) (h₁ : Heap) : Prop :=
  (∀ i o, Src i o → ∃ vs T, o.data = .fields vs ∧ o.cls = .type T ∧ ownedKinds.contains T = false ∧ T ≠ "range") ∧
  (∀ i o (s : Shared) (A : Around) (Q : Value → Shared → Prop) (E : Value → Shared → Prop), s.heap.get? I = some o → Src i o → Q (.ref I) s → wpAny (model K.prog K.w) A (pyIter (.ref I)) Q E s) ∧
  ∀ σ ρ s i o, Rel K F σ ρ s → Ext F.mine ρ₁ ρ h₁ s.heap → s.heap.get? I = some o → Src i o →
    match nxt σ i with
    | none => True
    | some none => wpAny (model K.prog K.w) F.A (pyNext (.ref I)) (fun r s' => r = none ∧ Heap.ExtBut I s.heap s'.heap ∧ s'.gens = s.gens ∧ s'.os = s.os) (fun _ _ => False) s
    | some (some v) => wpAny (model K.prog K.w) F.A (pyNext (.ref I)) (fun r s' => ∃ w, r = some w ∧ Heap.ExtBut I s.heap s'.heap ∧ s'.gens = s.gens ∧ s'.os = s.os ∧ (∃ o', s'.heap.get? I = some o' ∧ Src (i + 1) o') ∧ Rep K s'.heap ρ v w) (fun _ _ => False) s

theorem codeAny_forLoopT {prog : Program} {w : World} {A : Around} {s : Shared} {R : Result → Shared → Prop} {target : Expr} {it : Value} {body : List Stmt} {env : Env} (I : Nat → Shared → Prop)
    (turn : ∀ n s, I n s → wpAny (model prog w) A (pyNext it) (fun r s₁ => match r with
      | none => R (.ok .next) s₁
      | some v => wpAny (model prog w) A (letOwnedTupleGo target it v) (fun _ s₁' => wpAny (model prog w) A (assign target env v) (fun _ s₂ => wpAny (model prog w) A (execs body env) (fun f s₃ => match f with
          | .next | .cont => ∃ m, m < n ∧ I m s₃
          | .brk => R (.ok .next) s₃
          | .ret v => R (.ok (.ret v)) s₃) (notedBy (model prog w) A env fun e s' => R (.error e) s') s₂) (notedBy (model prog w) A env fun e s' => R (.error e) s') s₁') (notedBy (model prog w) A env fun e s' => R (.error e) s') s₁)
      (notedBy (model prog w) A env fun e s' => R (.error e) s') s)
    (n : Nat) (h : I n s) : codeAny (model prog w) A (.forLoop target it body [] env) R s := by
  refine codeAny_loop' rfl I (fun n s hI => ?_) n h
  show wpAny _ _ ((forTurn target it body [] env).onRaise (fun x => do noteFrame x env; theTreesLotGoes x)) _ _ s
  refine wpAny_noted ?_
  unfold forTurn
  refine wpAny_bind (wpAny_standAt (wpAny_bind (wpAny_onRaise (wpAny_mono (turn n s hI) (fun r s₁ h₁ => ?_) fun _ _ h' => wpAny_standAt h'))))
  cases r with
  | none => exact wpAny_pure (.inr ⟨rfl, codeAny_block (wpAny_execs_nil h₁)⟩)
  | some v =>
    refine wpAny_bind (wpAny_mono h₁ (fun _ s₁' h₁' => ?_) fun _ _ h' => h')
    refine wpAny_bind (wpAny_mono h₁' (fun _ s₂ h₂ => wpAny_bind (wpAny_mono h₂ (fun f s₃ h₃ => ?_) fun _ _ h' => h')) fun _ _ h' => h')
    cases f with
    | next => exact wpAny_pure (.inl ⟨rfl, h₃⟩)
    | cont => exact wpAny_pure (.inl ⟨rfl, h₃⟩)
    | brk => exact wpAny_pure h₃
    | ret v => exact wpAny_pure h₃

theorem forG_succ (nxt : S → Nat → Option (Option V)) (t : V → M Unit) (b : M Fl) (n i : Nat) (σ : S) : forG nxt t b (n + 1) i σ = (match nxt σ i with
    | none => .stuck
    | some none => .ok .next σ
    | some (some v) => match t v σ with
      | .stuck => .stuck
      | .exc e σ₂ => .exc e σ₂
      | .ok _ σ₂ => match b σ₂ with
        | .ok .next σ₃ => forG nxt t b n (i + 1) σ₃
        | .ok .cont σ₃ => forG nxt t b n (i + 1) σ₃
        | .ok .brk σ₃ => .ok .next σ₃
        | .ok (.ret v) σ₃ => .ok (.ret v) σ₃
        | .exc e σ₃ => .exc e σ₃
        | .stuck => .stuck) := by
  rw [forG]
  dsimp only
  cases nxt σ i with
  | none => rfl
  | some x =>
    cases x with
    | none => rfl
    | some v =>
      dsimp only
      rw [M.bind_def]
      cases t v σ with
      | stuck => rfl
      | exc e y => rfl
      | ok u y =>
        dsimp only
        rw [M.bind_def]
        cases b y with
        | stuck => rfl
        | exc e z => rfl
        | ok f z => cases f <;> rfl

theorem run_forLoop {target : Expr} {body : List Stmt} {t : V → M Unit} {b : M Fl} (ht : SimT K F target t) (hb : SimSs K F body b) {I : Addr} {Src : Nat → Obj → Prop} {nxt : S → Nat → Option (Option V)}
    {σ : S} {ρ ρ₀ : List Addr} {s : Shared} {h₀ : Heap} {o : Obj} (hI : Iter K F I Src nxt ρ₀ h₀) (rel : Rel K F σ ρ s) (x₀ : Ext F.mine ρ₀ ρ h₀ s.heap) (h0 : h₀.get? I = none) (hbase : K.base.get? I = none)
    (hmi : I ∉ F.mine) (hρ : I ∉ ρ) (ho : s.heap.get? I = some o) (hs : Src 0 o) (n : Nat) (hne : forG nxt t b n 0 σ ≠ .stuck) :
    wpAny (model K.prog K.w) F.A (runOwn (.forLoop target (.ref I) body [] F.env) F.env) (QO K F (FlRep K) (forG nxt t b n 0 σ) ρ₀ h₀) (EO K F (forG nxt t b n 0 σ) ρ₀ h₀) s := by
  refine wpAny_runOwn ?_
  refine codeAny_forLoopT (R := fun r s' => match r with | .ok f => QO K F (FlRep K) (forG nxt t b n 0 σ) ρ₀ h₀ f s' | .error e => cameBackBy (model K.prog K.w) F.A F.env (EO K F (forG nxt t b n 0 σ) ρ₀ h₀) e s')
    (fun k s' => ∃ σ₁ ρ' i o, Rel K F σ₁ ρ' s' ∧ forG nxt t b k i σ₁ = forG nxt t b n 0 σ ∧ Ext F.mine ρ₀ ρ' h₀ s'.heap ∧ I ∉ ρ' ∧ s'.heap.get? I = some o ∧ Src i o) ?_ n
    ⟨σ, ρ, 0, o, rel, rfl, x₀, hρ, ho, hs⟩
  generalize forG nxt t b n 0 σ = out at hne ⊢
  rintro k s₁ ⟨σ₁, ρ', i, o₁, rel₁, e₁, x₁, hρ₁, ho₁, hs₁⟩
  have note : ∀ {v : Value} {s' : Shared}, EO K F out ρ₀ h₀ v s' → notedBy (model K.prog K.w) F.A F.env (fun e s' => cameBackBy (model K.prog K.w) F.A F.env (EO K F out ρ₀ h₀) e s') v s' := by
    intro v s' hx
    obtain ⟨e, σ', ρ', e1, rel, ext, x⟩ := hx
    exact x.noted rel fun s'' rel' ext' x' => EO.back ⟨e, σ', ρ', e1, rel', ext.trans ext', x'⟩
  cases k with
  | zero => exact absurd e₁.symm hne
  | succ k =>
    rw [forG_succ] at e₁
    obtain ⟨vs₁, T₁, hd₁, hc₁, hT₁, hr₁⟩ := hI.1 i o₁ hs₁
    have hc₁' : o₁.cls ≠ .type "range" := by rw [hc₁]; exact fun e => hr₁ (by cases e; rfl)
    have hstep := hI.2.2 σ₁ ρ' s₁ i o₁ rel₁ x₁ ho₁ hs₁
    cases en : nxt σ₁ i with
    | none => rw [en] at e₁; exact absurd e₁.symm hne
    | some ov =>
      rw [en] at hstep e₁
      cases ov with
      | none =>
        refine wpAny_mono hstep (fun r s₂ h => ?_) fun _ _ h => h.elim
        obtain ⟨rfl, hx, hg, hos⟩ := h
        exact ⟨.next, σ₁, ρ', e₁.symm, rel₁.but hbase hmi ho₁ hd₁ hc₁' hx hg hos, x₁.but h0 ho₁ hd₁ hc₁' hx, rfl⟩
      | some v =>
        refine wpAny_mono hstep (fun r s₂ h => ?_) fun _ _ h => h.elim
        obtain ⟨w, rfl, hx, hg, hos, ⟨o₂, ho₂, hs₂⟩, rv⟩ := h
        have rel₂ := rel₁.but hbase hmi ho₁ hd₁ hc₁' hx hg hos
        have x₂ := x₁.but h0 ho₁ hd₁ hc₁' hx
        obtain ⟨vs₂, T₂, hd₂, hc₂, hT₂, hr₂⟩ := hI.1 (i + 1) o₂ hs₂
        refine owned_skip ho₂ hc₂ hT₂ ?_
        have hta := ht σ₁ ρ' s₂ v w rel₂ rv
        dsimp only at e₁
        cases et : t v σ₁ with
        | stuck => rw [et] at e₁; exact absurd e₁.symm hne
        | exc e σ₃ =>
          rw [et] at hta e₁
          refine wpAny_mono (hta.wp (by simp)) (fun a s' hq => ?_) fun v s' he => ?_
          · obtain ⟨_, _, _, e, _⟩ := hq; cases e
          · obtain ⟨e', σ', ρ'', e2, r1, r2, r3⟩ := he
            cases e2
            exact note ⟨e, σ₃, ρ'', e₁.symm, r1, x₂.trans r2, r3⟩
        | ok u σ₃ =>
          rw [et] at hta e₁
          refine wpAny_mono (hta.wp (by simp)) (fun a s₃ hq => ?_) fun v s' he => by obtain ⟨_, _, _, e, _⟩ := he; cases e
          obtain ⟨_, σ', ρ₃, e2, rel₃, x₃, _⟩ := hq
          cases e2
          dsimp only at e₁
          have hb' := hb σ₃ ρ₃ s₃ rel₃
          have x03 := x₂.trans x₃
          have hold : ∀ {ρ₂ ρ₃ : List Addr} {g g' : Heap} {oo : Obj}, Ext F.mine ρ₂ ρ₃ g g' → I ∉ ρ₂ → g.get? I = some oo → (∃ vs, oo.data = .fields vs) → g'.get? I = some oo ∧ I ∉ ρ₃ := by
            intro ρ₂ ρ₃ g g' oo x hn e ⟨vs, d⟩
            obtain ⟨o', e', l⟩ := x.keep I oo e hn hmi
            refine ⟨by rw [e', l.same (fun es n q => by rw [d] at q; cases q)], fun hin => ?_⟩
            rcases x.new I hin with q | q
            · exact hn q
            · rw [e] at q; cases q
          obtain ⟨ho₃, hρ₃⟩ := hold x₃ hρ₁ ho₂ ⟨_, hd₂⟩
          cases eb : b σ₃ with
          | stuck => rw [eb] at e₁; exact absurd e₁.symm hne
          | exc e σ₄ =>
            rw [eb] at hb' e₁
            refine wpAny_mono (hb'.wp (by simp)) (fun a s' hq => ?_) fun v s' he => ?_
            · obtain ⟨_, _, _, e, _⟩ := hq; cases e
            · obtain ⟨e', σ', ρ'', e2, r1, r2, r3⟩ := he
              cases e2
              exact note ⟨e, σ₄, ρ'', e₁.symm, r1, x03.trans r2, r3⟩
          | ok f σ₄ =>
            rw [eb] at hb' e₁
            refine wpAny_mono (hb'.wp (by simp)) (fun wf s₄ hq => ?_) fun v s' he => by obtain ⟨_, _, _, e, _⟩ := he; cases e
            obtain ⟨f', σ', ρ₄, e3, rel₄, x₄, rf⟩ := hq
            cases e3
            have x04 := x03.trans x₄
            obtain ⟨ho₄, hρ₄⟩ := hold x₄ hρ₃ ho₃ ⟨_, hd₂⟩
            cases f with
            | next => have : wf = .next := rf; subst this; exact ⟨k, Nat.lt_succ_self _, σ₄, ρ₄, i + 1, o₂, rel₄, e₁, x04, hρ₄, ho₄, hs₂⟩
            | cont => have : wf = .cont := rf; subst this; exact ⟨k, Nat.lt_succ_self _, σ₄, ρ₄, i + 1, o₂, rel₄, e₁, x04, hρ₄, ho₄, hs₂⟩
            | brk => have : wf = .brk := rf; subst this; exact ⟨.next, σ₄, ρ₄, e₁.symm, rel₄, x04, rfl⟩
            | ret v => obtain ⟨w, e, r⟩ := rf; subst e; exact ⟨.ret v, σ₄, ρ₄, e₁.symm, rel₄, x04, w, rfl, r⟩

end Mine


/-! part F6 -/
set_option autoImplicit false
set_option maxRecDepth 100000
set_option linter.unusedVariables false
open PySem PySem.W PyProof.Rows
namespace Mine

variable {K : Glo} {F : Frm}

theorem QO.up {α β : Type} {R : Heap → List Addr → β → α → Prop} {out : Res S β} {ρ ρ' : List Addr} {h h' : Heap} {a : α} {s : Shared} (x : Ext F.mine ρ ρ' h h') (q : QO K F R out ρ' h' a s) : QO K F R out ρ h a s := by
  obtain ⟨b, σ, ρ'', e, r1, r2, r3⟩ := q; exact ⟨b, σ, ρ'', e, r1, x.trans r2, r3⟩
theorem EO.up {β : Type} {out : Res S β} {ρ ρ' : List Addr} {h h' : Heap} {a : Value} {s : Shared} (x : Ext F.mine ρ ρ' h h') (q : EO K F out ρ' h' a s) : EO K F out ρ h a s := by
  obtain ⟨b, σ, ρ'', e, r1, r2, r3⟩ := q; exact ⟨b, σ, ρ'', e, r1, x.trans r2, r3⟩

theorem Run.bindWp {α β δ : Type} {t : Sem α} {R : Heap → List Addr → β → α → Prop} {m : M β} {k : β → M δ} {σ : S} {ρ : List Addr} {s : Shared} {P : α → Shared → Prop}
    (h1 : Run K F t R (m σ) ρ s) (hne : (m >>= k) σ ≠ .stuck)
    (h2 : ∀ b σ' ρ' s' a, m σ = .ok b σ' → (m >>= k) σ = k b σ' → Rel K F σ' ρ' s' → Ext F.mine ρ ρ' s.heap s'.heap → R s'.heap ρ' b a → P a s') :
    wpAny (model K.prog K.w) F.A t P (EO K F ((m >>= k) σ) ρ s.heap) s := by
  cases e : m σ with
  | stuck => exact absurd (by rw [M.bind_def, e]) hne
  | ok b σ' =>
    rw [e] at h1
    have e2 : (m >>= k) σ = k b σ' := M.bind_ok e
    exact wpAny_mono h1 (fun a s' ⟨ρ', r1, r2, r3⟩ => h2 b σ' ρ' s' a e e2 r1 r2 r3) fun _ _ h => h.elim
  | exc x σ' =>
    rw [e] at h1
    have e2 : (m >>= k) σ = .exc x σ' := by rw [M.bind_def, e]
    exact wpAny_mono h1 (fun _ _ h => h.elim) fun v s' ⟨ρ', r1, r2, r3⟩ => ⟨x, σ', ρ', e2, r1, r2, r3⟩

/-! ### what a call of a def does -/
def Room (A : Around) (n : Nat) : Prop := A.handled = none ∧ A.depth + n < recursionLimit ∧ A.units + 1000 + 10 * n < cLine
theorem Room.deeper {A : Around} {n : Nat} (r : Room A (n + 1)) (env : Env) : Room (A.deeper env) n := by
  obtain ⟨h1, h2, h3⟩ := r
  refine ⟨h1, ?_, ?_⟩
  · show A.depth + 1 + n < _; omega
  · show A.units + 3 + 1000 + 10 * n < _; omega
theorem Room.le {A : Around} {n k : Nat} (r : Room A n) (h : k ≤ n) : Room A k := ⟨r.1, by have := r.2.1; omega, by have := r.2.2; omega⟩

abbrev Fun := List V → Store → Res Store V

/-- an exception that has left a frame -/
def XOut (_K : Glo) (_A : Around) (_e : Exc) (_ρ : List Addr) (_v : Value) (_s : Shared) : Prop := False

def CallRes (K : Glo) (A : Around) (out : Res Store V) (ρ : List Addr) (h : Heap) : Result → Shared → Prop := fun r s' =>
  (∃ v st' w ρ', out = .ok v st' ∧ r = .ok (.ret w) ∧ GRel K st' ρ' s' ∧ Ext [] ρ ρ' h s'.heap ∧ Rep K s'.heap ρ' v w) ∨
  (∃ e st' w ρ', out = .exc e st' ∧ r = .error w ∧ GRel K st' ρ' s' ∧ Ext [] ρ ρ' h s'.heap ∧ XOut K A e ρ' w s')

def SimF (K : Glo) (lvl : Nat) (f : Value) (g : Fun) : Prop :=
  ∀ A, Room A lvl → ∀ st ρ s, GRel K st ρ s → ∀ vs ws, RepL K s.heap ρ vs ws → g vs st ≠ .stuck →
    codeAny (model K.prog K.w) A (.call f ⟨ws, []⟩) (CallRes K A (g vs st) ρ s.heap) s

def callF (g : Fun) (vs : List V) : M V := fun σ => match g vs σ.st with
  | .ok v st => .ok v { σ with st := st }
  | .exc e st => .exc e { σ with st := st }
  | .stuck => .stuck

theorem ext_of_nil {mine ρ ρ' : List Addr} {h h' : Heap} (x : Ext [] ρ ρ' h h') : Ext mine ρ ρ' h h' := ⟨x.pre, x.alive, x.new, fun b o e n1 _ => x.keep b o e n1 (by simp), x.froz⟩

/-- the caller's frame behind a call -/
theorem Rel.called {σ : S} {ρ ρ' : List Addr} {s s' : Shared} {st' : Store} (rel : Rel K F σ ρ s) (g : GRel K st' ρ' s') (x : Ext [] ρ ρ' s.heap s'.heap) (fk : FOk F) : Rel K F { σ with st := st' } ρ' s' := by
  have hns : ∀ {a : Addr} {m : Str → Option Value}, s.heap.Ns a m → a ∉ ρ → s'.heap.Ns a m := by
    intro a m n hn
    obtain ⟨o, es, ep, e, d, k, f⟩ := n
    obtain ⟨o', e', l⟩ := x.keep a o e hn (by simp)
    exact ⟨o', es, ep, e', l.data.1.trans d, k, f⟩
  have hnl : F.env.locals ∉ ρ := rel.mineApart _ rel.mineLoc
  have hcell : ∀ {c : Addr} {v : Option Value}, s.heap.IsCell c v → s'.heap.IsCell c v := by
    intro c v n
    have hn : c ∉ ρ := fun hc => by
      obtain ⟨it, hl⟩ := rel.toGRel.alive hc
      exact list_ne_cell hl n rfl
    obtain ⟨o, e, d⟩ := n
    obtain ⟨o', e', l⟩ := x.keep c o e hn (by simp)
    exact ⟨o', e', l.data.1.trans d⟩
  refine { toGRel := g, vars := ?_, loc := ?_, cels := ?_, mineAbove := ?_, mineApart := ?_, mineLoc := rel.mineLoc }
  · intro y v e
    obtain ⟨w, h1, h2⟩ := rel.vars y v e
    exact ⟨w, h1.mono (fun m n => hns n hnl) (fun c u _ n => hcell n), h2.mono x⟩
  · obtain ⟨m, n⟩ := rel.loc; exact ⟨m, hns n hnl⟩
  · intro y c e
    obtain ⟨v, n⟩ := rel.cels y c e; exact ⟨v, hcell n⟩
  · intro a ha
    obtain ⟨h1, o, h2⟩ := rel.mineAbove a ha
    obtain ⟨o', h3⟩ := x.alive a o h2
    exact ⟨h1, o', h3⟩
  · intro a ha hb
    rcases x.new a hb with h1 | h1
    · exact rel.mineApart a ha h1
    · obtain ⟨_, o, h2⟩ := rel.mineAbove a ha
      rw [h1] at h2; cases h2

theorem XOut.toX {A : Around} {e : Exc} {ρ : List Addr} {v : Value} {s : Shared} (x : XOut K A e ρ v s) : XRep K F e ρ v s := x.elim

theorem run_call (fk : FOk F) {f : Value} {g : Fun} {lvl : Nat} (hf : SimF K lvl f g) (hr : Room F.A lvl) {σ : S} {ρ : List Addr} {s : Shared} {vs : List V} {ws : List Value} (rel : Rel K F σ ρ s) (r : RepL K s.heap ρ vs ws) :
    Run K F (PySem.call f ws) (Rep K) (callF g vs σ) ρ s := by
  refine Run.of_wp fun hne => ?_
  have hne' : g vs σ.st ≠ .stuck := by
    intro e; apply hne; unfold callF; rw [e]
  refine wpAny_call (codeAny_mono (hf F.A hr σ.st ρ s rel.toGRel vs ws r hne') fun r s' h => ?_)
  rcases h with ⟨v, st', w, ρ', e, rfl, gr, x, rv⟩ | ⟨e, st', w, ρ', e1, rfl, gr, x, rv⟩
  · exact ⟨v, { σ with st := st' }, ρ', by unfold callF; rw [e], rel.called gr x fk, ext_of_nil x, rv⟩
  · exact ⟨e, { σ with st := st' }, ρ', by unfold callF; rw [e1], rel.called gr x fk, ext_of_nil x, rv.toX⟩

/-! ### a def's body -/
def bindP : List String → List V → String → Option V
  | x :: xs, v :: vs => fun y => if y = x then some v else bindP xs vs y
  | _, _ => fun _ => none
def funM (params : List String) (body : M Fl) : Fun := fun vs st =>
  if vs.length = params.length then
    match body ⟨st, bindP params vs⟩ with
    | .ok (.ret v) σ' => .ok v σ'.st
    | .ok _ σ' => .ok .none σ'.st
    | .exc e σ' => .exc e σ'.st
    | .stuck => .stuck
  else .stuck

theorem bindL_mem {kindOf : Str → Option NameKind} : ∀ (binds : List (Str × Value)) (m : Str → Option Value) {x : Str} {w : Value}, (binds.map (·.1)).Nodup → kindOf x = some .local →
    ((x, w) ∈ binds → bindL kindOf binds m x = some w) ∧ (x ∉ binds.map (·.1) → bindL kindOf binds m x = m x)
  | [], m, x, w, _, _ => ⟨fun h => by simp at h, fun _ => rfl⟩
  | (n, v) :: r, m, x, w, hn, hk => by
    obtain ⟨n1, n2⟩ := List.nodup_cons.mp hn
    refine ⟨fun h => ?_, fun h => ?_⟩
    · rcases List.mem_cons.mp h with h | h
      · cases h
        unfold bindL
        rw [(bindL_mem r _ (w := v) n2 hk).2 n1, if_pos hk]; simp
      · unfold bindL
        exact (bindL_mem r _ n2 hk).1 h
    · have h1 : x ≠ n := fun e => h (by simp [e])
      have h2 : x ∉ r.map (·.1) := fun e => h (List.mem_cons_of_mem _ e)
      unfold bindL
      rw [(bindL_mem r _ (w := w) n2 hk).2 h2]
      split
      · exact if_neg h1
      · rfl
theorem bindC_mem {kindOf : Str → Option NameKind} : ∀ (binds : List (Str × Value)) (m : Str → Option Value) {x : Str} {w : Value}, (binds.map (·.1)).Nodup → kindOf x ≠ some .local →
    ((x, w) ∈ binds → bindC kindOf binds m x = some w) ∧ (x ∉ binds.map (·.1) → bindC kindOf binds m x = m x)
  | [], m, x, w, _, _ => ⟨fun h => by simp at h, fun _ => rfl⟩
  | (n, v) :: r, m, x, w, hn, hk => by
    obtain ⟨n1, n2⟩ := List.nodup_cons.mp hn
    refine ⟨fun h => ?_, fun h => ?_⟩
    · rcases List.mem_cons.mp h with h | h
      · cases h
        unfold bindC
        rw [(bindC_mem r _ (w := v) n2 hk).2 n1, if_neg hk]; simp
      · unfold bindC
        exact (bindC_mem r _ n2 hk).1 h
    · have h1 : x ≠ n := fun e => h (by simp [e])
      have h2 : x ∉ r.map (·.1) := fun e => h (List.mem_cons_of_mem _ e)
      unfold bindC
      rw [(bindC_mem r _ (w := w) n2 hk).2 h2]
      split
      · rfl
      · exact if_neg h1

theorem bindP_mem : ∀ {ps : List String} {vs : List V} {ws : List Value} {h : Heap} {ρ : List Addr} {x : String} {v : V}, RepL K h ρ vs ws → bindP ps vs x = some v →
    ∃ w, (Str.ofString x, w) ∈ (ps.map Str.ofString).zip ws ∧ Rep K h ρ v w
  | [], vs, ws, h, ρ, x, v, _, e => by simp [bindP] at e
  | p :: ps, [], ws, h, ρ, x, v, _, e => by simp [bindP] at e
  | p :: ps, u :: vs, ws, h, ρ, x, v, r, e => by
    obtain ⟨w, ws', rfl, r1, r2⟩ := RepL.cons_iff.mp r
    unfold bindP at e
    by_cases hx : x = p
    · rw [if_pos hx] at e; cases e; subst hx
      exact ⟨w, by simp, r1⟩
    · rw [if_neg hx] at e
      obtain ⟨w', h1, h2⟩ := bindP_mem r2 e
      exact ⟨w', by simp only [List.map_cons, List.zip_cons_cons]; exact List.mem_cons_of_mem _ h1, h2⟩

/-- the def as it lies in the base -/
structure DefAt (K : Glo) (fa : Addr) (fd : FuncData) (body : List Stmt) : Prop where
  obj : ∃ o, K.base.get? fa = some o ∧ o.data = .func fd
  code : K.base.CodeRec fd.code fd.qualname
  body : fd.body = .stmts body
  clo : fd.closure = []
  glob : fd.globals = mainGlobals
  blt : fd.builtins = builtinsNs
  co : fd.scope.isCoroutine = false
  gen : fd.scope.isGenerator = false
  kind : fd.scope.kind = .function

theorem leave_x {e : Exc} {ρ : List Addr} {v : Value} {s : Shared} {σ : S} {A : Around} {Q : Unit → Shared → Prop} {E : Value → Shared → Prop} (x : XRep K F e ρ v s) :
    wpAny (model K.prog K.w) F.A (leaving F.env v) Q E s := x.elim

def cellAddrs (cells : List (Str × Addr)) : List Addr := cells.filterMap fun x => cells.lookup x.1
theorem mem_cellAddrs {cells : List (Str × Addr)} {c : Addr} (h : c ∈ cellAddrs cells) : ∃ n, cells.lookup n = some c := by
  obtain ⟨x, _, e⟩ := List.mem_filterMap.mp h; exact ⟨x.1, e⟩
theorem cellAddrs_of {cells : List (Str × Addr)} {x : Str} {c : Addr} (h : cells.lookup x = some c) : c ∈ cellAddrs cells :=
  List.mem_filterMap.mpr ⟨(x, c), mem_of_lookup h, h⟩
theorem cells_apart : ∀ (names : List (Str × NameKind)) (n : Nat) (acc : List (Str × Addr)), (acc.Pairwise fun x y => x.2 ≠ y.2) → (∀ p ∈ acc, p.2 < n) → ((cellsFrom n names acc).Pairwise fun x y => x.2 ≠ y.2)
  | [], n, acc, h, _ => h
  | (nm, k) :: r, n, acc, h, hlt => by
    unfold cellsFrom
    split
    · refine cells_apart r (n + 1) _ (List.pairwise_cons.mpr ⟨fun p hp => ?_, h⟩) ?_
      · exact fun e => absurd (hlt p hp) (by rw [← e]; exact Nat.lt_irrefl _)
      · intro p hp
        rcases List.mem_cons.mp hp with rfl | hp
        · exact Nat.lt_succ_self _
        · exact Nat.lt_succ_of_lt (hlt p hp)
    · exact cells_apart r n acc h hlt
theorem cell_inj {names : List (Str × NameKind)} {n : Nat} {x : Str} {c : Addr} (h : (cellsFrom n names []).lookup x = some c) : ∀ y, (cellsFrom n names []).lookup y = some c → y = x :=
  fun y hy => name_of_addr (cells_apart names n [] List.Pairwise.nil (by simp)) (mem_of_lookup hy) (mem_of_lookup h)

def defFrm (fd : FuncData) (L fa : Addr) (A : Around) : Frm := ⟨callEnvC fd L fa, A, L :: cellAddrs (cellsFrom (L + 1) fd.scope.names [])⟩

theorem simF_def {lvl : Nat} {fa : Addr} {fd : FuncData} {body : List Stmt} {params : List String} {mb : M Fl} (hd : DefAt K fa fd body)
    (hnd : params.Nodup)
    (hbind : ∀ ws : List Value, ws.length = params.length → bindArgs fd ⟨ws, []⟩ = pure ((params.map Str.ofString).zip ws))
    (hkind : ∀ n, ∀ x ∈ params, fd.scope.names.lookup (Str.ofString x) = some .local ∨ (fd.scope.names.lookup (Str.ofString x) = some .cell ∧ ((cellsFrom n fd.scope.names []).lookup (Str.ofString x)).isSome = true))
    (hb : ∀ L A, Room A lvl → SimSs K (defFrm fd L fa A) body mb) : SimF K (lvl + 1) (.ref fa) (funM params mb) := by
  intro A hroom st ρ s g vs ws r hne
  have hl : vs.length = params.length := by
    by_cases h : vs.length = params.length
    · exact h
    · exact absurd (by unfold funM; rw [if_neg h]) hne
  have hwl : ws.length = params.length := r.length.trans hl
  obtain ⟨o, ho, hdat⟩ := hd.obj
  have hmem : ∀ x ∈ (params.map Str.ofString).zip ws, ∃ p ∈ params, x.1 = Str.ofString p := by
    intro x hx
    have := (List.of_mem_zip (a := x.1) (b := x.2) hx).1
    obtain ⟨p, hp, e⟩ := List.mem_map.mp this
    exact ⟨p, hp, e.symm⟩
  have hnd' : (((params.map Str.ofString).zip ws).map (·.1)).Nodup := by
    rw [List.map_fst_zip (by simp [hwl])]
    have inj : ∀ l : List String, l.Nodup → (l.map Str.ofString).Nodup := by
      intro l
      induction l with
      | nil => intro _; exact List.nodup_nil
      | cons a l ih =>
        intro hn
        obtain ⟨a1, a2⟩ := List.nodup_cons.mp hn
        refine List.nodup_cons.mpr ⟨fun hm => ?_, ih a2⟩
        obtain ⟨b, hb, e⟩ := List.mem_map.mp hm
        exact a1 (ofString_inj e ▸ hb)
    exact inj params hnd
  refine codeAny_call_cells (fd := fd) (binds := (params.map Str.ofString).zip ws) (by have := hroom.2.1; omega) (g.base fa o ho) hdat (K.top.nolimit.keeps g.base) (hd.code.keeps g.base) hd.body (hbind ws hwl) hd.clo ?_ ?_ hd.co hd.gen hd.kind
  · intro x hx
    obtain ⟨p, hp, e⟩ := hmem x hx
    rw [e]; exact hkind _ p hp
  · intro s₁ X
    have hkeep := X.toInCall.keep
    obtain ⟨h₁, tk, rfl, _⟩ := X.done
    have hLfresh := X.toInCall.fresh
    have fresh : ∀ {a : Addr}, s.heap.objs.size ≤ a → s.heap.get? a = none := fun ha => Heap.get?_none_of_le ha
    have fbase : ∀ {a : Addr}, s.heap.get? a = none → K.base.get? a = none := by
      intro a ha
      cases e : K.base.get? a with
      | none => rfl
      | some o' => have := g.base a o' e; rw [ha] at this; cases this
    have hmineFresh : ∀ a ∈ (defFrm fd s.heap.objs.size fa (A.deeper (callEnvC fd s.heap.objs.size fa))).mine, s.heap.get? a = none ∧ ∃ o', h₁.get? a = some o' := by
      intro a ha
      rcases List.mem_cons.mp ha with rfl | ha
      · obtain ⟨o', _, _, e, _⟩ := X.toInCall.ns
        exact ⟨fresh hLfresh, o', e⟩
      · obtain ⟨n, hn⟩ := mem_cellAddrs ha
        have h1 := X.above n a (mem_of_lookup hn)
        obtain ⟨o', e, _⟩ := X.cell n a hn
        exact ⟨fresh (Nat.le_of_lt (Nat.lt_of_le_of_lt hLfresh h1)), o', e⟩
    have rel : Rel K (defFrm fd s.heap.objs.size fa (A.deeper (callEnvC fd s.heap.objs.size fa))) ⟨st, bindP params vs⟩ ρ { s with heap := h₁, toks := tk } := by
      refine { toGRel := g.kept hkeep rfl rfl, vars := ?_, loc := ⟨_, X.toInCall.ns⟩, cels := fun x c e => ⟨_, X.cell x c e⟩, mineAbove := ?_, mineApart := ?_, mineLoc := List.mem_cons_self }
      · intro x v e
        obtain ⟨w, h1, h2⟩ := bindP_mem r e
        refine ⟨w, ?_, Rep.mono' (List.prefix_refl _) (kept_tup hkeep) h2⟩
        obtain ⟨p, hp, ep⟩ := hmem _ h1
        have hx : x = p := ofString_inj ep
        subst hx
        rcases hkind (s.heap.objs.size + 1) x hp with hk | ⟨hk, hk2⟩
        · exact .inl ⟨hk, _, X.toInCall.ns, (bindL_mem _ _ hnd' hk).1 h1⟩
        · obtain ⟨c, hc⟩ := Option.isSome_iff_exists.mp hk2
          refine .inr ⟨.inl hk, c, hc, ?_⟩
          have hnl : (callEnvC fd s.heap.objs.size fa).kindOf (Str.ofString x) ≠ some .local := by
            show fd.scope.names.lookup (Str.ofString x) ≠ some .local
            rw [hk]; decide
          have := X.cell _ c hc
          rw [(bindC_mem _ _ hnd' hnl).1 h1] at this
          exact this
      · intro a ha
        obtain ⟨h1, h2⟩ := hmineFresh a ha
        exact ⟨fbase h1, h2⟩
      · intro a ha hb
        obtain ⟨h1, _⟩ := hmineFresh a ha
        obtain ⟨it, o', e, _⟩ := g.alive hb
        rw [h1] at e; cases e
    have hrun := hb s.heap.objs.size (A.deeper (callEnvC fd s.heap.objs.size fa)) (hroom.deeper _) _ ρ _ rel
    have up : ∀ {ρ' : List Addr} {h' : Heap}, Ext (defFrm fd s.heap.objs.size fa (A.deeper (callEnvC fd s.heap.objs.size fa))).mine ρ ρ' h₁ h' → Ext [] ρ ρ' s.heap h' := by
      intro ρ' h' x
      refine ⟨x.pre, fun b o' e => x.alive b o' (hkeep b o' e), fun a ha => ?_, fun b o' e n1 _ => x.keep b o' (hkeep b o' e) n1 (fun hm => ?_), fun b o' e f => x.froz b o' (hkeep b o' e) f⟩
      · rcases x.new a ha with h1 | h1
        · exact .inl h1
        · refine .inr ?_
          cases e : s.heap.get? a with
          | none => rfl
          | some o' => have := hkeep a o' e; rw [h1] at this; cases this
      · have := (hmineFresh b hm).1
        rw [e] at this; cases this
    have hout : funM params mb vs st = (match mb ⟨st, bindP params vs⟩ with
      | .ok (.ret v) σ' => .ok v σ'.st
      | .ok _ σ' => .ok .none σ'.st
      | .exc e σ' => .exc e σ'.st
      | .stuck => .stuck) := by unfold funM; rw [if_pos hl]
    cases em : mb ⟨st, bindP params vs⟩ with
    | stuck => rw [em] at hout; exact absurd hout hne
    | exc e σ' =>
      rw [em] at hrun
      exact wpAny_mono hrun (fun _ _ h => h.elim) fun v s' ⟨ρ', _, _, x⟩ => leave_x (K := K) (F := defFrm fd s.heap.objs.size fa (A.deeper (callEnvC fd s.heap.objs.size fa))) (σ := σ') (A := A) x
    | ok f σ' =>
      rw [em] at hrun hout
      refine wpAny_mono hrun (fun wf s' ⟨ρ', rel', x', rf⟩ => ?_) fun _ _ h => h.elim
      cases f with
      | ret v =>
        obtain ⟨w, rfl, rw'⟩ := rf
        exact .inl ⟨v, σ'.st, w, ρ', hout, rfl, rel'.toGRel, up x', rw'⟩
      | next => have : wf = .next := rf; subst this; exact .inl ⟨.none, σ'.st, .none, ρ', hout, rfl, rel'.toGRel, up x', Rep.none⟩
      | brk => have : wf = .brk := rf; subst this; exact .inl ⟨.none, σ'.st, .none, ρ', hout, rfl, rel'.toGRel, up x', Rep.none⟩
      | cont => have : wf = .cont := rf; subst this; exact .inl ⟨.none, σ'.st, .none, ρ', hout, rfl, rel'.toGRel, up x', Rep.none⟩

end Mine


/-! part F7 -/
set_option autoImplicit false
set_option maxRecDepth 100000
set_option linter.unusedVariables false
open PySem PySem.W PyProof.Rows
namespace Mine

variable {K : Glo} {F : Frm}

theorem wp_global {A : Around} {s : Shared} {σ : S} {ρ : List Addr} {x : Str} {pos : Pos} {v : Value} {Q : Value → Shared → Prop} {E : Value → Shared → Prop} (fk : FOk F) (rel : Rel K F σ ρ s) (hx : F.env.kindOf x = some .globalImplicit)
    (hg : K.mg x = some v) (h : Q v s) (hd : (x == ("__debug__" : Str)) = false := by decide) : wpAny (model K.prog K.w) A (eval (.Name x pos) F.env) Q E s :=
  Calls.Name_function_global fk.kind hx (Calls.loadGlobal_global (mg := K.mg) (by rw [fk.glob]; exact K.top.g.keeps rel.base) hg h) hd

theorem wp_builtin {A : Around} {s : Shared} {σ : S} {ρ : List Addr} {x : Str} {pos : Pos} {v : Value} {Q : Value → Shared → Prop} {E : Value → Shared → Prop} (fk : FOk F) (rel : Rel K F σ ρ s) (hx : F.env.kindOf x = some .globalImplicit)
    (hm : K.mg x = none) (hb : bootBuiltins x = some v) (h : Q v s) (hn : x ≠ "__name__" := by decide) (hd : (x == ("__debug__" : Str)) = false := by decide) : wpAny (model K.prog K.w) A (eval (.Name x pos) F.env) Q E s :=
  Calls.Name_function_global fk.kind hx (Calls.loadGlobal_builtin (mg := K.mg) (mb := K.mb) (by rw [fk.glob]; exact K.top.g.keeps rel.base) hm (by rw [fk.blt]; exact K.top.b.keeps rel.base) ((K.top.builtins x hn).trans hb) h) hd

theorem backTo_any (pos : Pos) (l : List (Bool × Sem Value)) : (backTo pos l).any (·.1) = l.any (·.1) := by
  unfold backTo; rw [List.any_map]; rfl

theorem wp_evalArgs {A : Around} {M : Model} {E : Value → Shared → Prop} {s : Shared} {f : Value} {args : List (Bool × Sem Value)} {Q : Args → Shared → Prop} (hpl : args.any (·.1) = false)
    (h : wpAny M A (spliced args) (fun vs s' => Q ⟨vs, []⟩ s') E s) : wpAny M A (evalArgs f true args []) Q E s := by
  cases args with
  | nil =>
    unfold evalArgs
    show wpAny M A (spliced [] >>= _) Q E s
    refine wpAny_bind (wpAny_mono h (fun vs s' h' => wpAny_bind (wpAny_pure (wpAny_holding ?_))) fun _ _ e => e)
    exact wpAny_bind (wpAny_pure (wpAny_bind (wpAny_pure (wpAny_pure h'))))
  | cons a r =>
    obtain ⟨b, x⟩ := a
    have : b = false := by
      rw [List.any_cons] at hpl
      cases b <;> simp_all
    subst this
    exact Calls.evalArgs_plain h

theorem eval_CallName (x : Str) (np pos : Pos) (args : List Expr) (env : Env) : eval (.Call (.Name x np) args [] pos) env = (do callWith pos (← eval (.Name x np) env) [] (backTo pos (starEach args env)) []) := rfl

/-- a call of a def of the text -/
theorem simE_callDef (fk : FOk F) {x : String} {np pos : Pos} {args : List Expr} {ms : M (List V)} {fa : Addr} {fd : FuncData} {body : List Stmt} {g : Fun} {lvl : Nat}
    (hx : F.env.kindOf (Str.ofString x) = some .globalImplicit) (hg : K.mg (Str.ofString x) = some (.ref fa)) (hd : DefAt K fa fd body) (hf : SimF K lvl (.ref fa) g) (hr : Room F.A lvl) (hs : SimEs K F args ms)
    (hpl : (starEach args F.env).any (·.1) = false := by rfl) (hdb : (Str.ofString x == ("__debug__" : Str)) = false := by decide) :
    SimE K F (.Call (.Name (Str.ofString x) np) args [] pos) (do let vs ← ms; callF g vs) := by
  intro σ ρ s rel
  refine Run.of_wp fun hne => ?_
  rw [eval_CallName]
  refine wpAny_bind (wp_global fk rel hx hg ?_ hdb)
  obtain ⟨o, ho, hdat⟩ := hd.obj
  refine Calls.callWith_function (o := o) (fd := fd) (wp_evalArgs (by rw [backTo_any]; exact hpl) ?_)
  refine Run.bindWp (hs pos σ ρ s rel) hne fun vs σ' ρ' s' ws e1 e2 rel' x' rv => ⟨⟨rel'.base _ _ ho, hdat⟩, ?_⟩
  rw [e2] at hne ⊢
  exact wpAny_mono ((run_call fk hf hr rel' rv).wp hne) (fun _ _ q => q.up x') fun _ _ q => q.up x'

/-- a built-in, or a type, called -/
def BuiltOk (K : Glo) (f : Value) (g : List V → M V) : Prop :=
  ∀ F : Frm, FOk F → ∀ σ ρ s vs ws, Rel K F σ ρ s → RepL K s.heap ρ vs ws → Run K F (PySem.call f ws) (Rep K) (g vs σ) ρ s

def isBT : Value → Bool
  | .builtin _ => true
  | .type _ => true
  | _ => false

theorem wp_callWith {A : Around} {M : Model} {E : Value → Shared → Prop} {s : Shared} {pos : Pos} {f : Value} {first : List Value} {args : List (Bool × Sem Value)} {Q : Value → Shared → Prop} (hf : isBT f = true) (hpl : args.any (·.1) = false)
    (h : wpAny M A (spliced args) (fun vs s₁ => wpAny M A (PySem.call f (first ++ vs)) Q E s₁) E s) : wpAny M A (callWith pos f first args []) Q E s := by
  cases f with
  | builtin id => exact Calls.callWith_builtin hpl (wp_evalArgs hpl h)
  | type T => exact PyProof.Rows.callWith_type hpl (wp_evalArgs hpl h)
  | _ => cases hf

theorem simE_callB (fk : FOk F) {x : String} {np pos : Pos} {args : List Expr} {ms : M (List V)} {f : Value} {g : List V → M V} (hf : isBT f = true)
    (hx : F.env.kindOf (Str.ofString x) = some .globalImplicit) (hm : K.mg (Str.ofString x) = none) (hb : bootBuiltins (Str.ofString x) = some f) (ho : BuiltOk K f g) (hs : SimEs K F args ms)
    (hpl : (starEach args F.env).any (·.1) = false := by rfl) (hn : Str.ofString x ≠ "__name__" := by decide) (hdb : (Str.ofString x == ("__debug__" : Str)) = false := by decide) :
    SimE K F (.Call (.Name (Str.ofString x) np) args [] pos) (do let vs ← ms; g vs) := by
  intro σ ρ s rel
  refine Run.of_wp fun hne => ?_
  rw [eval_CallName]
  refine wpAny_bind (wp_builtin fk rel hx hm hb ?_ hn hdb)
  refine wp_callWith hf (by rw [backTo_any]; exact hpl) ?_
  refine Run.bindWp (hs pos σ ρ s rel) hne fun vs σ' ρ' s' ws e1 e2 rel' x' rv => ?_
  rw [e2] at hne ⊢
  exact wpAny_mono ((ho F fk σ' ρ' s' vs ws rel' rv).wp hne) (fun _ _ q => q.up x') fun _ _ q => q.up x'

/-! ### methods of lists -/
def chkL : V → M Unit
  | .obj l => fun σ => match σ.st[l]? with
    | some (.lst _) => .ok () σ
    | _ => .stuck
  | _ => fun _ => .stuck

theorem chkL_ok {σ : S} {l : Nat} {us : List V} (h : σ.st[l]? = some (.lst us)) : chkL (.obj l) σ = .ok () σ := by
  show (match σ.st[l]? with | some (.lst _) => Res.ok () σ | _ => .stuck) = _
  rw [h]

def MethOk (K : Glo) (id : String) (g : V → List V → M V) : Prop :=
  ∀ F : Frm, FOk F → ∀ σ ρ s o wo vs ws, Rel K F σ ρ s → Rep K s.heap ρ o wo → RepL K s.heap ρ vs ws → Run K F (PySem.call (.builtin id) (wo :: ws)) (Rep K) (g o vs σ) ρ s

theorem Rel.list {σ : S} {ρ : List Addr} {s : Shared} {l : Nat} {w : Value} {vs : List V} (rel : Rel K F σ ρ s) (hr : Rep K s.heap ρ (.obj l) w) (hs : σ.st[l]? = some (.lst vs)) :
    ∃ a ws n, w = .ref a ∧ ρ[l]? = some a ∧ IsL s.heap a ws.toArray n ∧ RepL K s.heap ρ vs ws ∧ vs.length ≤ 1000000 := by
  obtain ⟨a, e, rfl⟩ := Rep.obj_iff.mp hr
  obtain ⟨h0, ws, n, h1, h2⟩ := rel.cell l a _ e hs
  exact ⟨a, ws, n, rfl, e, h1, h2, h0⟩

theorem simE_meth (fk : FOk F) {o : Expr} {name : String} {id : String} {apos pos : Pos} {args : List Expr} {mo : M V} {ms : M (List V)} {g : V → List V → M V} (hsl : Slot "list" (Str.ofString name) id)
    (hty : typeOf (.builtin id) = pure (.type "method_descriptor")) (ho : SimE K F o mo) (hs : SimEs K F args ms) (hm : MethOk K id g) {pl : Sem Bool}
    (he : eval (.Call (.Attribute o (Str.ofString name) apos) args [] pos) F.env = (do
      let ov ← eval o F.env
      standAt apos.atName
      let (f, first) ← holding [ov] (getMethod ov (Str.ofString name) pl)
      callWith pos f first (backTo pos (starEach args F.env)) []) := by rfl)
    (hpl : (starEach args F.env).any (·.1) = false := by rfl) :
    SimE K F (.Call (.Attribute o (Str.ofString name) apos) args [] pos) (do let ov ← mo; chkL ov; let vs ← ms; g ov vs) := by
  intro σ ρ s rel
  refine Run.of_wp fun hne => ?_
  refine MethodCall_ (pl := pl) ?_ he
  refine Run.bindWp (ho σ ρ s rel) hne fun ov σ₁ ρ₁ s₁ wo e1 e2 rel₁ x₁ ro => ?_
  rw [e2] at hne ⊢
  cases ov with
  | obj l =>
    cases hc : σ₁.st[l]? with
    | none => exact absurd (by rw [M.bind_def]; simp only [chkL, hc]) hne
    | some c =>
      cases c with
      | lst us =>
        obtain ⟨a, ws, n, rfl, hρ, hL, hr, _⟩ := rel₁.list ro hc
        have e3 : (chkL (.obj l) >>= fun _ => (ms >>= fun vs => g (.obj l) vs)) σ₁ = (ms >>= fun vs => g (.obj l) vs) σ₁ := M.bind_ok (chkL_ok hc)
        rw [e3] at hne ⊢
        refine getMethod_list_of hsl hty hL.isList ⟨_, hL, rfl⟩ ?_
        refine wp_callWith rfl (by rw [backTo_any]; exact hpl) ?_
        refine wpAny_mono (Run.bindWp (P := fun ws' s₂ => wpAny (model K.prog K.w) F.A (PySem.call (.builtin id) (.ref a :: ws')) (QO K F (Rep K) ((ms >>= fun vs => g (.obj l) vs) σ₁) ρ₁ s₁.heap) (EO K F ((ms >>= fun vs => g (.obj l) vs) σ₁) ρ₁ s₁.heap) s₂) (hs pos σ₁ ρ₁ s₁ rel₁) hne ?_) (fun _ _ q => ?_) (fun _ _ q => q.up x₁)
        · intro vs σ₂ ρ₂ s₂ ws₂ e4 e5 rel₂ x₂ rv
          rw [e5] at hne ⊢
          exact wpAny_mono ((hm F fk σ₂ ρ₂ s₂ (.obj l) (.ref a) vs ws₂ rel₂ (ro.mono x₂) rv).wp hne) (fun _ _ q => q.up x₂) fun _ _ q => q.up x₂
        · exact wpAny_mono q (fun _ _ q => q.up x₁) fun _ _ q => q.up x₁
  | _ => exact absurd (by rw [M.bind_def]; simp only [chkL]) hne

end Mine


/-! part F8 -/
set_option autoImplicit false
set_option maxRecDepth 100000
set_option linter.unusedVariables false
open PySem PySem.W PyProof.Rows
namespace Mine

variable {K : Glo} {F : Frm}

/-! ### items -/
def ix (n : Nat) (k : Int) : Option Nat := if 0 ≤ k then (if k.toNat < n then some k.toNat else none) else (if -(n : Int) ≤ k then some (k + n).toNat else none)

theorem ix_lt {n j : Nat} {k : Int} (h : ix n k = some j) : j < n := by
  unfold ix at h
  split at h
  · split at h
    · cases h; assumption
    · cases h
  · split at h
    · cases h; omega
    · cases h
theorem ix_seq {n j : Nat} {k : Int} (h : ix n k = some j) : seqIndex? k n = some j := by
  unfold ix at h
  unfold seqIndex?
  split at h
  · split at h
    · cases h
      have h1 : ¬ k < 0 := by omega
      simp only [h1, if_false]
      rw [if_pos (by simp only [Bool.and_eq_true, decide_eq_true_eq]; omega)]
    · cases h
  · split at h
    · cases h
      have h1 : k < 0 := by omega
      simp only [h1, if_true]
      rw [if_pos (by simp only [Bool.and_eq_true, decide_eq_true_eq]; omega)]
    · cases h
theorem ix_range {n j : Nat} {k : Int} (h : ix n k = some j) (hn : n ≤ 1000000) : -1000000 ≤ k ∧ k < 1000000 := by
  unfold ix at h
  split at h
  · split at h
    · omega
    · cases h
  · split at h
    · omega
    · cases h

def getI : V → V → M V
  | .obj l, .int k => fun σ => match σ.st[l]? with
    | some (.lst vs) => match ix vs.length k with
      | some j => match vs[j]? with
        | some v => .ok v σ
        | none => .stuck
      | none => .stuck
    | _ => .stuck
  | .tup vs, .int k => fun σ => match ix vs.length k with
    | some j => match vs[j]? with
      | some v => .ok v σ
      | none => .stuck
    | none => .stuck
  | _, _ => fun _ => .stuck

theorem wp_getItem_list {A : Around} {s : Shared} {a : Addr} {ws : List Value} {k : Int} {t : Tok} {j : Nat} {x : Value} {Q : Value → Shared → Prop} {E : Value → Shared → Prop} (hl : s.heap.IsList a ws.toArray) (hn : ws.length ≤ 1000000)
    (hk : ix ws.length k = some j) (hx : ws[j]? = some x) (h : Q x s) : wpAny (model K.prog K.w) A (getItem (.ref a) (.int k t)) Q E s := by
  have hr := ix_range hk hn
  by_cases h0 : 0 ≤ k
  · refine wpAny_getItem_list hl h0 (by omega) ?_ h
    unfold ix at hk
    rw [if_pos h0] at hk
    split at hk
    · cases hk; simpa using hx
    · cases hk
  · unfold ix at hk
    rw [if_neg h0] at hk
    split at hk
    · cases hk
      refine wpAny_getItem_list_neg hl (by omega) (by simpa using ‹_›) (by omega) ?_ h
      simpa using hx
    · cases hk

theorem run_getItem (fk : FOk F) {σ : S} {ρ : List Addr} {s : Shared} {a b : V} {wa wb : Value} (rel : Rel K F σ ρ s) (ra : Rep K s.heap ρ a wa) (rb : Rep K s.heap ρ b wb) {value slice : Expr}
    (hs : ∀ o i, subscripted slice false o i = PySem.operate [o, i] (getItem o i)) : Run K F (subscriptTail value slice wa wb) (Rep K) (getI a b σ) ρ s := by
  cases a with
  | obj l =>
    cases b with
    | int k =>
      obtain ⟨t, rfl⟩ := Rep.int_iff.mp rb
      unfold getI
      dsimp only
      cases hc : σ.st[l]? with
      | none => exact Run.stuck
      | some c =>
        cases c with
        | lst vs =>
          dsimp only
          obtain ⟨ad, ws, n, rfl, hρ, hL, hr, hn⟩ := rel.list ra hc
          cases hi : ix vs.length k with
          | none => exact Run.stuck
          | some j =>
            dsimp only
            cases hv : vs[j]? with
            | none => exact Run.stuck
            | some v =>
              obtain ⟨w, hw, rw'⟩ := hr.get? hv
              refine Run.ok (tail_any hL.isList.typeIs slot_list_getitem.lookup (wp_getItem_list hL.isList (by rw [hr.length]; exact hn) (by rw [hr.length]; exact hi) hw ?_) (hs _ _))
              exact ⟨ρ, rel, Ext.refl .., rw'⟩
    | _ => exact Run.stuck
  | tup vs =>
    cases b with
    | int k =>
      obtain ⟨t, rfl⟩ := Rep.int_iff.mp rb
      obtain ⟨hn, ad, ws, rfl, ht, hr⟩ := Rep.tup_iff.mp ra
      unfold getI
      dsimp only
      cases hi : ix vs.length k with
      | none => exact Run.stuck
      | some j =>
        dsimp only
        cases hv : vs[j]? with
        | none => exact Run.stuck
        | some v =>
          obtain ⟨w, hw, rw'⟩ := hr.get? hv
          have hrg := ix_range hi hn
          refine Run.ok (tail_any ht.typeIs slot_tuple_getitem.lookup (PyProof.Rows.getItem_tuple ht (by omega) (by omega) (j := j) (by rw [List.size_toArray, hr.length]; exact ix_seq hi) (by simpa using hw) ?_) (hs _ _))
          exact ⟨ρ, rel, Ext.refl .., rw'⟩
    | _ => exact Run.stuck
  | _ => cases b <;> exact Run.stuck

theorem simE_sub (fk : FOk F) {value slice : Expr} {mv mi : M V} (pos : Pos) (hv : SimE K F value mv) (hi : SimE K F slice mi)
    (hs : ∀ o i, subscripted slice false o i = PySem.operate [o, i] (getItem o i) := by intro _ _; rfl) :
    SimE K F (.Subscript value slice pos) (do let o ← mv; let i ← mi; getI o i) := by
  intro σ ρ s rel
  rw [eval_Subscript]
  refine Run.bind (hv σ ρ s rel) fun a σ₁ ρ₁ s₁ wa _ rel₁ x₁ ra => ?_
  refine Run.bind (Run.holding (hi σ₁ ρ₁ s₁ rel₁)) fun b σ₂ ρ₂ s₂ wb _ rel₂ x₂ rb => ?_
  exact Run.standAt (run_getItem fk rel₂ (ra.mono x₂) rb hs)

/-! ### an item is stored -/
theorem wp_setItem_list {A : Around} {s : Shared} {a : Addr} {items : Array Value} {n : Nat} {k : Int} {t : Tok} {v : Value} {Q : Unit → Shared → Prop} {E : Value → Shared → Prop} (hl : IsL s.heap a items n)
    (h0 : 0 ≤ k) (hfit : k < 2 ^ 63) (hn : k < items.size)
    (hQ : Q () { s with heap := s.heap.update a (Obj.mapSeq (·.setIfInBounds k.toNat v)) }) :
    wpAny (model K.prog K.w) A (setItem (.ref a) (.int k t) v) Q E s := by
  have hT : s.TypeIs (.ref a) "list" := ⟨_, hl, rfl⟩
  unfold setItem
  try with_reducible refine wpAny_holding ?_
  first | refine wpAny_bind (wpAny_pure ?_) | skip
  refine wpAny_bind (wpAny_sequenceKey hT (by decide) ?_)
  refine wpAny_bind (wpAny_callSpecial?_slot (name := Str.ofString "__setitem__") hT slot_list_setitem
    (wpAny_call_entry slot_list_setitem hT entry_list_setitem ?_ (args_list_setitem _ _ _)))
  show wpAny _ _ (Builtin.List.listSubscript? (.int k t) >>= _) _ _ s
  refine wpAny_bind (wpAny_listSubscript_int (fitsIndex_of h0 hfit) ?_)
  clear hfit
  obtain ⟨j, rfl⟩ := Int.eq_ofNat_of_zero_le h0
  have hj : j < items.size := by omega
  have hx' : items[j]? = some items[j] := Array.getElem?_eq_getElem hj
  show wpAny _ _ ((seqItemAt a j >>= fun r => pure (r.map (j, ·))) >>= _) _ _ s
  refine wpAny_bind (wpAny_bind (wpAny_seqItemAt hl rfl (wpAny_pure ?_)))
  rw [hx']
  show wpAny _ _ (setSeqItemAt a j v >>= _) _ _ s
  refine wpAny_bind (wpAny_setSeqItemAt hl rfl ?_)
  first
    | exact wpAny_bind (wpAny_pure (wpAny_pure ⟨.none, rfl, wpAny_pure hQ⟩))
    | exact wpAny_pure ⟨.none, rfl, wpAny_pure hQ⟩

def setI : V → V → V → M Unit
  | .obj l, .int k, v => fun σ => match σ.st[l]? with
    | some (.lst vs) => if l ≠ 0 ∧ 0 ≤ k ∧ k.toNat < vs.length then .ok () { σ with st := σ.st.set l (.lst (vs.set k.toNat v)) } else .stuck
    | _ => .stuck
  | _, _, _ => fun _ => .stuck

theorem run_setItem (fk : FOk F) {σ : S} {ρ : List Addr} {s : Shared} {a b v : V} {wa wb wv : Value} (rel : Rel K F σ ρ s) (ra : Rep K s.heap ρ a wa) (rb : Rep K s.heap ρ b wb) (rv : Rep K s.heap ρ v wv) :
    Run K F (setItem wa wb wv) URep (setI a b v σ) ρ s := by
  cases a with
  | obj l =>
    cases b with
    | int k =>
      obtain ⟨t, rfl⟩ := Rep.int_iff.mp rb
      unfold setI
      dsimp only
      cases hc : σ.st[l]? with
      | none => exact Run.stuck
      | some c =>
        cases c with
        | lst vs =>
          dsimp only
          obtain ⟨ad, ws, n, rfl, hρ, hL, hr, hn⟩ := rel.list ra hc
          by_cases hk : l ≠ 0 ∧ 0 ≤ k ∧ k.toNat < vs.length
          · rw [if_pos hk]
            obtain ⟨j, rfl⟩ := Int.eq_ofNat_of_zero_le hk.2.1
            have hj : j < vs.length := by simpa using hk.2.2
            refine Run.ok (wp_setItem_list hL hk.2.1 (by omega) (by rw [List.size_toArray, hr.length]; omega) ?_)
            obtain ⟨rel', x'⟩ := rel.upd (s' := { s with heap := s.heap.update ad (Obj.mapSeq (·.setIfInBounds j wv)) }) (vs := vs.set j v) (ws := ws.set j wv) (n := n) hρ hk.1 (Heap.SameBut.update ..) (by
              have := hL.update (·.setIfInBounds j wv)
              simpa using this) (hr.set j rv) (by simpa using hn) rfl rfl
            exact ⟨ρ, rel', x', trivial⟩
          · rw [if_neg hk]; exact Run.stuck
    | _ => exact Run.stuck
  | _ => exact Run.stuck

theorem assign_Sub (o i : Expr) (pos : Pos) (env : Env) (w : Value) : assign (.Subscript o i pos) env w = (do
    let ov ← holding [w] (eval o env)
    let iv ← holding [w, ov] (eval i env)
    standAt pos
    holding [w, ov, iv] (setItem ov iv w)
    release (match i with | .Slice _ _ none _ => [iv, w, ov] | _ => [w, ov, iv]) []) := rfl
theorem simT_sub (fk : FOk F) {o i : Expr} {mo mi : M V} (pos : Pos) (ho : SimE K F o mo) (hi : SimE K F i mi) : SimT K F (.Subscript o i pos) (fun v => do let a ← mo; let b ← mi; setI a b v) := by
  intro σ ρ s v w rel rv
  rw [assign_Sub]
  refine Run.bind (Run.holding (ho σ ρ s rel)) fun a σ₁ ρ₁ s₁ wa _ rel₁ x₁ ra => ?_
  refine Run.bind (Run.holding (hi σ₁ ρ₁ s₁ rel₁)) fun b σ₂ ρ₂ s₂ wb _ rel₂ x₂ rb => ?_
  refine Run.standAt ?_
  have key := run_setItem fk rel₂ (ra.mono x₂) rb ((rv.mono x₁).mono x₂)
  have e : setI a b v σ₂ = (setI a b v >>= fun u => (pure u : M Unit)) σ₂ := by
    rw [M.bind_def]; cases setI a b v σ₂ <;> rfl
  rw [e]
  refine Run.bind (Run.holding key) fun u σ₃ ρ₃ s₃ _ _ rel₃ x₃ _ => ?_
  exact Run.ok (wpAny_release ⟨ρ₃, rel₃, Ext.refl .., trivial⟩)

end Mine


/-! part F9 -/
set_option autoImplicit false
set_option maxRecDepth 100000
set_option linter.unusedVariables false
open PySem PySem.W PyProof.Rows
namespace Mine

variable {K : Glo} {F : Frm}

/-! ### values as data -/
def mapO {α β : Type} (f : α → Option β) : List α → Option (List β)
  | [] => some []
  | a :: r => match f a, mapO f r with
    | some b, some bs => some (b :: bs)
    | _, _ => none

def toD (st : Store) : Nat → V → Option PyData
  | 0, _ => none
  | n + 1, v => match v with
    | .none => some .none
    | .bool b => some (.bool b)
    | .int i => some (.int i)
    | .str x => if PySem.PyData.strOk x then some (.str x) else none
    | .tup vs => (mapO (toD st n) vs).map .tuple
    | .obj l => match st[l]? with
      | some (.lst vs) => (mapO (toD st n) vs).map .list
      | _ => none
    | _ => none

theorem mapO_cons {α β : Type} {f : α → Option β} {a : α} {r : List α} {l : List β} (h : mapO f (a :: r) = some l) : ∃ b bs, f a = some b ∧ mapO f r = some bs ∧ l = b :: bs := by
  unfold mapO at h
  cases h1 : f a with
  | none => rw [h1] at h; cases h
  | some b =>
    cases h2 : mapO f r with
    | none => rw [h1, h2] at h; cases h
    | some bs => rw [h1, h2] at h; cases h; exact ⟨b, bs, rfl, rfl, rfl⟩

theorem reads_all {h : Heap} {ρ : List Addr} {f : V → Option PyData} {n : Nat}
    (hf : ∀ v w d, f v = some d → Rep K h ρ v w → ∃ as, Reads h w d as ∧ d.canLay0 = true ∧ d.depth ≤ n) : ∀ (vs : List V) (ws : List Value) (ds : List PyData), mapO f vs = some ds → RepL K h ρ vs ws →
    ∃ as, ReadsAll h ws ds as ∧ PyData.canLayAll0 ds = true ∧ PyData.depthAll ds ≤ n
  | [], ws, ds, e, r => by
    unfold mapO at e; cases e
    rw [RepL.nil_iff.mp r]
    exact ⟨[], .nil, rfl, Nat.zero_le _⟩
  | v :: vs, ws, ds, e, r => by
    obtain ⟨b, bs, e1, e2, rfl⟩ := mapO_cons e
    obtain ⟨w, ws', rfl, r1, r2⟩ := RepL.cons_iff.mp r
    obtain ⟨as, q1, q2, q3⟩ := hf v w b e1 r1
    obtain ⟨as', p1, p2, p3⟩ := reads_all hf vs ws' bs e2 r2
    refine ⟨as ++ as', .cons q1 p1, ?_, ?_⟩
    · simp [PyData.canLayAll0, q2, p2]
    · simp [PyData.depthAll]; omega

theorem toD_reads {st : Store} {ρ : List Addr} {s : Shared} (g : GRel K st ρ s) : ∀ (n : Nat) (v : V) (w : Value) (d : PyData), toD st n v = some d → Rep K s.heap ρ v w →
    ∃ as, Reads s.heap w d as ∧ d.canLay0 = true ∧ d.depth ≤ n
  | 0, v, w, d, e, _ => by simp [toD] at e
  | n + 1, v, w, d, e, r => by
    cases v with
    | none => simp only [toD] at e; cases e; rw [Rep.none_iff.mp r]; exact ⟨[], .none, rfl, Nat.zero_le _⟩
    | bool b => simp only [toD] at e; cases e; rw [Rep.bool_iff.mp r]; exact ⟨[], .bool b, rfl, Nat.zero_le _⟩
    | int i => simp only [toD] at e; cases e; obtain ⟨t, rfl⟩ := Rep.int_iff.mp r; exact ⟨[], .int i t, rfl, Nat.zero_le _⟩
    | str x =>
      simp only [toD] at e
      split at e
      · cases e; obtain ⟨t, rfl⟩ := Rep.str_iff.mp r; exact ⟨[], .str x t, by assumption, Nat.zero_le _⟩
      · cases e
    | tup vs =>
      simp only [toD] at e
      cases em : mapO (toD st n) vs with
      | none => rw [em] at e; cases e
      | some ds =>
        rw [em] at e; cases e
        obtain ⟨_, a, ws, rfl, ⟨o, h1, h2, k, h3⟩, rl⟩ := Rep.tup_iff.mp r
        obtain ⟨as, q1, q2, q3⟩ := reads_all (K := K) (n := n) (fun v w d e r => toD_reads g n v w d e r) vs ws ds em rl
        exact ⟨as, .tuple h1 h2 h3 (by simpa using q1), q2, by simp [PyData.depth]; omega⟩
    | obj l =>
      simp only [toD] at e
      cases hc : st[l]? with
      | none => rw [hc] at e; cases e
      | some c =>
        cases c with
        | lst vs =>
          rw [hc] at e
          dsimp only at e
          cases em : mapO (toD st n) vs with
          | none => rw [em] at e; cases e
          | some ds =>
            rw [em] at e; cases e
            obtain ⟨a, hρ, rfl⟩ := Rep.obj_iff.mp r
            obtain ⟨_, ws, k, hL, rl⟩ := g.cell l a _ hρ hc
            obtain ⟨as, q1, q2, q3⟩ := reads_all (K := K) (n := n) (fun v w d e r => toD_reads g n v w d e r) vs ws ds em rl
            exact ⟨a :: as, .list hL rfl rfl (by simpa using q1), q2, by simp [PyData.depth]; omega⟩
    | fn x => simp [toD] at e
    | rng a b c => simp [toD] at e

def eqV (a b : V) : M V := fun σ => match toD σ.st 6 a, toD σ.st 6 b with
  | some d, some d' => .ok (.bool (PyData.eqv d d')) σ
  | _, _ => .stuck
def neV (a b : V) : M V := fun σ => match toD σ.st 6 a, toD σ.st 6 b with
  | some d, some d' => .ok (.bool (!PyData.eqv d d')) σ
  | _, _ => .stuck

theorem cmp_eq : CmpOk K .Eq eqV := by
  intro F fk σ ρ s a b wa wb rel ra rb
  unfold eqV
  cases e1 : toD σ.st 6 a with
  | none => exact Run.stuck
  | some d =>
    cases e2 : toD σ.st 6 b with
    | none => exact Run.stuck
    | some d' =>
      obtain ⟨as, r1, c1, p1⟩ := toD_reads rel.toGRel 6 a wa d e1 ra
      obtain ⟨bs, r2, c2, p2⟩ := toD_reads rel.toGRel 6 b wb d' e2 rb
      exact Run.ok (SeqAt.compareEq_reads r1 r2 c1 c2 (by have := fk.units; omega) ⟨ρ, rel, Ext.refl .., Rep.bool _⟩)
theorem cmp_ne : CmpOk K .NotEq neV := by
  intro F fk σ ρ s a b wa wb rel ra rb
  unfold neV
  cases e1 : toD σ.st 6 a with
  | none => exact Run.stuck
  | some d =>
    cases e2 : toD σ.st 6 b with
    | none => exact Run.stuck
    | some d' =>
      obtain ⟨as, r1, c1, p1⟩ := toD_reads rel.toGRel 6 a wa d e1 ra
      obtain ⟨bs, r2, c2, p2⟩ := toD_reads rel.toGRel 6 b wb d' e2 rb
      exact Run.ok (SeqAt.compareNe_reads r1 r2 c1 c2 (by have := fk.units; omega) ⟨ρ, rel, Ext.refl .., Rep.bool _⟩)

/-! ### is, is not, in, not in -/
def V.isNone : V → Bool
  | .none => true
  | _ => false
def isV : V → V → M V
  | v, .none => fun σ => .ok (.bool v.isNone) σ
  | .obj l, .obj k => fun σ => .ok (.bool (decide (l = k))) σ
  | _, _ => fun _ => .stuck
def isNotV : V → V → M V
  | v, .none => fun σ => .ok (.bool (!v.isNone)) σ
  | .obj l, .obj k => fun σ => .ok (.bool (!decide (l = k))) σ
  | _, _ => fun _ => .stuck

theorem rep_none_beq {h : Heap} {ρ : List Addr} {v : V} {w : Value} (r : Rep K h ρ v w) : (w == Value.none) = v.isNone := by
  cases v with
  | none => rw [Rep.none_iff.mp r]; rfl
  | bool b => rw [Rep.bool_iff.mp r]; rfl
  | int i => obtain ⟨t, rfl⟩ := Rep.int_iff.mp r; rfl
  | str x => obtain ⟨t, rfl⟩ := Rep.str_iff.mp r; rfl
  | tup vs => obtain ⟨_, a, ws, rfl, _⟩ := Rep.tup_iff.mp r; rfl
  | obj l => obtain ⟨a, _, rfl⟩ := Rep.obj_iff.mp r; rfl
  | fn x => simp only [Rep] at r; obtain ⟨_, a, rfl⟩ := r; rfl
  | rng a b c => obtain ⟨a, _, _, _, rfl, _⟩ := Rep.rng_iff.mp r; rfl

theorem cmp_is : CmpOk K .Is isV := by
  intro F fk σ ρ s a b wa wb rel ra rb
  cases b with
  | none =>
    rw [Rep.none_iff.mp rb]
    have e : isV a .none σ = .ok (.bool a.isNone) σ := by cases a <;> rfl
    rw [e]
    refine Run.ok (is_none ⟨ρ, rel, Ext.refl .., ?_⟩)
    rw [rep_none_beq ra]; exact Rep.bool _
  | obj k =>
    cases a with
    | obj l =>
      obtain ⟨x, hx, rfl⟩ := Rep.obj_iff.mp ra
      obtain ⟨y, hy, rfl⟩ := Rep.obj_iff.mp rb
      show Run K F _ (Rep K) (.ok (V.bool (decide (l = k))) σ) ρ s
      by_cases hlk : l = k
      · subst hlk
        rw [hx] at hy; cases hy
        refine Run.ok (wpAny_is_ref_self ⟨ρ, rel, Ext.refl .., ?_⟩)
        rw [decide_eq_true rfl]; exact Rep.bool _
      · have hne : x ≠ y := fun e => hlk (nodup_get rel.nodup (e ▸ hx) hy)
        obtain ⟨_, ox, ex, cx, _⟩ := rel.toGRel.alive (List.mem_of_getElem? hx)
        obtain ⟨_, oy, ey, cy, _⟩ := rel.toGRel.alive (List.mem_of_getElem? hy)
        refine Run.ok (wpAny_is_ref_other hne ex ey (by rw [cx]; decide) ⟨ρ, rel, Ext.refl .., ?_⟩)
        rw [decide_eq_false hlk]; exact Rep.bool _
    | _ => exact Run.stuck
  | _ => cases a <;> exact Run.stuck
theorem cmp_isNot : CmpOk K .IsNot isNotV := by
  intro F fk σ ρ s a b wa wb rel ra rb
  cases b with
  | none =>
    rw [Rep.none_iff.mp rb]
    have e : isNotV a .none σ = .ok (.bool (!a.isNone)) σ := by cases a <;> rfl
    rw [e]
    refine Run.ok (isNot_none ⟨ρ, rel, Ext.refl .., ?_⟩)
    rw [rep_none_beq ra]; exact Rep.bool _
  | obj k =>
    cases a with
    | obj l =>
      obtain ⟨x, hx, rfl⟩ := Rep.obj_iff.mp ra
      obtain ⟨y, hy, rfl⟩ := Rep.obj_iff.mp rb
      show Run K F _ (Rep K) (.ok (V.bool (!decide (l = k))) σ) ρ s
      by_cases hlk : l = k
      · subst hlk
        rw [hx] at hy; cases hy
        refine Run.ok (wpAny_isNot_ref_self ⟨ρ, rel, Ext.refl .., ?_⟩)
        rw [decide_eq_true rfl]; exact Rep.bool _
      · have hne : x ≠ y := fun e => hlk (nodup_get rel.nodup (e ▸ hx) hy)
        obtain ⟨_, ox, ex, cx, _⟩ := rel.toGRel.alive (List.mem_of_getElem? hx)
        obtain ⟨_, oy, ey, cy, _⟩ := rel.toGRel.alive (List.mem_of_getElem? hy)
        refine Run.ok (wpAny_isNot_ref_other hne ex ey (by rw [cx]; decide) ⟨ρ, rel, Ext.refl .., ?_⟩)
        rw [decide_eq_false hlk]; exact Rep.bool _
    | _ => exact Run.stuck
  | _ => cases a <;> exact Run.stuck

def inD (x : PyData) : PyData → Option Bool
  | .list xs => some (xs.any fun y => PyData.eqv y x)
  | .tuple xs => some (xs.any fun y => PyData.eqv y x)
  | _ => none
def inV (a b : V) : M V := fun σ => match toD σ.st 6 a, toD σ.st 6 b with
  | some d, some d' => match inD d d' with
    | some r => .ok (.bool r) σ
    | none => .stuck
  | _, _ => .stuck
def notInV (a b : V) : M V := fun σ => match toD σ.st 6 a, toD σ.st 6 b with
  | some d, some d' => match inD d d' with
    | some r => .ok (.bool (!r)) σ
    | none => .stuck
  | _, _ => .stuck
theorem cmp_in : CmpOk K .In inV := by
  intro F fk σ ρ s a b wa wb rel ra rb
  unfold inV
  cases e1 : toD σ.st 6 a with
  | none => exact Run.stuck
  | some d =>
    cases e2 : toD σ.st 6 b with
    | none => exact Run.stuck
    | some d' =>
      obtain ⟨as, r1, c1, p1⟩ := toD_reads rel.toGRel 6 a wa d e1 ra
      obtain ⟨bs, r2, c2, p2⟩ := toD_reads rel.toGRel 6 b wb d' e2 rb
      have hu := fk.units
      cases d' with
      | list xs => exact Run.ok (SeqAt.in_list_reads r2 r1 c2 c1 (by omega) ⟨ρ, rel, Ext.refl .., Rep.bool _⟩)
      | tuple xs => exact Run.ok (SeqAt.in_tuple_reads r2 r1 c2 c1 (by omega) ⟨ρ, rel, Ext.refl .., Rep.bool _⟩)
      | _ => exact Run.stuck
theorem cmp_notIn : CmpOk K .NotIn notInV := by
  intro F fk σ ρ s a b wa wb rel ra rb
  unfold notInV
  cases e1 : toD σ.st 6 a with
  | none => exact Run.stuck
  | some d =>
    cases e2 : toD σ.st 6 b with
    | none => exact Run.stuck
    | some d' =>
      obtain ⟨as, r1, c1, p1⟩ := toD_reads rel.toGRel 6 a wa d e1 ra
      obtain ⟨bs, r2, c2, p2⟩ := toD_reads rel.toGRel 6 b wb d' e2 rb
      have hu := fk.units
      cases d' with
      | list xs => exact Run.ok (SeqAt.notIn_list_reads r2 r1 c2 c1 (by omega) ⟨ρ, rel, Ext.refl .., Rep.bool _⟩)
      | tuple xs => exact Run.ok (SeqAt.notIn_tuple_reads r2 r1 c2 c1 (by omega) ⟨ρ, rel, Ext.refl .., Rep.bool _⟩)
      | _ => exact Run.stuck

/-! ### less than -/
mutual
def ltD : PyData → PyData → Option Bool
  | .int i, .int j => some (decide (i < j))
  | .tuple xs, .tuple ys => ltAll xs ys
  | .list xs, .list ys => ltAll xs ys
  | _, _ => none
def ltAll : List PyData → List PyData → Option Bool
  | [], [] => some false
  | [], _ :: _ => some true
  | _ :: _, [] => some false
  | x :: xs, y :: ys => if PyData.eqv x y then ltAll xs ys else ltD x y
end

end Mine


/-! part F10 -/
set_option autoImplicit false
set_option maxRecDepth 100000
set_option linter.unusedVariables false
open PySem PySem.W PyProof.Rows
namespace Mine

variable {K : Glo} {F : Frm}
open PySem.SeqAt PySem.MeetsSeq PySem.MeetsSeq3

def LtAt (A : Around) (s : Shared) (y x : Value) (b : Bool) : Prop :=
  ∀ (prog : Program) (w : World) (E : Value → Shared → Prop) (Q : Value → Shared → Prop), Q (.bool b) s → wpAny (model prog w) A (richCompare .Lt y x) Q E s

def LexAt (A : Around) (s : Shared) (fin : Bool) : List (Value × Value) → Bool → Prop
  | [], r => r = fin
  | (x, y) :: rest, r => ∃ e, EqAt A s x y e ∧ (if e = true then LexAt A s fin rest r else LtAt A s x y r)

theorem tuple_ltAt (l b : Addr) (items items2 : Array Value) (n n2 : Nat) (dd dd2 : Option Addr) (sl sl2 : Array (Option Value)) (r : Bool) :
    Meets (Builtin.«tuple.__lt__» ⟨[.ref l, .ref b], []⟩)
      (fun A R s => s.heap.get? l = some { cls := .type "tuple", dict := dd, data := .seq items n, slots := sl } ∧ s.heap.get? b = some { cls := .type "tuple", dict := dd2, data := .seq items2 n2, slots := sl2 } ∧
        LexAt A.in1 s (decide (items.size < items2.size)) (items.toList.zip items2.toList) r ∧ R (.ok (.ret (.bool r))) s) :=
  .of_wp fun prog w A R s h => by
    obtain ⟨hp, g, d, tk, os⟩ := s; obtain ⟨hl, hb, he, h⟩ := h
    have f2 := AutoSeq1.sub_tuple_tuple
    wp_walk using wpAny_loadPart' hl, wpAny_loadPart' hb, wpAny_forIn_list _ (fun rest b s' => b.1 = none ∧ s' = ⟨hp, g, d, tk, os⟩ ∧ LexAt A.in1 ⟨hp, g, d, tk, os⟩ (decide (items.size < items2.size)) rest r) _
    case turn =>
      rintro ⟨y, x⟩ rest b s' ⟨hb', rfl, e, he1, he2⟩
      refine wpAny_bind (he1 prog w _ _ ?_)
      cases e with
      | true =>
        simp only [if_true] at he2
        wp_walk
        exact ⟨rfl, rfl, he2⟩
      | false =>
        simp only [Bool.false_eq_true, if_false] at he2
        simp only [Bool.not_false, if_true]
        refine wpAny_bind (wpAny_rule (wpAny_bind (he2 prog w _ _ ?_)))
        wp_walk
        exact ⟨_, rfl, h⟩
    case fin =>
      rintro ⟨b1, b2⟩ s' ⟨hb', rfl, he'⟩
      simp only at hb'
      subst hb'
      wp_walk
      have : r = decide (items.size < items2.size) := he'
      refine ⟨_, rfl, ?_⟩
      rw [this] at h
      exact h
    case h => exact ⟨rfl, rfl, he⟩

theorem lt_loopAt (l b : Addr) (items items2 : Array Value) (n n2 : Nat) (dd dd2 : Option Addr) (sl sl2 : Array (Option Value)) (r : Bool) (k : Nat) :
    ∀ i : Nat, min items.size items2.size - i = k → Meets (Builtin.«list.__eq__.loop» ⟨[.ref l, .ref b, rawInt i, rawInt 0], []⟩)
      (fun A R s => s.heap.get? l = some { cls := .type "list", dict := dd, data := .seq items n, slots := sl } ∧ s.heap.get? b = some { cls := .type "list", dict := dd2, data := .seq items2 n2, slots := sl2 } ∧
        LexAt A.in1 s (decide (items.size < items2.size)) ((items.toList.zip items2.toList).drop i) r ∧ R (.ok (.ret (.bool r))) s) := by
  induction k with
  | zero =>
    intro i hk prog w A R s h
    obtain ⟨hp, g, d, tk, os⟩ := s; obtain ⟨hl, hb, he, h⟩ := h
    wp_walk using wpAny_loadPart' hl, wpAny_loadPart' hb
    have hd : (items.toList.zip items2.toList).drop i = [] := by simp; omega
    rw [hd] at he
    have hr : r = decide (items.size < items2.size) := he
    have hor : items[((i : Nat) : Int).toNat]? = none ∨ items2[((i : Nat) : Int).toNat]? = none := by
      simp; omega
    rw [hr] at h
    rcases hor with hi | hi
    · rw [hi]
      wp_walk using wpAny_loadPart' hl, wpAny_loadPart' hb
      exact h
    · rw [hi]
      cases items[((i : Nat) : Int).toNat]? <;> (wp_walk using wpAny_loadPart' hl, wpAny_loadPart' hb; exact h)
  | succ k ih =>
    intro i hk prog w A R s h
    obtain ⟨hp, g, d, tk, os⟩ := s; obtain ⟨hl, hb, he, h⟩ := h
    wp_walk using wpAny_loadPart' hl, wpAny_loadPart' hb
    have hlt : i < items.size := by omega
    have hlt2 : i < items2.size := by omega
    have hi1 : items[((i : Nat) : Int).toNat]? = some items[i] := by simp [hlt]
    have hi2 : items2[((i : Nat) : Int).toNat]? = some items2[i] := by simp [hlt2]
    have hd : (items.toList.zip items2.toList).drop i = (items[i], items2[i]) :: (items.toList.zip items2.toList).drop (i + 1) := by
      rw [List.drop_eq_getElem_cons (by simp; omega)]; simp
    have hc : ((i : Int) + 1) = ((i + 1 : Nat) : Int) := by push_cast; rfl
    rw [hd] at he
    obtain ⟨e, he1, he2⟩ := he
    rw [hi1, hi2]
    refine wpAny_bind (he1 prog w _ _ ?_)
    cases e with
    | true =>
      simp only [if_true] at he2
      wp_walk
      rw [hc]
      exact ⟨plainId_quiet plain_eq_loop _, codeAny_builtin entry_eq_loop (by
        rw [Around.under_plainId plain_eq_loop _]
        exact ih (i + 1) (by omega) prog w A R _ ⟨hl, hb, he2, h⟩)⟩
    | false =>
      simp only [Bool.false_eq_true, if_false] at he2 ⊢
      refine wpAny_bind (listItems_at hl rfl (wpAny_bind (listItems_at hb rfl ?_)))
      rw [hi1, hi2]
      refine wpAny_bind (he2 prog w _ _ ?_)
      wp_walk
      exact h

theorem list_ltAt (l b : Addr) (items items2 : Array Value) (n n2 : Nat) (dd dd2 : Option Addr) (sl sl2 : Array (Option Value)) (r : Bool) :
    Meets (Builtin.«list.__lt__» ⟨[.ref l, .ref b], []⟩)
      (fun A R s => s.heap.get? l = some { cls := .type "list", dict := dd, data := .seq items n, slots := sl } ∧ s.heap.get? b = some { cls := .type "list", dict := dd2, data := .seq items2 n2, slots := sl2 } ∧
        LexAt A.in1 s (decide (items.size < items2.size)) (items.toList.zip items2.toList) r ∧ R (.ok (.ret (.bool r))) s) := by
  intro prog w A R s h
  obtain ⟨hp, g, d, tk, os⟩ := s; obtain ⟨hl, hb, he, h⟩ := h
  have f3 := AutoSeq1.sub_list_list
  wp_walk using wpAny_loadPart' hl, wpAny_loadPart' hb
  exact ⟨plainId_quiet plain_eq_loop _, codeAny_builtin entry_eq_loop (by
    rw [Around.under_plainId plain_eq_loop _]
    exact lt_loopAt l b items items2 n n2 dd dd2 sl sl2 r _ 0 rfl prog w A R _ ⟨hl, hb, by simpa using he, h⟩)⟩

theorem LtAt.lists {A : Around} {s : Shared} {l b : Addr} {items items2 : Array Value} {r : Bool} (hl : s.heap.IsList l items) (hb : s.heap.IsList b items2) (hu : A.units < cLine)
    (he : LexAt A.in1 s (decide (items.size < items2.size)) (items.toList.zip items2.toList) r) : LtAt A s (.ref l) (.ref b) r := fun prog w E Q h => by
  obtain ⟨⟨cls, dd, data, sl⟩, ho, hc, n, hd⟩ := id hl
  obtain ⟨⟨cls2, dd2, data2, sl2⟩, ho2, hc2, n2, hd2⟩ := id hb
  simp only at hc hd hc2 hd2
  subst hc hd hc2 hd2
  exact richCompare_meets_room (op := .Lt) ⟨_, ho, rfl⟩ ⟨_, ho2, rfl⟩ PySem.F.slot_list_lt PySem.F.entry_list_lt (PySem.F.args_list_lt_2 _ _) (list_ltAt l b items items2 n n2 dd dd2 sl sl2 r)
    ⟨ho, ho2, he, show Value.bool r ≠ Value.notImplemented ∧ Q (.bool r) s from ⟨(fun x => nomatch x), h⟩⟩ hu
theorem LtAt.tuples {A : Around} {s : Shared} {l b : Addr} {items items2 : Array Value} {r : Bool} (hl : s.heap.IsTuple l items) (hb : s.heap.IsTuple b items2) (hu : A.units < cLine)
    (he : LexAt A.in1 s (decide (items.size < items2.size)) (items.toList.zip items2.toList) r) : LtAt A s (.ref l) (.ref b) r := fun prog w E Q h => by
  obtain ⟨⟨cls, dd, data, sl⟩, ho, hc, n, hd⟩ := id hl
  obtain ⟨⟨cls2, dd2, data2, sl2⟩, ho2, hc2, n2, hd2⟩ := id hb
  simp only at hc hd hc2 hd2
  subst hc hd hc2 hd2
  exact richCompare_meets_room (op := .Lt) ⟨_, ho, rfl⟩ ⟨_, ho2, rfl⟩ PySem.F.slot_tuple_lt PySem.F.entry_tuple_lt (PySem.F.args_tuple_lt_2 _ _) (tuple_ltAt l b items items2 n n2 dd dd2 sl sl2 r)
    ⟨ho, ho2, he, show Value.bool r ≠ Value.notImplemented ∧ Q (.bool r) s from ⟨(fun x => nomatch x), h⟩⟩ hu

mutual
theorem ltAt_reads : ∀ (da db : PyData) (A : Around) (s : Shared) (a b : Value) (as bs : List Addr) (r : Bool), Reads s.heap a da as → Reads s.heap b db bs → da.canLay0 = true → db.canLay0 = true →
    A.units + min da.depth db.depth < cLine → ltD da db = some r → LtAt A s a b r
  | .int i, db, A, s, a, b, as, bs, r, ra, rb, ha, hb, hu, e => by
    cases ra with
    | int _ t =>
      cases rb with
      | int j u =>
        simp only [ltD, Option.some.injEq] at e
        subst e
        exact fun prog w E Q h => lt_int h
      | _ => simp [ltD] at e
  | .tuple xs, db, A, s, a, b, as, bs, r, ra, rb, ha, hb, hu, e => by
    cases ra with
    | tuple h1 h2 h3 h4 =>
      cases rb with
      | tuple k1 k2 k3 k4 =>
        simp only [ltD] at e
        refine LtAt.tuples ⟨_, h1, h2, _, h3⟩ ⟨_, k1, k2, _, k3⟩ (room_here hu) ?_
        refine lexAt_reads _ _ _ _ _ _ _ _ r _ h4 k4 ha hb (room_in hu) e ?_
        rw [← Array.length_toList, ← Array.length_toList, ReadsAll.length _ _ _ h4, ReadsAll.length _ _ _ k4]
      | _ => simp [ltD] at e
  | .list xs, db, A, s, a, b, as, bs, r, ra, rb, ha, hb, hu, e => by
    cases ra with
    | list h1 h2 h3 h4 =>
      cases rb with
      | list k1 k2 k3 k4 =>
        simp only [ltD] at e
        refine LtAt.lists ⟨_, h1, h2, _, h3⟩ ⟨_, k1, k2, _, k3⟩ (room_here hu) ?_
        refine lexAt_reads _ _ _ _ _ _ _ _ r _ h4 k4 ha hb (room_in hu) e ?_
        rw [← Array.length_toList, ← Array.length_toList, ReadsAll.length _ _ _ h4, ReadsAll.length _ _ _ k4]
      | _ => simp [ltD] at e
  | .none, db, A, s, a, b, as, bs, r, ra, rb, ha, hb, hu, e => by cases db <;> simp [ltD] at e
  | .bool _, db, A, s, a, b, as, bs, r, ra, rb, ha, hb, hu, e => by cases db <;> simp [ltD] at e
  | .str _, db, A, s, a, b, as, bs, r, ra, rb, ha, hb, hu, e => by cases db <;> simp [ltD] at e
  | .dict _, db, A, s, a, b, as, bs, r, ra, rb, ha, hb, hu, e => by cases db <;> simp [ltD] at e
theorem lexAt_reads : ∀ (xs ys : List PyData) (A : Around) (s : Shared) (vs ws : List Value) (as bs : List Addr) (r fin : Bool), ReadsAll s.heap vs xs as → ReadsAll s.heap ws ys bs → PyData.canLayAll0 xs = true → PyData.canLayAll0 ys = true →
    A.units + min (PyData.depthAll xs) (PyData.depthAll ys) < cLine → ltAll xs ys = some r → fin = decide (xs.length < ys.length) → LexAt A s fin (vs.zip ws) r
  | [], ys, A, s, vs, ws, as, bs, r, fin, ra, rb, ha, hb, hu, e, hf => by
    cases ra
    subst hf
    cases ys with
    | nil => simp only [ltAll, Option.some.injEq] at e; subst e; rfl
    | cons y ys => simp only [ltAll, Option.some.injEq] at e; subst e; show true = _; simp
  | x :: xs, [], A, s, vs, ws, as, bs, r, fin, ra, rb, ha, hb, hu, e, hf => by
    cases rb
    subst hf
    simp only [ltAll, Option.some.injEq] at e; subst e
    rw [List.zip_nil_right]; show false = _; simp
  | x :: xs, y :: ys, A, s, vs, ws, as, bs, r, fin, ra, rb, ha, hb, hu, e, hf => by
    cases ra with
    | cons ra1 ra2 =>
      cases rb with
      | cons rb1 rb2 =>
        simp only [PyData.canLayAll0, Bool.and_eq_true] at ha hb
        have hu1 : A.units + min x.depth y.depth < cLine := room_head (by simpa [PyData.depthAll] using hu)
        have hu2 : A.units + min (PyData.depthAll xs) (PyData.depthAll ys) < cLine := room_tail (by simpa [PyData.depthAll] using hu)
        refine ⟨PyData.eqv x y, eqAt_reads x y A s _ _ _ _ ra1 rb1 ha.1 hb.1 hu1, ?_⟩
        simp only [ltAll] at e
        cases he : PyData.eqv x y with
        | true =>
          rw [he] at e
          simp only [if_true] at e ⊢
          exact lexAt_reads xs ys A s _ _ _ _ r fin ra2 rb2 ha.2 hb.2 hu2 e (by rw [hf]; simp)
        | false =>
          rw [he] at e
          simp only [Bool.false_eq_true, if_false] at e ⊢
          exact ltAt_reads x y A s _ _ _ _ r ra1 rb1 ha.1 hb.1 hu1 e
end

def ltV (a b : V) : M V := fun σ => match toD σ.st 6 a, toD σ.st 6 b with
  | some d, some d' => match ltD d d' with
    | some r => .ok (.bool r) σ
    | none => .stuck
  | _, _ => .stuck
theorem cmp_lt : CmpOk K .Lt ltV := by
  intro F fk σ ρ s a b wa wb rel ra rb
  unfold ltV
  cases e1 : toD σ.st 6 a with
  | none => exact Run.stuck
  | some d =>
    cases e2 : toD σ.st 6 b with
    | none => exact Run.stuck
    | some d' =>
      obtain ⟨as, r1, c1, p1⟩ := toD_reads rel.toGRel 6 a wa d e1 ra
      obtain ⟨bs, r2, c2, p2⟩ := toD_reads rel.toGRel 6 b wb d' e2 rb
      have hu := fk.units
      dsimp only
      cases e3 : ltD d d' with
      | none => exact Run.stuck
      | some r => exact Run.ok (ltAt_reads d d' F.A s wa wb as bs r r1 r2 c1 c2 (by omega) e3 K.prog K.w _ _ ⟨ρ, rel, Ext.refl .., Rep.bool _⟩)

end Mine


/-! part F11 -/
set_option autoImplicit false
set_option maxRecDepth 100000
set_option linter.unusedVariables false
open PySem PySem.W PyProof.Rows
namespace Mine

variable {K : Glo} {F : Frm}

/-! ### ints -/
def addV : V → V → M V
  | .int a, .int b => fun σ => .ok (.int (a + b)) σ
  | .obj l, .obj k => fun σ => match σ.st[l]?, σ.st[k]? with
    | some (.lst xs), some (.lst ys) => newL (xs ++ ys) σ
    | _, _ => .stuck
  | _, _ => fun _ => .stuck
def subV : V → V → M V
  | .int a, .int b => fun σ => .ok (.int (a - b)) σ
  | _, _ => fun _ => .stuck
def mulV : V → V → M V
  | .int a, .int b => fun σ => if -1000000000 < a ∧ a < 1000000000 then .ok (.int (a * b)) σ else .stuck
  | _, _ => fun _ => .stuck
def fdivV : V → V → M V
  | .int a, .int b => fun σ => if 0 < b ∧ b < 1000000000 then .ok (.int (a / b)) σ else .stuck
  | _, _ => fun _ => .stuck
def fmodV : V → V → M V
  | .int a, .int b => fun σ => if 0 < b ∧ b < 1000000000 then .ok (.int (a % b)) σ else .stuck
  | _, _ => fun _ => .stuck
def shrV : V → V → M V
  | .int a, .int 1 => fun σ => if 0 ≤ a then .ok (.int (a / 2)) σ else .stuck
  | _, _ => fun _ => .stuck

theorem bin_add : BinOk K .Add addV := by
  intro F fk σ ρ s a b wa wb rel ra rb
  cases a with
  | int i =>
    cases b with
    | int j =>
      obtain ⟨t, rfl⟩ := Rep.int_iff.mp ra
      obtain ⟨u, rfl⟩ := Rep.int_iff.mp rb
      exact Run.ok (add_int ⟨ρ, rel.tok _, Ext.refl .., Rep.int ..⟩)
    | _ => exact Run.stuck
  | obj l =>
    cases b with
    | obj k =>
      unfold addV
      dsimp only
      cases hl : σ.st[l]? with
      | none => exact Run.stuck
      | some c =>
        cases c with
        | lst xs =>
          cases hk : σ.st[k]? with
          | none => exact Run.stuck
          | some c' =>
            cases c' with
            | lst ys =>
              dsimp only
              obtain ⟨x, ws, n, rfl, hρ, hL, hr, hn⟩ := rel.list ra hl
              obtain ⟨y, us, n', rfl, hρ', hL', hr', hn'⟩ := rel.list rb hk
              unfold newL
              by_cases hz : (xs ++ ys).length ≤ 1000000
              · rw [if_pos hz]
                obtain ⟨rel', x'⟩ := rel.newList (o := { cls := .type "list", data := .seq (ws ++ us).toArray }) rfl (hr.append hr') hz s.toks
                refine Run.ok (P.add_list hL hL' ?_ (sizeLine_ge (by simp only [List.size_toArray, hr.length, hr'.length]; simpa using hz)))
                rw [List.append_toArray]
                refine ⟨_, rel', x', Rep.obj_iff.mpr ⟨_, ?_, rfl⟩⟩
                rw [← rel.len, List.getElem?_concat_length]
              · rw [if_neg hz]; exact Run.stuck
    | _ => exact Run.stuck
  | _ => exact Run.stuck

theorem bin_sub : BinOk K .Sub subV := by
  intro F fk σ ρ s a b wa wb rel ra rb
  cases a with
  | int i =>
    cases b with
    | int j =>
      obtain ⟨t, rfl⟩ := Rep.int_iff.mp ra
      obtain ⟨u, rfl⟩ := Rep.int_iff.mp rb
      exact Run.ok (sub_int ⟨ρ, rel.tok _, Ext.refl .., Rep.int ..⟩)
    | _ => exact Run.stuck
  | _ => exact Run.stuck
theorem bin_mul : BinOk K .Mult mulV := by
  intro F fk σ ρ s a b wa wb rel ra rb
  cases a with
  | int i =>
    cases b with
    | int j =>
      obtain ⟨t, rfl⟩ := Rep.int_iff.mp ra
      obtain ⟨u, rfl⟩ := Rep.int_iff.mp rb
      unfold mulV
      dsimp only
      by_cases h : -1000000000 < i ∧ i < 1000000000
      · rw [if_pos h]
        exact Run.ok (mul_int ⟨ρ, rel.tok _, Ext.refl .., Rep.int ..⟩ (IntMulOk.of_left (intBits_le_64 (by omega) (by omega))))
      · rw [if_neg h]; exact Run.stuck
    | _ => exact Run.stuck
  | _ => exact Run.stuck
theorem fdiv_pos {a b : Int} (h : 0 < b) : a.fdiv b = a / b := Int.fdiv_eq_ediv_of_nonneg _ (Int.le_of_lt h)
theorem fmod_pos {a b : Int} (h : 0 < b) : a.fmod b = a % b := Int.fmod_eq_emod_of_nonneg _ (Int.le_of_lt h)
theorem bin_fdiv : BinOk K .FloorDiv fdivV := by
  intro F fk σ ρ s a b wa wb rel ra rb
  cases a with
  | int i =>
    cases b with
    | int j =>
      obtain ⟨t, rfl⟩ := Rep.int_iff.mp ra
      obtain ⟨u, rfl⟩ := Rep.int_iff.mp rb
      unfold fdivV
      dsimp only
      by_cases h : 0 < j ∧ j < 1000000000
      · rw [if_pos h]
        refine Run.ok (floordiv_int (Int.ne_of_gt h.1) ⟨ρ, rel.tok _, Ext.refl .., ?_⟩ (Or.inl (PyProof.noPylong_small (by omega))))
        rw [fdiv_pos h.1]; exact Rep.int ..
      · rw [if_neg h]; exact Run.stuck
    | _ => exact Run.stuck
  | _ => exact Run.stuck
theorem bin_fmod : BinOk K .Mod fmodV := by
  intro F fk σ ρ s a b wa wb rel ra rb
  cases a with
  | int i =>
    cases b with
    | int j =>
      obtain ⟨t, rfl⟩ := Rep.int_iff.mp ra
      obtain ⟨u, rfl⟩ := Rep.int_iff.mp rb
      unfold fmodV
      dsimp only
      by_cases h : 0 < j ∧ j < 1000000000
      · rw [if_pos h]
        refine Run.ok (mod_int' (Int.ne_of_gt h.1) ⟨ρ, rel.tok _, Ext.refl .., ?_⟩)
        rw [fmod_pos h.1]; exact Rep.int ..
      · rw [if_neg h]; exact Run.stuck
    | _ => exact Run.stuck
  | _ => exact Run.stuck
theorem bin_shr : BinOk K .RShift shrV := by
  intro F fk σ ρ s a b wa wb rel ra rb
  cases a with
  | int i =>
    cases b with
    | int j =>
      by_cases hj : j = 1
      · subst hj
        obtain ⟨t, rfl⟩ := Rep.int_iff.mp ra
        obtain ⟨u, rfl⟩ := Rep.int_iff.mp rb
        show Run K F _ (Rep K) (if 0 ≤ i then .ok (V.int (i / 2)) σ else .stuck) ρ s
        by_cases h : 0 ≤ i
        · rw [if_pos h]
          exact Run.ok (wpAny_rshift1_int h ⟨ρ, rel.tok _, Ext.refl .., Rep.int ..⟩)
        · rw [if_neg h]; exact Run.stuck
      · have : shrV (.int i) (.int j) = fun _ => .stuck := by
          unfold shrV; split
          · rename_i h1 h2; cases h2; exact absurd rfl hj
          · rfl
        rw [this]; exact Run.stuck
    | _ => exact Run.stuck
  | _ => exact Run.stuck

def negV : V → M V
  | .int a => fun σ => .ok (.int (-a)) σ
  | _ => fun _ => .stuck
theorem un_neg : UnOk K .USub negV := by
  intro F fk σ ρ s a wa rel ra
  cases a with
  | int i => obtain ⟨t, rfl⟩ := Rep.int_iff.mp ra; exact Run.ok (neg_int ⟨ρ, rel.tok _, Ext.refl .., Rep.int ..⟩)
  | _ => exact Run.stuck

def leV : V → V → M V
  | .int a, .int b => fun σ => .ok (.bool (decide (a ≤ b))) σ
  | _, _ => fun _ => .stuck
def gtV : V → V → M V
  | .int a, .int b => fun σ => .ok (.bool (decide (b < a))) σ
  | _, _ => fun _ => .stuck
def geV : V → V → M V
  | .int a, .int b => fun σ => .ok (.bool (decide (b ≤ a))) σ
  | _, _ => fun _ => .stuck
theorem cmp_le : CmpOk K .LtE leV := by
  intro F fk σ ρ s a b wa wb rel ra rb
  cases a with
  | int i =>
    cases b with
    | int j =>
      obtain ⟨t, rfl⟩ := Rep.int_iff.mp ra
      obtain ⟨u, rfl⟩ := Rep.int_iff.mp rb
      exact Run.ok (le_int ⟨ρ, rel, Ext.refl .., Rep.bool _⟩)
    | _ => exact Run.stuck
  | _ => exact Run.stuck
theorem cmp_gt : CmpOk K .Gt gtV := by
  intro F fk σ ρ s a b wa wb rel ra rb
  cases a with
  | int i =>
    cases b with
    | int j =>
      obtain ⟨t, rfl⟩ := Rep.int_iff.mp ra
      obtain ⟨u, rfl⟩ := Rep.int_iff.mp rb
      exact Run.ok (gt_int ⟨ρ, rel, Ext.refl .., Rep.bool _⟩)
    | _ => exact Run.stuck
  | _ => exact Run.stuck
theorem cmp_ge : CmpOk K .GtE geV := by
  intro F fk σ ρ s a b wa wb rel ra rb
  cases a with
  | int i =>
    cases b with
    | int j =>
      obtain ⟨t, rfl⟩ := Rep.int_iff.mp ra
      obtain ⟨u, rfl⟩ := Rep.int_iff.mp rb
      exact Run.ok (ge_int ⟨ρ, rel, Ext.refl .., Rep.bool _⟩)
    | _ => exact Run.stuck
  | _ => exact Run.stuck

/-! ### truth -/
def truV : V → M Bool
  | .bool b => fun σ => .ok b σ
  | .obj l => fun σ => match σ.st[l]? with
    | some (.lst vs) => .ok (!vs.isEmpty) σ
    | _ => .stuck
  | _ => fun _ => .stuck
theorem tru_ok : TruOk K truV := by
  intro F fk σ ρ s a wa rel ra
  cases a with
  | bool b => rw [Rep.bool_iff.mp ra]; exact Run.ok (wpAny_truthy_bool ⟨ρ, rel, Ext.refl .., rfl⟩)
  | obj l =>
    unfold truV
    dsimp only
    cases hl : σ.st[l]? with
    | none => exact Run.stuck
    | some c =>
      cases c with
      | lst xs =>
        obtain ⟨x, ws, n, rfl, hρ, hL, hr, hn⟩ := rel.list ra hl
        refine Run.ok (wpAny_truthy_list hL.isList (by rw [List.size_toArray, hr.length]; omega) ⟨ρ, rel.tok _, Ext.refl .., ?_⟩)
        show (!ws.toArray.isEmpty) = !xs.isEmpty
        have := hr.length
        cases ws <;> cases xs <;> simp_all
  | _ => exact Run.stuck

/-! ### built-ins -/
def lenB : List V → M V
  | [.obj l] => fun σ => match σ.st[l]? with
    | some (.lst vs) => .ok (.int vs.length) σ
    | _ => .stuck
  | _ => fun _ => .stuck
theorem built_len : BuiltOk K (.builtin "len") lenB := by
  intro F fk σ ρ s vs ws rel r
  unfold lenB
  split
  · obtain ⟨w, ws', rfl, r1, r2⟩ := RepL.cons_iff.mp r
    rw [RepL.nil_iff.mp r2]
    rename_i l
    cases hl : σ.st[l]? with
    | none => exact Run.stuck
    | some c =>
      cases c with
      | lst xs =>
        obtain ⟨x, ws, n, rfl, hρ, hL, hr, hn⟩ := rel.list r1 hl
        refine Run.ok (PySem.Calls.call_len_list hL.isList (by rw [List.size_toArray, hr.length]; omega) ⟨ρ, rel.tok _, Ext.refl .., ?_⟩)
        rw [List.size_toArray, hr.length]; exact Rep.int ..
  · exact Run.stuck

def absB : List V → M V
  | [.int a] => fun σ => .ok (.int (if a < 0 then -a else a)) σ
  | _ => fun _ => .stuck
theorem built_abs : BuiltOk K (.builtin "abs") absB := by
  intro F fk σ ρ s vs ws rel r
  unfold absB
  split
  · obtain ⟨w, ws', rfl, r1, r2⟩ := RepL.cons_iff.mp r
    rw [RepL.nil_iff.mp r2]
    obtain ⟨t, rfl⟩ := Rep.int_iff.mp r1
    exact Run.ok (call_abs_int fun u tk => ⟨ρ, rel.tok _, Ext.refl .., Rep.int ..⟩)
  · exact Run.stuck

end Mine


/-! part F12 -/
set_option autoImplicit false
set_option maxRecDepth 100000
set_option linter.unusedVariables false
open PySem PySem.W PyProof.Rows
namespace Mine

variable {K : Glo} {F : Frm}

/-! ### slices of lists -/
def SimO (K : Glo) (F : Frm) (e : Option Expr) (m : M V) : Prop := ∀ σ ρ s, Rel K F σ ρ s → Run K F (valueOrNone (evalOpt e F.env)) (Rep K) (m σ) ρ s
theorem simO_none : SimO K F none (pure .none) := fun _ _ _ rel => Run.pure rel Rep.none
theorem simO_some {e : Expr} {m : M V} (h : SimE K F e m) : SimO K F (some e) m := h

def SlRep (K : Glo) (h : Heap) (ρ : List Addr) (p : V × V × V) (w : Value) : Prop := ∃ ad va vb vc, w = .ref ad ∧ h.IsSliceOf ad va vb vc ∧ Rep K h ρ p.1 va ∧ Rep K h ρ p.2.1 vb ∧ Rep K h ρ p.2.2 vc

theorem run_Slice {lo hi st : Option Expr} {ml mh ms : M V} (p : Pos) (h1 : SimO K F lo ml) (h2 : SimO K F hi mh) (h3 : SimO K F st ms) {σ : S} {ρ : List Addr} {s : Shared} (rel : Rel K F σ ρ s) :
    Run K F (eval (.Slice lo hi st p) F.env) (SlRep K) ((do let a ← ml; let b ← mh; let c ← ms; pure (a, b, c) : M (V × V × V)) σ) ρ s := by
  show Run K F (do
    let l ← valueOrNone (evalOpt lo F.env)
    let u ← holding [l] (valueOrNone (evalOpt hi F.env))
    let s ← holding [l, u] (valueOrNone (evalOpt st F.env))
    newFields "slice" [l, u, s]) _ _ ρ s
  refine Run.bind (h1 σ ρ s rel) fun a σ₁ ρ₁ s₁ wa _ rel₁ x₁ ra => ?_
  refine Run.bind (Run.holding (h2 σ₁ ρ₁ s₁ rel₁)) fun b σ₂ ρ₂ s₂ wb _ rel₂ x₂ rb => ?_
  refine Run.bind (Run.holding (h3 σ₂ ρ₂ s₂ rel₂)) fun c σ₃ ρ₃ s₃ wc _ rel₃ x₃ rc => ?_
  have x' : Ext F.mine ρ₃ ρ₃ s₃.heap (s₃.heap.push { cls := .type "slice", data := .fields #[wa, wb, wc] }) := Ext.push _
  refine Run.ok (wpAny_newObj_type ⟨ρ₃, rel₃.push _ s₃.toks, x', ?_⟩)
  exact ⟨_, wa, wb, wc, rfl, Heap.IsSliceOf.new .., ((ra.mono x₂).mono x₃).mono x', (rb.mono x₃).mono x', rc.mono x'⟩

def partO : V → Option (Option Int)
  | .none => some none
  | .int i => some (some i)
  | _ => none
theorem partO_is {h : Heap} {ρ : List Addr} {v : V} {w : Value} {k : Option Int} (r : Rep K h ρ v w) (e : partO v = some k) : IsPart w k := by
  cases v with
  | none => rw [Rep.none_iff.mp r]; cases e; exact .none
  | int i => obtain ⟨t, rfl⟩ := Rep.int_iff.mp r; cases e; exact .int i t
  | _ => cases e

def pickV {α : Type} (vs : List α) (lo hi st : Option Int) : List α :=
  (sliceRange (sliceBounds lo hi st vs.length).1 (sliceBounds lo hi st vs.length).2.1 (sliceBounds lo hi st vs.length).2.2).filterMap (vs[·]?)

theorem pick_rep {h : Heap} {ρ : List Addr} {vs : List V} {ws : List Value} (r : RepL K h ρ vs ws) : ∀ (is : List Nat), RepL K h ρ (is.filterMap (vs[·]?)) (is.filterMap (ws[·]?))
  | [] => RepL.nil
  | i :: is => by
    rw [List.filterMap_cons, List.filterMap_cons]
    cases e : vs[i]? with
    | none =>
      have : ws[i]? = none := by
        rw [List.getElem?_eq_none_iff] at e ⊢
        rw [r.length]; exact e
      rw [this]
      exact pick_rep r is
    | some v =>
      obtain ⟨w, hw, q⟩ := r.get? e
      rw [hw]
      exact RepL.cons q (pick_rep r is)

theorem pickV_length {vs : List V} {ws : List Value} {h : Heap} {ρ : List Addr} (r : RepL K h ρ vs ws) (lo hi st : Option Int) : (pickV vs lo hi st).length ≤ vs.length := by
  have h1 := slicePick_size_le ws.toArray lo hi st
  have h2 : (pickV vs lo hi st).length = (slicePick ws.toArray lo hi st).size := by
    unfold slicePick
    rw [List.size_toArray]
    have := (pick_rep (K := K) r (sliceRange (sliceBounds lo hi st vs.length).1 (sliceBounds lo hi st vs.length).2.1 (sliceBounds lo hi st vs.length).2.2)).length
    rw [List.size_toArray, r.length]
    unfold pickV
    simp only [List.getElem?_toArray]
    exact this.symm
  rw [h2]
  refine Nat.le_trans h1 ?_
  rw [List.size_toArray, r.length]; exact Nat.le_refl _

def sliceV : V → V × V × V → M V
  | .obj l, (a, b, c) => fun σ => match σ.st[l]?, partO a, partO b, partO c with
    | some (.lst vs), some lo, some hi, some st => if st = some 0 then .stuck else .ok (.obj σ.st.length) { σ with st := σ.st ++ [.lst (pickV vs lo hi st)] }
    | _, _, _, _ => .stuck
  | _, _ => fun _ => .stuck

theorem simE_slice (fk : FOk F) {value : Expr} {lo hi st : Option Expr} {mv ml mh ms : M V} (p pos : Pos) (hv : SimE K F value mv) (h1 : SimO K F lo ml) (h2 : SimO K F hi mh) (h3 : SimO K F st ms) {ops : Value → Value → List Value}
    (hs : ∀ o i, subscripted (.Slice lo hi st p) false o i = PySem.operate (ops o i) (getItem o i) := by intro _ _; rfl) :
    SimE K F (.Subscript value (.Slice lo hi st p) pos) (do let o ← mv; let i ← (do let a ← ml; let b ← mh; let c ← ms; pure (a, b, c)); sliceV o i) := by
  intro σ ρ s rel
  rw [eval_Subscript]
  refine Run.bind (hv σ ρ s rel) fun a σ₁ ρ₁ s₁ wa _ rel₁ x₁ ra => ?_
  refine Run.bind (Run.holding (run_Slice p h1 h2 h3 rel₁)) fun b σ₂ ρ₂ s₂ wb _ rel₂ x₂ rb => ?_
  refine Run.standAt ?_
  show Run K F (subscriptTail value (.Slice lo hi st p) wa wb) (Rep K) (sliceV a b σ₂) ρ₂ s₂
  obtain ⟨b1, b2, b3⟩ := b
  obtain ⟨ad, va, vb, vc, rfl, hsl, r1, r2, r3⟩ := rb
  cases a with
  | obj l =>
    unfold sliceV
    dsimp only
    cases hl : σ₂.st[l]? with
    | none => exact Run.stuck
    | some c =>
      cases c with
      | lst vs =>
        cases e1 : partO b1 with
        | none => exact Run.stuck
        | some o1 =>
          cases e2 : partO b2 with
          | none => exact Run.stuck
          | some o2 =>
            cases e3 : partO b3 with
            | none => exact Run.stuck
            | some o3 =>
              dsimp only
              by_cases h0 : o3 = some 0
              · rw [if_pos h0]; exact Run.stuck
              · rw [if_neg h0]
                obtain ⟨x, ws, n, rfl, hρ, hL, hr, hn⟩ := rel₂.list (ra.mono x₂) hl
                have hlen := pickV_length hr o1 o2 o3
                have e : (slicePick ws.toArray o1 o2 o3) = ((sliceRange (sliceBounds o1 o2 o3 vs.length).1 (sliceBounds o1 o2 o3 vs.length).2.1 (sliceBounds o1 o2 o3 vs.length).2.2).filterMap (ws[·]?)).toArray := by
                  unfold slicePick
                  rw [List.size_toArray, hr.length]
                  simp only [List.getElem?_toArray]
                obtain ⟨rel', x'⟩ := rel₂.newList (o := { cls := .type "list", data := .seq (slicePick ws.toArray o1 o2 o3) }) (vs := pickV vs o1 o2 o3) (by rw [e]) (pick_rep hr _) (Nat.le_trans hlen hn) s₂.toks
                refine Run.ok (tail_any hL.isList.typeIs slot_list_getitem.lookup (wpAny_getItem_list_slice hL.isList hsl (partO_is r1 e1) (partO_is r2 e2) (partO_is r3 e3) h0 ?_ (sizeLine_ge (by rw [List.size_toArray, hr.length]; exact hn))) (hs _ _))
                refine ⟨_, rel', x', Rep.obj_iff.mpr ⟨_, ?_, rfl⟩⟩
                rw [← rel₂.len, List.getElem?_concat_length]
  | _ => exact Run.stuck

/-! ### methods of lists -/
def appendG : V → List V → M V
  | .obj l, [v] => fun σ => match σ.st[l]? with
    | some (.lst vs) => if l ≠ 0 ∧ vs.length < 1000000 then .ok .none { σ with st := σ.st.set l (.lst (vs ++ [v])) } else .stuck
    | _ => .stuck
  | _, _ => fun _ => .stuck
theorem meth_append : MethOk K "list.append" appendG := by
  intro F fk σ ρ s o wo vs ws rel ro r
  unfold appendG
  split
  · rename_i l v
    obtain ⟨w, ws', rfl, r1, r2⟩ := RepL.cons_iff.mp r
    rw [RepL.nil_iff.mp r2]
    cases hl : σ.st[l]? with
    | none => exact Run.stuck
    | some c =>
      cases c with
      | lst xs =>
        dsimp only
        obtain ⟨x, us, n, rfl, hρ, hL, hr, hn⟩ := rel.list ro hl
        by_cases hz : l ≠ 0 ∧ xs.length < 1000000
        · rw [if_pos hz]
          refine Run.ok (call_meets PySem.F.slot_list_append ⟨_, hL, rfl⟩ PySem.F.entry_list_append (PySem.F.args_list_append_2 _ _) (list_append x us.toArray n w (sizeLine_ge (by rw [List.size_toArray, hr.length]; exact hn))) ⟨hL, ?_⟩)
          obtain ⟨rel', x'⟩ := rel.upd (s' := { s with heap := s.heap.update x (Obj.mapSeq fun y => y.push w) }) (vs := xs ++ [v]) (ws := us ++ [w]) hρ hz.1 (Heap.SameBut.update ..) (by
            have := hL.update (fun y => y.push w)
            rw [List.push_toArray] at this
            exact this) (hr.append (RepL.cons r1 RepL.nil)) (by have := hz.2; simp; omega) rfl rfl
          exact ⟨ρ, rel', x', Rep.none⟩
        · rw [if_neg hz]; exact Run.stuck
  · exact Run.stuck

def popG : V → List V → M V
  | .obj l, [] => fun σ => if l = 0 then .stuck else match σ.st[l]? with
    | some (.lst vs) => match vs[vs.length - 1]? with
      | some v => .ok v { σ with st := σ.st.set l (.lst (vs.eraseIdx (vs.length - 1))) }
      | none => .stuck
    | _ => .stuck
  | .obj l, [.int k] => fun σ => if l = 0 then .stuck else match σ.st[l]? with
    | some (.lst vs) => match ix vs.length k with
      | some j => match vs[j]? with
        | some v => .ok v { σ with st := σ.st.set l (.lst (vs.eraseIdx j)) }
        | none => .stuck
      | none => .stuck
    | _ => .stuck
  | _, _ => fun _ => .stuck
theorem erase_toArray (us : List Value) (j : Nat) : us.toArray.eraseIdxIfInBounds j = (us.eraseIdx j).toArray := by
  by_cases h : j < us.length
  · unfold Array.eraseIdxIfInBounds
    rw [dif_pos (by simpa using h)]
    simp
  · unfold Array.eraseIdxIfInBounds
    rw [dif_neg (by simpa using h), List.eraseIdx_of_length_le (by omega)]
theorem meth_pop : MethOk K "list.pop" popG := by
  intro F fk σ ρ s o wo vs ws rel ro r
  unfold popG
  split
  · rename_i l
    rw [RepL.nil_iff.mp r]
    by_cases hl0 : l = 0
    · simp only [if_pos hl0]; exact Run.stuck
    simp only [if_neg hl0]
    cases hl : σ.st[l]? with
    | none => exact Run.stuck
    | some c =>
      cases c with
      | lst xs =>
        dsimp only
        obtain ⟨x, us, n, rfl, hρ, hL, hr, hn⟩ := rel.list ro hl
        cases hv : xs[xs.length - 1]? with
        | none => exact Run.stuck
        | some v =>
          obtain ⟨w, hw, rw'⟩ := hr.get? hv
          refine Run.ok (call_meets PySem.F.slot_list_pop ⟨_, hL, rfl⟩ PySem.F.entry_list_pop (PySem.F.args_list_pop_1 _) (PySem.MeetsSeq.list_pop_last x us.toArray n w (by simpa [hr.length] using hw) (sizeLine_ge (by rw [List.size_toArray, hr.length]; exact hn))) ⟨hL, ?_⟩)
          rw [List.size_toArray, hr.length]
          obtain ⟨rel', x'⟩ := rel.upd (s' := { s with heap := s.heap.update x (Obj.mapSeq fun y => y.eraseIdxIfInBounds (xs.length - 1)) }) (vs := xs.eraseIdx (xs.length - 1)) (ws := us.eraseIdx (xs.length - 1)) hρ hl0 (Heap.SameBut.update ..) (by
            have := hL.update (fun y => y.eraseIdxIfInBounds (xs.length - 1))
            rw [erase_toArray] at this
            exact this) (hr.eraseIdx _) (Nat.le_trans (List.length_eraseIdx_le ..) hn) rfl rfl
          exact ⟨ρ, rel', x', rw'.mono x'⟩
  · rename_i l k
    obtain ⟨w, ws', rfl, r1, r2⟩ := RepL.cons_iff.mp r
    rw [RepL.nil_iff.mp r2]
    obtain ⟨t, rfl⟩ := Rep.int_iff.mp r1
    by_cases hl0 : l = 0
    · simp only [if_pos hl0]; exact Run.stuck
    simp only [if_neg hl0]
    cases hl : σ.st[l]? with
    | none => exact Run.stuck
    | some c =>
      cases c with
      | lst xs =>
        dsimp only
        obtain ⟨x, us, n, rfl, hρ, hL, hr, hn⟩ := rel.list ro hl
        cases hi : ix xs.length k with
        | none => exact Run.stuck
        | some j =>
          dsimp only
          cases hv : xs[j]? with
          | none => exact Run.stuck
          | some v =>
            obtain ⟨w, hw, rw'⟩ := hr.get? hv
            have hrg := ix_range hi hn
            have hfit : Builtin.List.listFitsIndex k = true := by
              by_cases h0 : 0 ≤ k
              · exact fitsIndex_of h0 (by omega)
              · exact fitsIndex_neg (by omega) (by omega)
            refine Run.ok (call_meets PySem.F.slot_list_pop ⟨_, hL, rfl⟩ PySem.F.entry_list_pop (PySem.F.args_list_pop_2 _ _) (PySem.MeetsSeq.list_pop_at x us.toArray n k t j w hfit (by rw [List.size_toArray, hr.length]; exact ix_seq hi) (by simpa using hw) (sizeLine_ge (by rw [List.size_toArray, hr.length]; exact hn))) ⟨hL, ?_⟩)
            obtain ⟨rel', x'⟩ := rel.upd (s' := { s with heap := s.heap.update x (Obj.mapSeq fun y => y.eraseIdxIfInBounds j) }) (vs := xs.eraseIdx j) (ws := us.eraseIdx j) hρ hl0 (Heap.SameBut.update ..) (by
              have := hL.update (fun y => y.eraseIdxIfInBounds j)
              rw [erase_toArray] at this
              exact this) (hr.eraseIdx _) (Nat.le_trans (List.length_eraseIdx_le ..) hn) rfl rfl
            exact ⟨ρ, rel', x', rw'.mono x'⟩
  · exact Run.stuck

end Mine


/-! part F13 -/
set_option autoImplicit false
set_option maxRecDepth 100000
set_option linter.unusedVariables false
open PySem PySem.W PyProof.Rows
namespace Mine

variable {K : Glo} {F : Frm}

def rngLen (a b c : Int) : Nat := (Builtin.Range.rangeSize a b c).toNat
def nxtOf : V → S → Nat → Option (Option V)
  | .obj l => fun σ i => match σ.st[l]? with
    | some (.lst vs) => some vs[i]?
    | _ => none
  | .tup vs => fun _ i => some vs[i]?
  | .rng a b c => fun _ i => some (if i < rngLen a b c then some (.int (a + i * c)) else none)
  | _ => fun _ _ => none
def okIter : V → M Unit
  | .obj l => chkL (.obj l)
  | .tup _ => fun σ => .ok () σ
  | .rng a b c => fun σ => if Builtin.Range.small a b c = true then .ok () σ else .stuck
  | _ => fun _ => .stuck

theorem rangeSize_nonneg (a b c : Int) : 0 ≤ Builtin.Range.rangeSize a b c := by
  unfold Builtin.Range.rangeSize
  split
  · split
    · have := Int.ediv_nonneg (a := b - a - 1) (b := c) (by omega) (by omega); omega
    · omega
  · split
    · have := Int.ediv_nonneg (a := a - b - 1) (b := -c) (by omega) (by omega); omega
    · omega
theorem rngLen_eq (a b c : Int) : ((rngLen a b c : Nat) : Int) = Builtin.Range.rangeSize a b c := Int.toNat_of_nonneg (rangeSize_nonneg a b c)

theorem iter_list {ρ₀ : List Addr} {h₀ : Heap} {I a : Addr} {l : Nat} (fk : FOk F) (hρ : ρ₀[l]? = some a) :
    Iter K F I (fun i o => o.cls = .type "list_iterator" ∧ o.data = .fields #[.ref a, .int i 0]) (nxtOf (.obj l)) ρ₀ h₀ := by
  refine ⟨fun i o h => ⟨_, _, h.2, h.1, by decide, by decide⟩, fun i o s A Q E e h q => wpAny_pyIter_listiter ⟨o, e, h.1, h.2⟩ q, ?_⟩
  intro σ ρ s i o rel x ho hs
  have hρ' := getElem?_prefix x.pre hρ
  unfold nxtOf
  dsimp only
  cases hl : σ.st[l]? with
  | none => trivial
  | some c =>
    cases c with
    | lst vs =>
      dsimp only
      obtain ⟨_, ws, n, hL, hr⟩ := rel.cell l a _ hρ' hl
      cases hv : vs[i]? with
      | none =>
        have hw : ws.toArray[i]? = none := by
          have : ws[i]? = none := by rw [List.getElem?_eq_none_iff] at hv ⊢; rw [hr.length]; exact hv
          simpa using this
        exact wpAny_pyNext_list_end fk.hd ⟨o, ho, hs.1, hs.2⟩ hL.isList hw fun h' hx => ⟨rfl, hx, rfl, rfl⟩
      | some v =>
        obtain ⟨w, hw, q⟩ := hr.get? hv
        refine wpAny_pyNext_list_item ⟨o, ho, hs.1, hs.2⟩ hL.isList (by simpa using hw) fun h' hit hsb => ⟨w, rfl, hsb.extBut, rfl, rfl, ?_, ?_⟩
        · obtain ⟨o', e, c, d⟩ := hit; exact ⟨o', e, c, d⟩
        · refine Rep.mono' (List.prefix_refl _) (fun b o' e f => hsb.extBut b o' ?_ e) q
          exact hid_ne_froz ho hs.2 (by rw [hs.1]; decide) e f

theorem iter_range {ρ₀ : List Addr} {h₀ : Heap} {I : Addr} {a b c : Int} (fk : FOk F) :
    Iter K F I (fun i o => i ≤ rngLen a b c ∧ o = { cls := .type "range_iterator", dict := none, data := .fields #[rawInt (a + i * c), rawInt ((rngLen a b c : Int) - i), rawInt c], slots := #[] }) (nxtOf (.rng a b c)) ρ₀ h₀ := by
  refine ⟨fun i o h => by obtain ⟨_, rfl⟩ := h; exact ⟨_, _, rfl, rfl, by decide, by decide⟩, fun i o s A Q E e h q => by obtain ⟨_, rfl⟩ := h; exact wpAny_pyIter_rangeiter e q, ?_⟩
  intro σ ρ s i o rel x ho hs
  obtain ⟨hi, rfl⟩ := hs
  unfold nxtOf
  dsimp only
  by_cases hlt : i < rngLen a b c
  · rw [if_pos hlt]
    dsimp only
    refine wpAny_pyNext_range_item ho (by omega) fun h' hit hsb => ⟨_, rfl, hsb.extBut, rfl, rfl, ⟨_, hit, by omega, ?_⟩, Rep.int ..⟩
    have e1 : a + ((i + 1 : Nat) : Int) * c = a + (i : Int) * c + c := by rw [Int.natCast_add, Int.add_mul]; simp [Int.add_assoc]
    have e2 : ((rngLen a b c : Nat) : Int) - ((i + 1 : Nat) : Int) = (rngLen a b c : Int) - (i : Int) - 1 := by omega
    rw [e1, e2]
  · rw [if_neg hlt]
    dsimp only
    exact wpAny_pyNext_range_end fk.hd ho (by omega) fun h' hx => ⟨rfl, hx, rfl, rfl⟩

theorem iter_tuple {ρ₀ : List Addr} {h₀ : Heap} {I a : Addr} {vs : List V} {ws : List Value} (fk : FOk F) (ht : IsTup h₀ a ws.toArray) (hr : RepL K h₀ ρ₀ vs ws) :
    Iter K F I (fun i o => o.cls = .type "tuple_iterator" ∧ o.data = .fields #[.ref a, .int i 0]) (nxtOf (.tup vs)) ρ₀ h₀ := by
  refine ⟨fun i o h => ⟨_, _, h.2, h.1, by decide, by decide⟩, fun i o s A Q E e h q => wpAny_pyIter_tupleiter ⟨o, e, h.1, h.2⟩ q, ?_⟩
  intro σ ρ s i o rel x ho hs
  have ht' : s.heap.IsTuple a ws.toArray := by
    obtain ⟨o', e, c, n, d⟩ := ht
    exact ⟨o', x.froz a o' e (.inl ⟨c, _, n, d⟩), c, n, d⟩
  have hr' := hr.mono x
  unfold nxtOf
  dsimp only
  cases hv : vs[i]? with
  | none =>
    have hw : ws.toArray[i]? = none := by
      have : ws[i]? = none := by rw [List.getElem?_eq_none_iff] at hv ⊢; rw [hr.length]; exact hv
      simpa using this
    exact wpAny_pyNext_tuple_end fk.hd ⟨o, ho, hs.1, hs.2⟩ ht' hw fun h' hx => ⟨rfl, hx, rfl, rfl⟩
  | some v =>
    obtain ⟨w, hw, q⟩ := hr'.get? hv
    refine wpAny_pyNext_tuple_item ⟨o, ho, hs.1, hs.2⟩ ht' (by simpa using hw) fun h' hit hsb => ⟨w, rfl, hsb.extBut, rfl, rfl, ?_, ?_⟩
    · obtain ⟨o', e, c, d⟩ := hit; exact ⟨o', e, c, d⟩
    · refine Rep.mono' (List.prefix_refl _) (fun b o' e f => hsb.extBut b o' ?_ e) q
      exact hid_ne_froz ho hs.2 (by rw [hs.1]; decide) e f

theorem fresh_facts {σ : S} {ρ : List Addr} {s : Shared} (rel : Rel K F σ ρ s) : s.heap.get? s.heap.objs.size = none ∧ K.base.get? s.heap.objs.size = none ∧ s.heap.objs.size ∉ F.mine ∧ s.heap.objs.size ∉ ρ := by
  have h0 : s.heap.get? s.heap.objs.size = none := Heap.get?_none_of_le (Nat.le_refl _)
  refine ⟨h0, ?_, ?_, ?_⟩
  · cases e : K.base.get? s.heap.objs.size with
    | none => rfl
    | some o => have := rel.base _ _ e; rw [h0] at this; cases this
  · intro h
    obtain ⟨_, o, e⟩ := rel.mineAbove _ h
    rw [h0] at e; cases e
  · intro h
    obtain ⟨_, o, e, _⟩ := rel.toGRel.alive h
    rw [h0] at e; cases e

theorem simS_for (fk : FOk F) {target iter : Expr} {body : List Stmt} {mi : M V} {t : V → M Unit} {b : M Fl} (pos : Pos) (n : Nat) (hi : SimE K F iter mi) (ht : SimT K F target t) (hb : SimSs K F body b)
    (hs : ∀ x, foldedSetIterable iter F.env x = pure x := by intro _; rfl) :
    SimS K F (.For target iter body [] pos) (do let v ← mi; okIter v; forG (nxtOf v) t b n 0) := by
  intro σ ρ s rel
  rw [exec_For]
  refine Run.standAt (Run.bind (hi σ ρ s rel) fun v σ₁ ρ₁ s₁ w _ rel₁ x₁ rv => ?_)
  rw [hs w, pureBind]
  refine Run.standAt ?_
  refine Run.of_wp fun hne => ?_
  obtain ⟨f0, f1, f2, f3⟩ := fresh_facts rel₁
  have hok : okIter v σ₁ = .ok () σ₁ ∧ (okIter v >>= fun _ => forG (nxtOf v) t b n 0) σ₁ = forG (nxtOf v) t b n 0 σ₁ := by
    have : okIter v σ₁ = .ok () σ₁ := by
      cases v with
      | obj l =>
        show chkL (.obj l) σ₁ = _
        cases hc : σ₁.st[l]? with
        | none => exact absurd (by rw [M.bind_def]; simp only [okIter, chkL, hc]) hne
        | some c => cases c with | lst us => exact chkL_ok hc
      | tup vs => rfl
      | rng a b' c =>
        unfold okIter
        by_cases hsm : Builtin.Range.small a b' c = true
        · simp only [hsm, if_true]
        · exact absurd (by rw [M.bind_def]; simp only [okIter, hsm]; rfl) hne
      | _ => exact absurd (by rw [M.bind_def]; rfl) hne
    exact ⟨this, M.bind_ok this⟩
  rw [hok.2] at hne ⊢
  cases v with
  | obj l =>
    obtain ⟨a, hρ, rfl⟩ := Rep.obj_iff.mp rv
    obtain ⟨items, hL⟩ := rel₁.toGRel.alive (List.mem_of_getElem? hρ)
    refine wpAny_bind (wpAny_holding (wpAny_pyIter_list hL ?_))
    exact run_forLoop ht hb (iter_list fk hρ) (rel₁.push _ s₁.toks) (Ext.push _) f0 f1 f2 f3 (Heap.get?_push_size _ rfl) ⟨rfl, rfl⟩ n hne
  | tup vs =>
    obtain ⟨_, a, ws, rfl, htp, hr⟩ := Rep.tup_iff.mp rv
    refine wpAny_bind (wpAny_holding (wpAny_pyIter_tuple htp ?_))
    exact run_forLoop ht hb (iter_tuple fk htp hr) (rel₁.push _ s₁.toks) (Ext.push _) f0 f1 f2 f3 (Heap.get?_push_size _ rfl) ⟨rfl, rfl⟩ n hne
  | rng a b' c =>
    obtain ⟨r, t', u, v', rfl, hR⟩ := Rep.rng_iff.mp rv
    have hsm : Builtin.Range.small a b' c = true := by
      by_cases h : Builtin.Range.small a b' c = true
      · exact h
      · have := hok.1; simp only [okIter, h] at this; cases this
    refine wpAny_bind (wpAny_holding (wpAny_pyIter_range hR hsm ?_))
    refine run_forLoop ht hb (iter_range (a := a) (b := b') (c := c) fk) (rel₁.push _ s₁.toks) (Ext.push _) f0 f1 f2 f3 (Heap.get?_push_size _ rfl) ⟨Nat.zero_le _, ?_⟩ n hne
    rw [rngLen_eq]; simp
  | _ => cases hok.1

end Mine


/-! part F14 -/
set_option autoImplicit false
set_option maxRecDepth 100000
set_option linter.unusedVariables false
open PySem PySem.W PyProof.Rows
namespace Mine

variable {K : Glo} {F : Frm}

/-- what iter(v) makes -/
theorem wp_pyIter {σ : S} {ρ : List Addr} {s : Shared} {v : V} {w : Value} (rel : Rel K F σ ρ s) (rv : Rep K s.heap ρ v w) (hok : okIter v σ = .ok () σ) :
    ∃ (obj : Obj) (Src : Nat → Obj → Prop), Src 0 obj ∧ obj.isFreed = false ∧ (∀ F' : Frm, FOk F' → Iter K F' s.heap.objs.size Src (nxtOf v) ρ s.heap) ∧
      ∀ (A : Around) (Q : Value → Shared → Prop) (E : Value → Shared → Prop), Q (.ref s.heap.objs.size) { s with heap := s.heap.push obj } → wpAny (model K.prog K.w) A (pyIter w) Q E s := by
  cases v with
  | obj l =>
    obtain ⟨a, hρ, rfl⟩ := Rep.obj_iff.mp rv
    obtain ⟨items, hL⟩ := rel.toGRel.alive (List.mem_of_getElem? hρ)
    exact ⟨_, _, ⟨rfl, rfl⟩, rfl, fun F' fk => iter_list fk hρ, fun A Q E q => wpAny_pyIter_list hL q⟩
  | tup vs =>
    obtain ⟨_, a, ws, rfl, htp, hr⟩ := Rep.tup_iff.mp rv
    exact ⟨_, _, ⟨rfl, rfl⟩, rfl, fun F' fk => iter_tuple fk htp hr, fun A Q E q => wpAny_pyIter_tuple htp q⟩
  | rng a b c =>
    obtain ⟨r, t', u, v', rfl, hR⟩ := Rep.rng_iff.mp rv
    have hsm : Builtin.Range.small a b c = true := by
      by_cases h : Builtin.Range.small a b c = true
      · exact h
      · simp only [okIter, h] at hok; cases hok
    refine ⟨_, _, ⟨Nat.zero_le _, ?_⟩, rfl, fun F' fk => iter_range (a := a) (b := b) (c := c) fk, fun A Q E q => wpAny_pyIter_range hR hsm q⟩
    rw [rngLen_eq]; simp
  | _ => cases hok

/-- one turn of a comprehension's clause -/
def testSem (env : Env) : Option Expr → Sem Bool
  | none => pure true
  | some c => isTrue c env (eval c env)
def TurnOk (e : Expr) (d : Nat) (env : Env) (acc : Value) (target : Expr) (test : Option Expr) (inner : Sem Unit) : Prop :=
  ∀ (M : Model) (A : Around) (Q : PySem.Fin → Shared → Prop) (E : Value → Shared → Prop) (s : Shared) (it : Value),
    wpAny M A (pyNext it) (fun r s₁ => match r with
      | none => Q (.done .next) s₁
      | some v => wpAny M A (letOwnedTupleGo target it v) (fun _ s₂ => wpAny M A (assign target env v) (fun _ s₃ => wpAny M A (testSem env test) (fun ok s₄ =>
          if ok = true then wpAny M A inner (fun _ s₅ => Q (.again (.compLoop e d it acc env)) s₅) E s₄ else Q (.again (.compLoop e d it acc env)) s₄) E s₃) E s₂) E s₁) E s →
    wpAny M A (compTurn e d it acc env) Q E s

theorem ite_tt {P Q : Prop} : (if true = true then P else Q) ↔ P := by simp
def emitL (elt : Expr) (env : Env) (acc : Value) : Sem Unit := do let _ ← call (.builtin "list.append") [acc, ← eval elt env]

def nestL (e : Expr) (d : Nat) (iter : Expr) (env : Env) (acc : Value) : Sem Unit := do
  let x ← eval iter env
  standAt iter.pos
  let x ← foldedSetIterable iter env x
  let it ← holding [x] (pyIter x)
  let _ ← runOwn (.compStart e (d + 1) it acc env) env

theorem wp_ifs {M : Model} {A : Around} {E : Value → Shared → Prop} {s : Shared} {env : Env} {P : Bool → Shared → Prop} (ifs : List Expr) (test : Option Expr) (ht : ifs = test.toList) (h : wpAny M A (testSem env test) P E s) :
    wpAny M A (forIn ifs true fun c __s => if __s = true then do let ok ← isTrue c env (eval c env); pure (ForInStep.yield ok) else pure (ForInStep.yield __s)) P E s := by
  subst ht
  cases test with
  | none => exact h
  | some c =>
    show wpAny M A (forIn [c] true _) P E s
    rw [List.forIn_cons]
    refine wpAny_bind ?_
    rw [if_pos rfl]
    refine wpAny_bind (wpAny_mono h (fun b s' hb => wpAny_pure ?_) fun _ _ e => e)
    dsimp only
    rw [List.forIn_nil]
    exact wpAny_pure hb

theorem turn_end {gens : List Comprehension} {d : Nat} {elt target iter : Expr} {ifs : List Expr} {test : Option Expr} {scope : Scope} {pos : Pos} {env : Env} {acc : Value} (hg : gens[d]? = some ⟨target, iter, ifs, 0⟩) (hn : gens[d + 1]? = none) (ht : ifs = test.toList) :
    TurnOk (.ListComp elt gens scope pos) d env acc target test (emitL elt env acc) := by
  intro M A Q E s it h
  unfold compTurn
  simp only [hg]
  refine wpAny_bind (wpAny_standAt (wpAny_bind ?_))
  refine wpAny_mono h (fun r s₁ h₁ => ?_) fun _ _ e => e
  cases r with
  | none => exact wpAny_pure h₁
  | some v =>
    refine wpAny_bind (wpAny_mono h₁ (fun _ s₂ h₂ => wpAny_bind (wpAny_mono h₂ (fun _ s₃ h₃ => ?_) fun _ _ e => e)) fun _ _ e => e)
    refine wpAny_bind (wp_ifs ifs test ht (wpAny_mono h₃ (fun ok s₄ h₄ => ?_) fun _ _ e => e))
    cases ok with
    | true =>
      simp only [if_true] at h₄ ⊢
      rw [hn]
      exact wpAny_bind (wpAny_mono h₄ (fun _ s₅ h₅ => wpAny_pure h₅) fun _ _ e => e)
    | false =>
      simp only [Bool.false_eq_true, if_false] at h₄ ⊢
      exact wpAny_pure h₄

theorem turn_nest {gens : List Comprehension} {d : Nat} {elt target iter t2 iter2 : Expr} {ifs ifs2 : List Expr} {test : Option Expr} {scope : Scope} {pos : Pos} {env : Env} {acc : Value} (hg : gens[d]? = some ⟨target, iter, ifs, 0⟩) (hn : gens[d + 1]? = some ⟨t2, iter2, ifs2, 0⟩) (ht : ifs = test.toList) :
    TurnOk (.ListComp elt gens scope pos) d env acc target test (nestL (.ListComp elt gens scope pos) d iter2 env acc) := by
  intro M A Q E s it h
  unfold compTurn
  simp only [hg]
  refine wpAny_bind (wpAny_standAt (wpAny_bind ?_))
  refine wpAny_mono h (fun r s₁ h₁ => ?_) fun _ _ e => e
  cases r with
  | none => exact wpAny_pure h₁
  | some v =>
    refine wpAny_bind (wpAny_mono h₁ (fun _ s₂ h₂ => wpAny_bind (wpAny_mono h₂ (fun _ s₃ h₃ => ?_) fun _ _ e => e)) fun _ _ e => e)
    refine wpAny_bind (wp_ifs ifs test ht (wpAny_mono h₃ (fun ok s₄ h₄ => ?_) fun _ _ e => e))
    cases ok with
    | true =>
      simp only [if_true] at h₄ ⊢
      rw [hn]
      have hh : wpAny M A (nestL (.ListComp elt gens scope pos) d iter2 env acc >>= fun _ => again (.compLoop (.ListComp elt gens scope pos) d it acc env)) Q E s₄ :=
        wpAny_bind (wpAny_mono h₄ (fun _ s₅ h₅ => wpAny_pure h₅) fun _ _ e => e)
      unfold nestL at hh
      simp only [bind_assoc, pure_bind] at hh
      exact hh
    | false =>
      simp only [Bool.false_eq_true, if_false] at h₄ ⊢
      exact wpAny_pure h₄

def SimA (K : Glo) (F : Frm) (l : Nat) (a : Addr) (t : Sem Unit) (m : M Unit) : Prop := ∀ σ ρ s, Rel K F σ ρ s → ρ[l]? = some a → Run K F t URep (m σ) ρ s

def compB (c : M Bool) (inner : M Unit) : M Fl := do
  if (← c) = true then do
    inner
    pure .next
  else pure .next

def SimTest (K : Glo) (F : Frm) (test : Option Expr) (c : M Bool) : Prop := ∀ σ ρ s, Rel K F σ ρ s → Run K F (testSem F.env test) BRep (c σ) ρ s
theorem simTest_none : SimTest K F none (pure true) := fun _ _ _ rel => Run.pure rel rfl
theorem simTest_some {e : Expr} {c : M Bool} (h : SimB K F e c) : SimTest K F (some e) c := h

theorem codeAny_compLoopT {prog : Program} {w : World} {A : Around} {s : Shared} {R : Result → Shared → Prop} {elt : Expr} {gens : List Comprehension} {scope : Scope} {pos : Pos} {d : Nat} {it acc : Value} {env : Env} (I : Nat → Shared → Prop)
    (turn : ∀ n s, I n s → wpAny (model prog w) A (compTurn (.ListComp elt gens scope pos) d it acc env) (fun fin s' => match fin with
      | .done f => R (.ok f) s'
      | .again c' => c' = .compLoop (.ListComp elt gens scope pos) d it acc env ∧ ∃ m, m < n ∧ I m s') (notedBy (model prog w) A env fun e s' => R (.error e) s') s)
    (n : Nat) (h : I n s) : codeAny (model prog w) A (.compLoop (.ListComp elt gens scope pos) d it acc env) R s := by
  refine codeAny_loop rfl I (fun n s hI => ?_) n h
  show wpAny _ A ((compTurn (.ListComp elt gens scope pos) d it acc env).onRaise (fun x => do noteFrame x env; theTreesLotGoes x)) _ _ s
  exact wpAny_noted (turn n s hI)

theorem forGC_succ (nxt : S → Nat → Option (Option V)) (t : V → M Unit) (c : M Bool) (mi : M Unit) (n i : Nat) (σ : S) : forG nxt t (compB c mi) (n + 1) i σ = (match nxt σ i with
    | none => .stuck
    | some none => .ok .next σ
    | some (some v) => match t v σ with
      | .stuck => .stuck
      | .exc e σ₂ => .exc e σ₂
      | .ok _ σ₂ => match c σ₂ with
        | .stuck => .stuck
        | .exc e σ₃ => .exc e σ₃
        | .ok false σ₃ => forG nxt t (compB c mi) n (i + 1) σ₃
        | .ok true σ₃ => match mi σ₃ with
          | .stuck => .stuck
          | .exc e σ₄ => .exc e σ₄
          | .ok _ σ₄ => forG nxt t (compB c mi) n (i + 1) σ₄) := by
  rw [forG_succ]
  cases nxt σ i with
  | none => rfl
  | some x =>
    cases x with
    | none => rfl
    | some v =>
      dsimp only
      cases t v σ with
      | stuck => rfl
      | exc e y => rfl
      | ok u y =>
        dsimp only
        unfold compB
        rw [M.bind_def]
        cases c y with
        | stuck => rfl
        | exc e z => rfl
        | ok b z =>
          cases b with
          | false => rfl
          | true =>
            dsimp only
            rw [if_pos rfl, M.bind_def]
            cases mi z <;> rfl

/-- a comprehension's clause goes through its iterator -/
theorem run_compLoop {elt target : Expr} {gens : List Comprehension} {scope : Scope} {pos : Pos} {d l : Nat} {a : Addr} {test : Option Expr} {inner : Sem Unit} {t : V → M Unit} {c : M Bool} {mi : M Unit}
    (hto : TurnOk (.ListComp elt gens scope pos) d F.env (.ref a) target test inner)
    (ht : SimT K F target t) (hc : SimTest K F test c) (hin : SimA K F l a inner mi) {I : Addr} {Src : Nat → Obj → Prop} {nxt : S → Nat → Option (Option V)}
    {σ : S} {ρ ρ₀ : List Addr} {s : Shared} {h₀ : Heap} {o : Obj} (hI : Iter K F I Src nxt ρ₀ h₀) (rel : Rel K F σ ρ s) (hla : ρ[l]? = some a) (x₀ : Ext F.mine ρ₀ ρ h₀ s.heap) (h0 : h₀.get? I = none) (hbase : K.base.get? I = none)
    (hmi : I ∉ F.mine) (hρ : I ∉ ρ) (ho : s.heap.get? I = some o) (hs : Src 0 o) (n : Nat) (hne : forG nxt t (compB c mi) n 0 σ ≠ .stuck) :
    codeAny (model K.prog K.w) F.A (.compLoop (.ListComp elt gens scope pos) d (.ref I) (.ref a) F.env) (fun r s' => match r with
      | .ok _ => ∃ f σ' ρ', forG nxt t (compB c mi) n 0 σ = .ok f σ' ∧ Rel K F σ' ρ' s' ∧ Ext F.mine ρ₀ ρ' h₀ s'.heap ∧ ρ'[l]? = some a
      | .error v => EO K F (forG nxt t (compB c mi) n 0 σ) ρ₀ h₀ v s') s := by
  refine codeAny_compLoopT (fun k s' => ∃ σ₁ ρ' i o, Rel K F σ₁ ρ' s' ∧ forG nxt t (compB c mi) k i σ₁ = forG nxt t (compB c mi) n 0 σ ∧ Ext F.mine ρ₀ ρ' h₀ s'.heap ∧ I ∉ ρ' ∧ ρ'[l]? = some a ∧ s'.heap.get? I = some o ∧ Src i o) ?_ n
    ⟨σ, ρ, 0, o, rel, rfl, x₀, hρ, hla, ho, hs⟩
  generalize forG nxt t (compB c mi) n 0 σ = out at hne ⊢
  rintro k s₁ ⟨σ₁, ρ', i, o₁, rel₁, e₁, x₁, hρ₁, hla₁, ho₁, hs₁⟩
  have note : ∀ {v : Value} {s' : Shared}, EO K F out ρ₀ h₀ v s' → notedBy (model K.prog K.w) F.A F.env (fun e s' => EO K F out ρ₀ h₀ e s') v s' := fun hx => hx.noted
  cases k with
  | zero => exact absurd e₁.symm hne
  | succ k =>
    rw [forGC_succ] at e₁
    obtain ⟨vs₁, T₁, hd₁, hc₁, hT₁, hr₁⟩ := hI.1 i o₁ hs₁
    have hc₁' : o₁.cls ≠ .type "range" := by rw [hc₁]; exact fun e => hr₁ (by cases e; rfl)
    have hstep := hI.2.2 σ₁ ρ' s₁ i o₁ rel₁ x₁ ho₁ hs₁
    refine hto _ _ _ _ _ _ ?_
    cases en : nxt σ₁ i with
    | none => rw [en] at e₁; exact absurd e₁.symm hne
    | some ov =>
      rw [en] at hstep e₁
      cases ov with
      | none =>
        refine wpAny_mono hstep (fun r s₂ h => ?_) fun _ _ h => h.elim
        obtain ⟨rfl, hx, hg, hos⟩ := h
        exact ⟨.next, σ₁, ρ', e₁.symm, rel₁.but hbase hmi ho₁ hd₁ hc₁' hx hg hos, x₁.but h0 ho₁ hd₁ hc₁' hx, hla₁⟩
      | some v =>
        refine wpAny_mono hstep (fun r s₂ h => ?_) fun _ _ h => h.elim
        obtain ⟨w, rfl, hx, hg, hos, ⟨o₂, ho₂, hs₂⟩, rv⟩ := h
        have rel₂ := rel₁.but hbase hmi ho₁ hd₁ hc₁' hx hg hos
        have x₂ := x₁.but h0 ho₁ hd₁ hc₁' hx
        obtain ⟨vs₂, T₂, hd₂, hc₂, hT₂, hr₂⟩ := hI.1 (i + 1) o₂ hs₂
        refine owned_skip ho₂ hc₂ hT₂ ?_
        have hta := ht σ₁ ρ' s₂ v w rel₂ rv
        have hold : ∀ {ρ₂ ρ₃ : List Addr} {g g' : Heap} {oo : Obj}, Ext F.mine ρ₂ ρ₃ g g' → I ∉ ρ₂ → g.get? I = some oo → (∃ vs, oo.data = .fields vs) → g'.get? I = some oo ∧ I ∉ ρ₃ := by
          intro ρ₂ ρ₃ g g' oo x hn e ⟨vs, d⟩
          obtain ⟨o', e', l⟩ := x.keep I oo e hn hmi
          refine ⟨by rw [e', l.same (fun es n q => by rw [d] at q; cases q)], fun hin => ?_⟩
          rcases x.new I hin with q | q
          · exact hn q
          · rw [e] at q; cases q
        dsimp only at e₁
        cases et : t v σ₁ with
        | stuck => rw [et] at e₁; exact absurd e₁.symm hne
        | exc e σ₃ =>
          rw [et] at hta e₁
          refine wpAny_mono (hta.wp (by simp)) (fun a s' hq => by obtain ⟨_, _, _, e, _⟩ := hq; cases e) fun v s' he => ?_
          obtain ⟨e', σ', ρ'', e2, r1, r2, r3⟩ := he
          cases e2
          exact note ⟨e, σ₃, ρ'', e₁.symm, r1, x₂.trans r2, r3⟩
        | ok u σ₃ =>
          rw [et] at hta e₁
          refine wpAny_mono (hta.wp (by simp)) (fun _ s₃ hq => ?_) fun v s' he => by obtain ⟨_, _, _, e, _⟩ := he; cases e
          obtain ⟨_, σ', ρ₃, e2, rel₃, x₃, _⟩ := hq
          cases e2
          dsimp only at e₁
          have x03 := x₂.trans x₃
          obtain ⟨ho₃, hρ₃⟩ := hold x₃ hρ₁ ho₂ ⟨_, hd₂⟩
          have hla₃ := getElem?_prefix x₃.pre hla₁
          have hcc := hc σ₃ ρ₃ s₃ rel₃
          cases ec : c σ₃ with
          | stuck => rw [ec] at e₁; exact absurd e₁.symm hne
          | exc e σ₄ =>
            rw [ec] at hcc e₁
            refine wpAny_mono (hcc.wp (by simp)) (fun a s' hq => by obtain ⟨_, _, _, e, _⟩ := hq; cases e) fun v s' he => ?_
            obtain ⟨e', σ', ρ'', e2, r1, r2, r3⟩ := he
            cases e2
            exact note ⟨e, σ₄, ρ'', e₁.symm, r1, x03.trans r2, r3⟩
          | ok b σ₄ =>
            rw [ec] at hcc e₁
            refine wpAny_mono (hcc.wp (by simp)) (fun wb s₄ hq => ?_) fun v s' he => by obtain ⟨_, _, _, e, _⟩ := he; cases e
            obtain ⟨b', σ', ρ₄, e3, rel₄, x₄, rb⟩ := hq
            cases e3
            have : wb = b := rb
            subst this
            have x04 := x03.trans x₄
            obtain ⟨ho₄, hρ₄⟩ := hold x₄ hρ₃ ho₃ ⟨_, hd₂⟩
            have hla₄ := getElem?_prefix x₄.pre hla₃
            cases wb with
            | false =>
              dsimp only at e₁
              simp only [Bool.false_eq_true, if_false]
              exact ⟨trivial, k, Nat.lt_succ_self _, σ₄, ρ₄, i + 1, o₂, rel₄, e₁, x04, hρ₄, hla₄, ho₄, hs₂⟩
            | true =>
              dsimp only at e₁
              simp only [if_true]
              have hii := hin σ₄ ρ₄ s₄ rel₄ hla₄
              cases ei : mi σ₄ with
              | stuck => rw [ei] at e₁; exact absurd e₁.symm hne
              | exc e σ₅ =>
                rw [ei] at hii e₁
                refine wpAny_mono (hii.wp (by simp)) (fun a s' hq => by obtain ⟨_, _, _, e, _⟩ := hq; cases e) fun v s' he => ?_
                obtain ⟨e', σ', ρ'', e2, r1, r2, r3⟩ := he
                cases e2
                exact note ⟨e, σ₅, ρ'', e₁.symm, r1, x04.trans r2, r3⟩
              | ok u σ₅ =>
                rw [ei] at hii e₁
                refine wpAny_mono (hii.wp (by simp)) (fun _ s₅ hq => ?_) fun v s' he => by obtain ⟨_, _, _, e, _⟩ := he; cases e
                obtain ⟨_, σ', ρ₅, e4, rel₅, x₅, _⟩ := hq
                cases e4
                have x05 := x04.trans x₅
                obtain ⟨ho₅, hρ₅⟩ := hold x₅ hρ₄ ho₄ ⟨_, hd₂⟩
                exact ⟨trivial, k, Nat.lt_succ_self _, σ₅, ρ₅, i + 1, o₂, rel₅, e₁, x05, hρ₅, getElem?_prefix x₅.pre hla₄, ho₅, hs₂⟩

theorem codeAny_compStartD {prog : Program} {w : World} {A : Around} {s : Shared} {R : Result → Shared → Prop} {elt target iter : Expr} {ifs : List Expr} {gens : List Comprehension} {scope : Scope} {pos : Pos} {d : Nat} {it acc : Value} {env : Env}
    (hg : gens[d]? = some ⟨target, iter, ifs, 0⟩)
    (h0 : codeAny (model prog w) A (.compLoop (.ListComp elt gens scope pos) d it acc env) R s)
    (h : ∀ (Q : Value → Shared → Prop) (E : Value → Shared → Prop), Q it s → wpAny (model prog w) A (pyIter it) Q E s) :
    codeAny (model prog w) A (.compStart (.ListComp elt gens scope pos) d it acc env) R s := by
  refine codeAny_of_tree ?_
  show wpAny _ A ((compStart (.ListComp elt gens scope pos) d it acc env).onRaise (fun x => do noteFrame x env; standAt theWindowsPlace)) _ _ s
  refine wpAny_notedAt ?_
  unfold compStart
  have hcl : clausesOf (.ListComp elt gens scope pos) = gens := rfl
  rw [hcl, hg]
  show wpAny _ _ (ask >>= _) _ _ s
  refine wpAny_bind (wpAny_askSetting (wpAny_ite ?_))
  split
  · first
      | exact wpAny_bind (wpAny_pure (wpAny_pure (And.intro rfl h0)))
      | exact wpAny_pure (And.intro rfl h0)
  · refine wpAny_bind (wpAny_rule ?_)
    show wpAny _ _ (standAt iter.pos >>= _) _ _ s
    exact wpAny_bind (wpAny_standAt (wpAny_bind (h _ _ (wpAny_pure (And.intro rfl h0)))))

/-! ### the comprehension's own frame -/
def compFrm (F : Frm) (scope : Scope) (cl : List (Str × Addr)) (C : Addr) : Frm := ⟨compEnvC scope cl C F.env, F.A, [C]⟩
theorem FOk.comp (fk : FOk F) {scope : Scope} {cl : List (Str × Addr)} {C : Addr} (hk : scope.kind = .function) : FOk (compFrm F scope cl C) := ⟨hk, fk.glob, fk.blt, fk.hd, fk.units⟩

def inComp {α : Type} (free : List String) (m : M α) : M α := fun σ => match m ⟨σ.st, fun x => if x ∈ free then σ.lo x else none⟩ with
  | .ok a σ' => .ok a ⟨σ'.st, σ.lo⟩
  | .exc e σ' => .exc e ⟨σ'.st, σ.lo⟩
  | .stuck => .stuck

/-- one more hidden namespace that has changed -/
theorem Rel.butC {σ : S} {ρ : List Addr} {s s' : Shared} {C : Addr} {m : Str → Option Value} (rel : Rel K F σ ρ s) (hb : K.base.get? C = none) (hm : C ∉ F.mine) (hρ : C ∉ ρ) (hn : s.heap.Ns C m) (hs : Heap.SameBut C s.heap s'.heap)
    (hg : s'.gens = s.gens) (ho : s'.os = s.os) : Rel K F σ ρ s' where
  toGRel := rel.toGRel.mineBut hb hρ hs (fun b o e f => ns_ne_tup hn e f) hg ho
  vars := fun y u e => by
    obtain ⟨w, h1, h2⟩ := rel.vars y u e
    refine ⟨w, h1.mono (fun m' n => n.sameBut hs (fun q => hm (q ▸ rel.mineLoc))) (fun c u _ n => n.sameBut hs (fun q => cell_ne_ns n hn q.symm)), ?_⟩
    exact Rep.mono' (List.prefix_refl _) (fun b o e f => (hs.2 b (ns_ne_tup hn e f)).trans e) h2
  loc := by obtain ⟨m', n⟩ := rel.loc; exact ⟨m', n.sameBut hs (fun q => hm (q ▸ rel.mineLoc))⟩
  cels := fun y c e => by obtain ⟨v, n⟩ := rel.cels y c e; exact ⟨v, n.sameBut hs (fun q => cell_ne_ns n hn q.symm)⟩
  mineAbove := fun b hb' => by
    obtain ⟨h1, o, h2⟩ := rel.mineAbove b hb'
    exact ⟨h1, o, (hs.2 b (fun q => hm (q ▸ hb'))).trans h2⟩
  mineApart := rel.mineApart
  mineLoc := rel.mineLoc
theorem Ext.butC {mine ρ₀ ρ : List Addr} {h₀ h h' : Heap} {C : Addr} (x : Ext mine ρ₀ ρ h₀ h) (h0 : h₀.get? C = none) (hs : Heap.SameBut C h h') : Ext mine ρ₀ ρ h₀ h' where
  pre := x.pre
  alive := fun b o e => by
    obtain ⟨o1, e1⟩ := x.alive b o e
    exact ⟨o1, (hs.2 b (by rintro rfl; rw [h0] at e; cases e)).trans e1⟩
  new := x.new
  keep := fun b o e n1 n2 => by
    obtain ⟨o1, e1, l1⟩ := x.keep b o e n1 n2
    exact ⟨o1, (hs.2 b (by rintro rfl; rw [h0] at e; cases e)).trans e1, l1⟩
  froz := fun b o e f => (hs.2 b (by rintro rfl; rw [h0] at e; cases e)).trans (x.froz b o e f)

/-- what the clauses of a comprehension do, in the comprehension's frame -/
def SimClauses (K : Glo) (F : Frm) (elt : Expr) (gens : List Comprehension) (scope : Scope) (pos : Pos) (d : Nat) (m : Nat → (S → Nat → Option (Option V)) → M Unit) : Prop :=
  ∀ (l : Nat) (a : Addr) (I : Addr) (Src : Nat → Obj → Prop) (nxt : S → Nat → Option (Option V)) σ ρ ρ₀ s h₀ o, Iter K F I Src nxt ρ₀ h₀ → Rel K F σ ρ s → ρ[l]? = some a → Ext F.mine ρ₀ ρ h₀ s.heap → h₀.get? I = none → K.base.get? I = none →
    I ∉ F.mine → I ∉ ρ → s.heap.get? I = some o → Src 0 o → m l nxt σ ≠ .stuck →
    codeAny (model K.prog K.w) F.A (.compStart (.ListComp elt gens scope pos) d (.ref I) (.ref a) F.env) (fun r s' => match r with
      | .ok _ => ∃ σ' ρ', m l nxt σ = .ok () σ' ∧ Rel K F σ' ρ' s' ∧ Ext F.mine ρ₀ ρ' h₀ s'.heap ∧ ρ'[l]? = some a
      | .error v => EO K F (m l nxt σ) ρ₀ h₀ v s') s

def loopC (n : Nat) (t : V → M Unit) (c : M Bool) (mi : M Unit) (nxt : S → Nat → Option (Option V)) : M Unit := do
  let _ ← forG nxt t (compB c mi) n 0
  pure ()

theorem loopC_ne {n : Nat} {t : V → M Unit} {c : M Bool} {mi : M Unit} {nxt : S → Nat → Option (Option V)} {σ : S} (h : loopC n t c mi nxt σ ≠ .stuck) : forG nxt t (compB c mi) n 0 σ ≠ .stuck := by
  intro e; apply h; unfold loopC; rw [M.bind_def, e]

theorem clauses_of {elt target iter : Expr} {ifs : List Expr} {gens : List Comprehension} {scope : Scope} {pos : Pos} {d : Nat} {test : Option Expr} {inner : Value → Sem Unit} {t : V → M Unit} {c : M Bool} {mi : Nat → M Unit} (n : Nat)
    (hg : gens[d]? = some ⟨target, iter, ifs, 0⟩)
    (hto : ∀ acc, TurnOk (.ListComp elt gens scope pos) d F.env acc target test (inner acc)) (ht : SimT K F target t) (hc : SimTest K F test c) (hin : ∀ l a, SimA K F l a (inner (.ref a)) (mi l)) :
    SimClauses K F elt gens scope pos d (fun l nxt => loopC n t c (mi l) nxt) := by
  intro l a I Src nxt σ ρ ρ₀ s h₀ o hI rel hla x₀ h0 hb hm hρ ho hs hne
  refine codeAny_compStartD hg ?_ (fun Q E q => hI.2.1 0 o s _ Q E ho hs q)
  refine codeAny_mono (run_compLoop (hto _) ht hc (hin l a) hI rel hla x₀ h0 hb hm hρ ho hs n (loopC_ne hne)) fun r s' h => ?_
  cases r with
  | ok f =>
    obtain ⟨f', σ', ρ', e, r1, r2, r4⟩ := h
    exact ⟨σ', ρ', by show loopC n t c (mi l) nxt σ = _; unfold loopC; rw [M.bind_def, e]; rfl, r1, r2, r4⟩
  | error v =>
    obtain ⟨e, σ', ρ', e1, r1, r2, r3⟩ := h
    exact ⟨e, σ', ρ', by show loopC n t c (mi l) nxt σ = _; unfold loopC; rw [M.bind_def, e1], r1, r2, r3⟩

def appendAt (l : Nat) (v : V) : M Unit := do
  let _ ← appendG (.obj l) [v]
  pure ()
theorem simA_emit (fk : FOk F) {elt : Expr} {me : M V} (he : SimE K F elt me) (l : Nat) (a : Addr) : SimA K F l a (emitL elt F.env (.ref a)) (do let v ← me; appendAt l v) := by
  intro σ ρ s rel hla
  unfold emitL
  refine Run.bind (he σ ρ s rel) fun v σ₁ ρ₁ s₁ w _ rel₁ x₁ rv => ?_
  unfold appendAt
  refine Run.bind (meth_append F fk σ₁ ρ₁ s₁ (.obj l) (.ref a) [v] [w] rel₁ (Rep.obj_iff.mpr ⟨a, getElem?_prefix x₁.pre hla, rfl⟩) (RepL.cons rv RepL.nil)) fun u σ₂ ρ₂ s₂ _ _ rel₂ x₂ _ => ?_
  exact Run.pure rel₂ trivial

end Mine


/-! part F15 -/
set_option autoImplicit false
set_option maxRecDepth 100000
set_option linter.unusedVariables false
open PySem PySem.W PyProof.Rows
namespace Mine

variable {K : Glo} {F : Frm}

def restr (free : List String) (lo : String → Option V) : String → Option V := fun x => if x ∈ free then lo x else none
def compTail (free : List String) (mc : Nat → (S → Nat → Option (Option V)) → M Unit) (v : V) : M V := fun σ => match okIter v σ with
  | .ok _ _ => match mc σ.st.length (nxtOf v) ⟨σ.st ++ [.lst []], restr free σ.lo⟩ with
    | .ok _ σ' => .ok (.obj σ.st.length) ⟨σ'.st, σ.lo⟩
    | .exc e σ' => .exc e ⟨σ'.st, σ.lo⟩
    | .stuck => .stuck
  | _ => .stuck

theorem okIter_ok {v : V} {σ : S} {u : Unit} {σ' : S} (h : okIter v σ = .ok u σ') : okIter v σ = .ok () σ := by
  cases v with
  | obj l =>
    have h' : chkL (.obj l) σ = .ok u σ' := h
    show chkL (.obj l) σ = _
    cases hc : σ.st[l]? with
    | none => simp only [chkL, hc] at h'; cases h'
    | some c => cases c with | lst us => exact chkL_ok hc
  | tup vs => rfl
  | rng a b' c =>
    unfold okIter at h ⊢
    by_cases hsm : Builtin.Range.small a b' c = true
    · simp only [hsm, if_true]
    · simp only [hsm] at h; cases h
  | _ => cases h

structure CompOk (F : Frm) (scope : Scope) (cl : List (Str × Addr)) (free : List String) : Prop where
  clos : closureFor scope F.env = pure cl
  kind : scope.kind = .function
  names : ∀ x ∈ scope.names, x.2 = .local → scope.names.lookup x.1 = some .local
  nocell : ∀ x ∈ scope.names, x.2 ≠ .cell
  free : ∀ x ∈ free, ((relabel scope F.env).names.lookup (Str.ofString x) = some .cell ∨ (relabel scope F.env).names.lookup (Str.ofString x) = some .free) ∧ F.env.kindOf (Str.ofString x) ≠ some .local ∧
    ∀ c, F.env.cells.lookup (Str.ofString x) = some c → cl.lookup (Str.ofString x) = some c
  cells : ∀ x c, cl.lookup x = some c → F.env.cells.lookup x = some c

theorem wp_comp (fk : FOk F) {elt target iter : Expr} {ifs : List Expr} {gs : List Comprehension} {scope : Scope} {pos fpos : Pos} {cl : List (Str × Addr)} {free : List String} {mi : M V} {mc : Nat → (S → Nat → Option (Option V)) → M Unit}
    {use : Option (Value → Sem Unit)} {Q : Value → Shared → Prop} {E : Value → Shared → Prop} (hs : ∀ x, foldedSetIterable iter F.env x = pure x) (ck : CompOk F scope cl free) (hi : SimE K F iter mi)
    (hc : ∀ C, SimClauses K (compFrm F scope cl C) elt (⟨target, iter, ifs, 0⟩ :: gs) scope pos 0 mc) {σ : S} {ρ : List Addr} {s : Shared} (rel : Rel K F σ ρ s) (hne : (mi >>= compTail free mc) σ ≠ .stuck)
    (hQ : ∀ v σ' ρ' s' w C m, (mi >>= compTail free mc) σ = .ok v σ' → Rel K F σ' ρ' s' → Ext F.mine ρ ρ' s.heap s'.heap → Rep K s'.heap ρ' v w → s'.heap.Ns C m → C ∉ F.mine → C ∉ ρ' → K.base.get? C = none → s.heap.get? C = none →
      compPost (model K.prog K.w) F.A E use Q w C (.ok .next) s')
    (hE : ∀ v s', EO K F ((mi >>= compTail free mc) σ) ρ s.heap v s' → E v s') :
    wpAny (model K.prog K.w) F.A (comprehension (.ListComp elt (⟨target, iter, ifs, 0⟩ :: gs) scope pos) scope F.env fpos (newList []) false (eval iter F.env) use) Q E s := by
  refine wpAny_comprehension_free (use := use) rfl hs ck.clos ck.kind ck.names ?_
  refine wpAny_mono (Run.bindWp (P := fun x s₁ => wpAny (model K.prog K.w) F.A (pyIter x) (fun it s₂ => wpAny (model K.prog K.w) F.A (newList []) (fun acc s₃ =>
      wpAny (model K.prog K.w) F.A (newFunctionEnv scope F.env.globals cl [] F.env.qual none .none (some F.env)) (fun cenv s₄ =>
        codeAny (model K.prog K.w) F.A (.compStart (.ListComp elt (⟨target, iter, ifs, 0⟩ :: gs) scope pos) 0 it acc { cenv with scope := relabel scope F.env }) (compPost (model K.prog K.w) F.A E use Q acc cenv.locals) s₄) E s₃) E s₂) E s₁)
    (hi σ ρ s rel) hne ?_) (fun _ _ q => q) (fun v s' q => hE v s' q)
  intro v σ₁ ρ₁ s₁ w e1 e2 rel₁ x₁ rv
  rw [e2] at hne hQ hE
  cases hok : okIter v σ₁ with
  | stuck => exact absurd (by unfold compTail; rw [hok]) hne
  | exc e y => exact absurd (by unfold compTail; rw [hok]) hne
  | ok u y =>
    have hok' := okIter_ok hok
    have eT : compTail free mc v σ₁ = (match mc σ₁.st.length (nxtOf v) ⟨σ₁.st ++ [.lst []], restr free σ₁.lo⟩ with
      | .ok _ σ' => .ok (.obj σ₁.st.length) ⟨σ'.st, σ₁.lo⟩
      | .exc e σ' => .exc e ⟨σ'.st, σ₁.lo⟩
      | .stuck => .stuck) := by unfold compTail; rw [hok]
    obtain ⟨obj, Src, hsrc, hfr, hIt, hpy⟩ := wp_pyIter rel₁ rv hok'
    obtain ⟨f0, f1, f2, f3⟩ := fresh_facts rel₁
    refine hpy _ _ _ ?_
    have rel₂ := rel₁.push obj s₁.toks
    have x₂ : Ext F.mine ρ₁ ρ₁ s₁.heap (s₁.heap.push obj) := Ext.push obj
    refine wpAny_newList ?_ (by simp [sizeLine_eq])
    obtain ⟨rel₃, x₃⟩ := rel₂.newList (vs := []) (ws := []) (o := { cls := .type "list", data := .seq ([] : List Value).toArray }) rfl RepL.nil (by simp) s₁.toks
    refine wpAny_newFunctionEnv ck.nocell (by intro y hy; simp at hy) (fun h₄ hns hsb => ?_) ck.kind
    dsimp only at hns hsb rel₃ x₃ ⊢
    generalize hH : (s₁.heap.push obj).push { cls := .type "list", data := .seq ([] : List Value).toArray } = H at hns hsb rel₃ x₃ ⊢
    have hI : (s₁.heap.push obj).objs.size = s₁.heap.objs.size + 1 := Heap.size_push ..
    have hC : H.objs.size = s₁.heap.objs.size + 2 := by rw [← hH, Heap.size_push, hI]
    generalize hCd : H.objs.size = C at hns hsb hC ⊢
    have hkeep : ∀ b o, H.get? b = some o → h₄.get? b = some o := fun b o e => (hsb.2 b (by rw [← hCd]; exact Nat.ne_of_lt (Heap.lt_size e))).trans (Heap.get?_push_of_some _ e)
    have fC : s₁.heap.get? C = none := Heap.get?_none_of_le (by rw [hC]; omega)
    have bC : K.base.get? C = none := by
      cases e : K.base.get? C with
      | none => rfl
      | some o => have := rel₁.base _ _ e; rw [fC] at this; cases this
    have rel₄ : Rel K (compFrm F scope cl C) ⟨σ₁.st ++ [.lst []], restr free σ₁.lo⟩ (ρ₁ ++ [(s₁.heap.push obj).objs.size]) { s₁ with heap := h₄, toks := s₁.toks + 0 } := by
      refine { toGRel := rel₃.toGRel.kept hkeep rfl rfl, vars := ?_, loc := ⟨_, hns⟩, cels := ?_, mineAbove := ?_, mineApart := ?_, mineLoc := List.mem_singleton.mpr rfl }
      · intro x v' e
        have hx : x ∈ free := by
          by_cases h : x ∈ free
          · exact h
          · simp only [restr, if_neg h] at e; cases e
        simp only [restr, if_pos hx] at e
        obtain ⟨w', h1, h2⟩ := rel₃.vars x v' e
        refine ⟨w', ?_, Rep.mono' (List.prefix_refl _) (kept_tup hkeep) h2⟩
        obtain ⟨q1, q2, q3⟩ := ck.free x hx
        rcases h1 with ⟨k1, _⟩ | ⟨k1, c, ec, n⟩
        · exact absurd k1 q2
        · exact .inr ⟨q1, c, q3 c ec, n.keeps hkeep⟩
      · intro x c e
        obtain ⟨v', n⟩ := rel₃.cels x c (ck.cells x c e)
        exact ⟨v', n.keeps hkeep⟩
      · intro a ha
        have : a = C := List.mem_singleton.mp ha
        subst this
        obtain ⟨o, _, _, e, _⟩ := hns
        exact ⟨bC, o, e⟩
      · intro a ha hb
        have : a = C := List.mem_singleton.mp ha
        subst this
        obtain ⟨_, o, e, _⟩ := rel₃.toGRel.alive hb
        rw [Heap.get?_none_of_le (by rw [hCd]; exact Nat.le_refl _)] at e; cases e
    have x₄ : Ext [C] ρ₁ (ρ₁ ++ [(s₁.heap.push obj).objs.size]) s₁.heap h₄ := by
      refine ⟨List.prefix_append _ _, fun b o e => ⟨o, hkeep b o (by rw [← hH]; exact Heap.get?_push_of_some _ (Heap.get?_push_of_some _ e))⟩, fun a ha => ?_, fun b o e _ _ => ⟨o, hkeep b o (by rw [← hH]; exact Heap.get?_push_of_some _ (Heap.get?_push_of_some _ e)), .refl _⟩,
        fun b o e _ => hkeep b o (by rw [← hH]; exact Heap.get?_push_of_some _ (Heap.get?_push_of_some _ e))⟩
      rcases List.mem_append.mp ha with ha | ha
      · exact .inl ha
      · have := List.mem_singleton.mp ha
        subst this
        exact .inr (Heap.get?_none_of_le (by rw [hI]; omega))
    have hIC : s₁.heap.objs.size ≠ C := by rw [hC]; omega
    have hne' : mc σ₁.st.length (nxtOf v) ⟨σ₁.st ++ [.lst []], restr free σ₁.lo⟩ ≠ .stuck := fun e => hne (by rw [eT, e])
    have main := hc C σ₁.st.length (s₁.heap.push obj).objs.size s₁.heap.objs.size Src (nxtOf v) ⟨σ₁.st ++ [.lst []], restr free σ₁.lo⟩ (ρ₁ ++ [(s₁.heap.push obj).objs.size]) ρ₁ { s₁ with heap := h₄, toks := s₁.toks + 0 } s₁.heap obj
      (hIt _ (fk.comp ck.kind)) rel₄ (by rw [← rel₁.len, List.getElem?_concat_length]) x₄ f0 f1 (fun h => hIC (List.mem_singleton.mp h))
      (fun h => by
        rcases List.mem_append.mp h with h | h
        · exact f3 h
        · have := List.mem_singleton.mp h; rw [hI] at this; exact absurd this (Nat.ne_of_lt (Nat.lt_succ_self _)))
      (hkeep _ _ (by rw [← hH]; exact Heap.get?_push_of_some _ (Heap.get?_push_size _ hfr))) hsrc hne'
    refine codeAny_mono main fun r s' h => ?_
    cases r with
    | error v' =>
      obtain ⟨_, _, _, _, _, _, hx⟩ := h
      exact hx.elim
    | ok f =>
      obtain ⟨σ', ρ', em, r1, r2, r4⟩ := h
      rw [em] at eT
      have xn : Ext [] ρ₁ ρ' s₁.heap s'.heap := ⟨r2.pre, r2.alive, r2.new, fun b o e n1 _ => r2.keep b o e n1 (fun hm => by have := List.mem_singleton.mp hm; subst this; rw [fC] at e; cases e), r2.froz⟩
      have relF := rel₁.called r1.toGRel xn fk
      obtain ⟨m, hm⟩ := r1.loc
      have hsC : s.heap.get? C = none := by
        cases e : s.heap.get? C with
        | none => rfl
        | some o => obtain ⟨o', e'⟩ := x₁.alive _ _ e; rw [fC] at e'; cases e'
      have hmC : C ∉ F.mine := fun h => by
        obtain ⟨_, o, e⟩ := rel₁.mineAbove _ h
        rw [fC] at e; cases e
      have := hQ (.obj σ₁.st.length) ⟨σ'.st, σ₁.lo⟩ ρ' s' (.ref (s₁.heap.push obj).objs.size) C m eT relF (x₁.trans (ext_of_nil xn)) (Rep.obj_iff.mpr ⟨_, r4, rfl⟩) hm hmC (r1.mineApart C (List.mem_singleton.mpr rfl)) bC hsC
      cases use <;> exact this

theorem simE_listcomp (fk : FOk F) {elt target iter : Expr} {ifs : List Expr} {gs : List Comprehension} {scope : Scope} {pos : Pos} {cl : List (Str × Addr)} {free : List String} {mi : M V} {mc : Nat → (S → Nat → Option (Option V)) → M Unit}
    (ck : CompOk F scope cl free) (hi : SimE K F iter mi)
    (hc : ∀ C, SimClauses K (compFrm F scope cl C) elt (⟨target, iter, ifs, 0⟩ :: gs) scope pos 0 mc) (hs : ∀ x, foldedSetIterable iter F.env x = pure x := by intro _; rfl) :
    SimE K F (.ListComp elt (⟨target, iter, ifs, 0⟩ :: gs) scope pos) (mi >>= compTail free mc) := by
  intro σ ρ s rel
  refine Run.of_wp fun hne => ?_
  show wpAny _ _ (comprehension (.ListComp elt (⟨target, iter, ifs, 0⟩ :: gs) scope pos) scope F.env _ (newList []) false (eval iter F.env) none) _ _ s
  refine wp_comp fk (use := none) hs ck hi hc rel hne ?_ fun _ _ q => q
  intro v σ' ρ' s' w C m e r1 x1 rv hm q1 q2 q3 q4
  exact ⟨m, hm, fun h' hsb => ⟨v, σ', ρ', e, r1.butC q3 q1 q2 hm hsb rfl rfl, x1.butC q4 hsb, Rep.mono' (List.prefix_refl _) (fun b o e f => (hsb.2 b (ns_ne_tup hm e f)).trans e) rv⟩⟩

/-- name = [.. for ..], where the stores are exchanged -/
theorem simS_assign_comp (fk : FOk F) {elt target iter : Expr} {ifs : List Expr} {gs : List Comprehension} {scope : Scope} {pos spos tpos : Pos} {cl : List (Str × Addr)} {free : List String} {mi : M V} {mc : Nat → (S → Nat → Option (Option V)) → M Unit} {x : String} {mt : V → M Unit}
    (ck : CompOk F scope cl free) (ht : SimT K F (.Name (Str.ofString x) tpos) mt) (hi : SimE K F iter mi)
    (hc : ∀ C, SimClauses K (compFrm F scope cl C) elt (⟨target, iter, ifs, 0⟩ :: gs) scope pos 0 mc)
    (hsw : swapsWith (.ListComp elt (⟨target, iter, ifs, 0⟩ :: gs) scope pos) (some (.Name (Str.ofString x) tpos)) spos.line F.env = pure true := by rfl)
    (hs : ∀ x, foldedSetIterable iter F.env x = pure x := by intro _; rfl) :
    SimS K F (.Assign [.Name (Str.ofString x) tpos] (.ListComp elt (⟨target, iter, ifs, 0⟩ :: gs) scope pos) spos) (do let v ← mi >>= compTail free mc; mt v; pure .next) := by
  intro σ ρ s rel
  rw [exec_Assign_Name_used _ _ _ _ hsw]
  refine Run.standAt ?_
  refine Run.of_wp fun hne => ?_
  have hne1 : (mi >>= compTail free mc) σ ≠ .stuck := fun e => hne (by rw [M.bind_def, e])
  refine wpAny_bind ?_
  show wpAny _ _ (do let _ ← comprehension (.ListComp elt (⟨target, iter, ifs, 0⟩ :: gs) scope pos) scope F.env _ (newList []) false (eval iter F.env) (some (assign (.Name (Str.ofString x) tpos) F.env))) _ _ s
  refine wpAny_bind (wpAny_mono (wp_comp fk (use := some (assign (.Name (Str.ofString x) tpos) F.env)) (Q := fun _ s' => QO K F (FlRep K) ((do let v ← mi >>= compTail free mc; mt v; pure .next : M Fl) σ) ρ s.heap .next s') (E := EO K F ((do let v ← mi >>= compTail free mc; mt v; pure .next : M Fl) σ) ρ s.heap) hs ck hi hc rel hne1 ?_ ?_)
    (fun _ s' hq => wpAny_pure (wpAny_pure hq)) fun _ _ e => e)
  · intro v σ' ρ' s' w C m e r1 x1 rv hm q1 q2 q3 q4
    have e2 : (do let v ← mi >>= compTail free mc; mt v; pure .next : M Fl) σ = (mt v >>= fun _ => (Pure.pure Fl.next : M Fl)) σ' := M.bind_ok e
    rw [e2] at hne ⊢
    show wpAny _ _ (assign (.Name (Str.ofString x) tpos) F.env w) _ _ s'
    refine wpAny_mono (Run.bindWp (P := fun _ s'' => ∃ m, s''.heap.Ns C m ∧ ∀ h', Heap.SameBut C s''.heap h' → QO K F (FlRep K) ((mt v >>= fun _ => (Pure.pure Fl.next : M Fl)) σ') ρ s.heap .next { s'' with heap := h' }) (ht σ' ρ' s' v w r1 rv) hne ?_) (fun _ _ q => q) (fun v s'' q => q.up x1)
    intro u σ₂ ρ₂ s₂ _ e3 e4 rel₂ x₂ _
    rw [e4]
    obtain ⟨o, es, ep, g, d, k, f⟩ := hm
    obtain ⟨o', g', l⟩ := x₂.keep C o g q2 q1
    have hC' : C ∉ ρ₂ := fun hin => by
      rcases x₂.new C hin with h1 | h1
      · exact q2 h1
      · rw [g] at h1; cases h1
    have hm' : s₂.heap.Ns C m := ⟨o', es, ep, g', l.data.1.trans d, k, f⟩
    exact ⟨m, hm', fun h' hsb => ⟨.next, σ₂, ρ₂, rfl, rel₂.butC q3 q1 hC' hm' hsb rfl rfl, (x1.trans x₂).butC q4 hsb, rfl⟩⟩
  · intro v s' q
    obtain ⟨e, σ', ρ', e1, r1, r2, r3⟩ := q
    exact ⟨e, σ', ρ', by rw [M.bind_def, e1], r1, r2, r3⟩

end Mine


/-! part F16 -/
set_option autoImplicit false
set_option maxRecDepth 100000
set_option linter.unusedVariables false
open PySem PySem.W PyProof.Rows
namespace Mine

variable {K : Glo} {F : Frm}

/-! ### range -/
def rangeB : List V → M V
  | [.int n] => pure (.rng 0 n 1)
  | [.int a, .int b] => pure (.rng a b 1)
  | [.int a, .int b, .int c] => if c ≠ 0 ∧ c.natAbs < 1000000 then pure (.rng a b c) else stuck
  | _ => stuck

theorem built_range : BuiltOk K (.type "range") rangeB := by
  intro F fk σ ρ s vs ws rel r
  have fin : ∀ (a b c : Int) (t u v : Tok) (tk : Nat), ∃ ρ', Rel K F σ ρ' { s with heap := s.heap.push { cls := .type "range", data := .fields #[.int a t, .int b u, .int c v] }, toks := tk } ∧
      Ext F.mine ρ ρ' s.heap (s.heap.push { cls := .type "range", data := .fields #[.int a t, .int b u, .int c v] }) ∧
      Rep K (s.heap.push { cls := .type "range", data := .fields #[.int a t, .int b u, .int c v] }) ρ' (.rng a b c) (.ref s.heap.objs.size) := by
    intro a b c t u v tk
    exact ⟨ρ, rel.push _ tk, Ext.push _, Rep.rng_iff.mpr ⟨_, t, u, v, rfl, IsRange.new _ a b c t u v⟩⟩
  unfold rangeB
  split
  · rename_i n
    obtain ⟨x, r', rfl, r1, r2⟩ := RepL.cons_iff.mp r
    obtain rfl := RepL.nil_iff.mp r2
    obtain ⟨t, rfl⟩ := Rep.int_iff.mp r1
    exact Run.ok (call_range_1 (fin ..))
  · rename_i a b
    obtain ⟨x, r', rfl, r1, r2⟩ := RepL.cons_iff.mp r
    obtain ⟨y, r'', rfl, r3, r4⟩ := RepL.cons_iff.mp r2
    obtain rfl := RepL.nil_iff.mp r4
    obtain ⟨t, rfl⟩ := Rep.int_iff.mp r1
    obtain ⟨u, rfl⟩ := Rep.int_iff.mp r3
    exact Run.ok (call_range_2 (fin ..))
  · rename_i a b c
    by_cases hc : c ≠ 0 ∧ c.natAbs < 1000000
    · rw [if_pos hc]
      obtain ⟨x, r', rfl, r1, r2⟩ := RepL.cons_iff.mp r
      obtain ⟨y, r'', rfl, r3, r4⟩ := RepL.cons_iff.mp r2
      obtain ⟨z, r''', rfl, r5, r6⟩ := RepL.cons_iff.mp r4
      obtain rfl := RepL.nil_iff.mp r6
      obtain ⟨t, rfl⟩ := Rep.int_iff.mp r1
      obtain ⟨u, rfl⟩ := Rep.int_iff.mp r3
      obtain ⟨v, rfl⟩ := Rep.int_iff.mp r5
      exact Run.ok (call_range_3 hc.1 (fin ..) (.inl (PyProof.noPylong_small (by omega))))
    · rw [if_neg hc]; exact Run.stuck
  · exact Run.stuck

/-! ### reversed(range(..)) -/
def revSmall (a b c : Int) : Bool := Builtin.Range.rangeFitsLong a && Builtin.Range.rangeFitsLong b && Builtin.Range.rangeFitsLong c && Builtin.Range.rangeFitsLong (-c) && Builtin.Range.rangeFitsLong (a - c) && Builtin.Range.rangeFitsLong (Builtin.Range.rangeSize a b c)
theorem range_reversed_meets (r : Addr) (a b c : Int) (t u v : Tok) (hc0 : ¬(!(Builtin.Range.rangeFitsLong a && Builtin.Range.rangeFitsLong b && Builtin.Range.rangeFitsLong c && Builtin.Range.rangeFitsLong (-c) && Builtin.Range.rangeFitsLong (a - c) && Builtin.Range.rangeFitsLong (Builtin.Range.rangeSize a b c))) = true) :
    Meets (Builtin.«range.__reversed__» ⟨[.ref r], []⟩) (fun _ R s => s.heap.get? r = some { cls := .type "range", dict := none, data := .fields #[.int a t, .int b u, .int c v], slots := #[] } ∧
      R (.ok (.ret (Value.ref s.heap.objs.size))) { s with heap := s.heap.push { cls := Value.type (if (Builtin.Range.rangeFitsLong a && Builtin.Range.rangeFitsLong b && Builtin.Range.rangeFitsLong c && Builtin.Range.rangeFitsLong (-c) && Builtin.Range.rangeFitsLong (a - c) && Builtin.Range.rangeFitsLong (Builtin.Range.rangeSize a b c)) = true then "range_iterator" else "longrange_iterator"), data := Data.fields #[rawInt (a + (Builtin.Range.rangeSize a b c - 1) * c), rawInt (Builtin.Range.rangeSize a b c), rawInt (-c)] }, toks := s.toks }) :=
  .of_wp fun prog w A R s h => by obtain ⟨hp, g, d, tk, os⟩ := s; obtain ⟨hl, h⟩ := h; wp_walk; exact ⟨_, rfl, h⟩

def revRObj (a b c : Int) : Obj := { cls := .type "range_iterator", data := .fields #[rawInt (a + (Builtin.Range.rangeSize a b c - 1) * c), rawInt (Builtin.Range.rangeSize a b c), rawInt (-c)] }
theorem sub_ri_reversed : isSubtype (.type "range_iterator") (.type "reversed") = pure false := by rw [isSubtype_type]; kernel_rfl

section
variable {prog : Program} {w : World} {A : Around} {E : Value → Shared → Prop} {s : Shared}
theorem call_range_reversed {r : Addr} {a b c : Int} {t u v : Tok} {Q : Value → Shared → Prop} (hr : IsRange s.heap r a b c t u v) (hsm : revSmall a b c = true)
    (h : Q (.ref s.heap.objs.size) { s with heap := s.heap.push (revRObj a b c) }) : wpAny (model prog w) A (call (.builtin "range.__reversed__") [.ref r]) Q E s := by
  have hT : s.TypeIs (.ref r) "range" := ⟨_, hr, rfl⟩
  unfold revSmall at hsm
  refine call_meets F.slot_range_reversed hT F.entry_range_reversed (F.args_range_reversed_1 _) (range_reversed_meets r a b c t u v (by rw [hsm]; simp)) ⟨hr, ?_⟩
  simp only [hsm, if_true]
  exact h

theorem code_reversed_range {r : Addr} {a b c : Int} {t u v : Tok} {Q₁ : Value → Shared → Prop} (hr : IsRange s.heap r a b c t u v) (hsm : revSmall a b c = true)
    (h : Q₁ (.ref s.heap.objs.size) { s with heap := s.heap.push (revRObj a b c) }) :
    codeAny (model prog w) A (.call (.builtin "reversed.__new__") ⟨[.type "reversed", .ref r], []⟩) (wants Q₁ E) s := by
  have hT : s.TypeIs (.ref r) "range" := ⟨_, hr, rfl⟩
  refine codeAny_of_tree ?_
  show wpAny _ A.in1 (do checkBuiltinCall "reversed.__new__" ⟨[.type "reversed", .ref r], []⟩; again (.builtin "reversed.__new__" ⟨[.type "reversed", .ref r], []⟩)) _ _ s
  refine wpAny_bind (wpAny_of_eq (F.newCall_reversed_1 _) (wpAny_pure ⟨plainId_quiet F.plain_reversed_new _, codeAny_builtin F.entry_reversed_new ?_⟩))
  rw [Around.under_plainId F.plain_reversed_new _]
  unfold Builtin.«reversed.__new__»
  refine wpAny_bind (wpAny_of_eq (newClass_reversed _) ?_)
  try dsimp only
  refine wpAny_bind (wpAny_of_eq (a := ()) (by first | rfl | kernel_rfl) ?_)
  refine wpAny_bind (wpAny_of_eq (a := ()) (by first | rfl | kernel_rfl) ?_)
  try dsimp only
  refine wpAny_bind (wpAny_specialOf hT F.slot_range_reversed.lookup ?_)
  try dsimp only
  refine wpAny_bind (wpAny_of_eq (F.slot_range_reversed.bind _) ?_)
  try dsimp only
  first
  | rw [if_neg (show ¬ ((Value.builtin "range.__reversed__" == Value.none) = true) from Bool.false_ne_true)]
  | (show wpAny _ _ (if (Value.builtin "range.__reversed__" == Value.none) = true then _ else _) _ _ _; rw [if_neg (show ¬ ((Value.builtin "range.__reversed__" == Value.none) = true) from Bool.false_ne_true)])
  refine wpAny_bind (wpAny_rule ?_)
  refine wpAny_bind (m := runValue (.call (.builtin "range.__reversed__") ⟨[.ref r], []⟩)) (show wpAny _ _ (call (.builtin "range.__reversed__") [.ref r]) _ _ _ from call_range_reversed hr hsm ?_)
  first
  | exact wpAny_pure h
  | exact wpAny_bind (wpAny_pure (wpAny_pure h))

theorem call_reversed_range {r : Addr} {a b c : Int} {t u v : Tok} {Q : Value → Shared → Prop} (hr : IsRange s.heap r a b c t u v) (hsm : revSmall a b c = true)
    (h : Q (.ref s.heap.objs.size) { s with heap := s.heap.push (revRObj a b c) }) : wpAny (model prog w) A (call (.type "reversed") [.ref r]) Q E s := by
  refine callType_other (U := "range_iterator") (Q₁ := fun obj s₁ => obj = .ref s.heap.objs.size ∧ s₁ = { s with heap := s.heap.push (revRObj a b c) }) (by decide +kernel) F.create_reversed ⟨_, _, F.mro_reversed⟩ F.made_reversed sub_ri_reversed (F.typeCall_reversed_1 _) (code_reversed_range hr hsm ⟨rfl, rfl⟩) ?_
  rintro obj s₁ ⟨rfl, rfl⟩
  exact ⟨⟨_, Heap.get?_push_size _ rfl, rfl⟩, h⟩
end

def revR : V → M V
  | .rng 0 b 1 => if 0 ≤ b ∧ b < 1000000 then pure (.rng (b - 1) (-1) (-1)) else stuck
  | _ => stuck

theorem fits_of {i : Int} (h : -1000000 ≤ i ∧ i ≤ 1000000) : Builtin.Range.rangeFitsLong i = true := by
  unfold Builtin.Range.rangeFitsLong
  simp only [Bool.and_eq_true, decide_eq_true_eq]
  omega
theorem rangeSize_up {b : Int} (h : 0 ≤ b) : Builtin.Range.rangeSize 0 b 1 = b := by
  rw [rangeSize_one]; split <;> omega
theorem rangeSize_down {b : Int} (h : 0 ≤ b) : Builtin.Range.rangeSize (b - 1) (-1) (-1) = b := by
  unfold Builtin.Range.rangeSize
  rw [if_neg (by omega)]
  split
  · simp
  · omega

theorem simS_for_rev (fk : FOk F) {target arg : Expr} {body : List Stmt} {ma : M V} {t : V → M Unit} {b : M Fl} {np cpos : Pos} (pos : Pos) (n : Nat) (hx : F.env.kindOf (Str.ofString "reversed") = some .globalImplicit) (hm : K.mg (Str.ofString "reversed") = none)
    (ha : SimE K F arg ma) (ht : SimT K F target t) (hb : SimSs K F body b)
    (hpl : (starEach [arg] F.env).any (·.1) = false := by rfl) (hst : starEach (arg :: []) F.env = (false, eval arg F.env) :: starEach [] F.env := by rfl)
    (hs : ∀ x, foldedSetIterable (.Call (.Name (Str.ofString "reversed") np) [arg] [] cpos) F.env x = pure x := by intro _; rfl) :
    SimS K F (.For target (.Call (.Name (Str.ofString "reversed") np) [arg] [] cpos) body [] pos) (do let v ← ma; let r ← revR v; forG (nxtOf r) t b n 0) := by
  intro σ ρ s rel
  rw [exec_For]
  refine Run.standAt ?_
  refine Run.of_wp fun hne => ?_
  refine wpAny_bind ?_
  rw [eval_CallName]
  refine wpAny_bind (wp_builtin fk rel hx hm (v := .type "reversed") (by decide +kernel) ?_)
  refine wp_callWith rfl (by rw [backTo_any]; exact hpl) ?_
  have hEs : SimEs K F [arg] (do let v ← ma; let vs ← (pure [] : M (List V)); pure (v :: vs)) := simEs_cons ha simEs_nil hst
  have hEq : (do let v ← ma; let r ← revR v; forG (nxtOf r) t b n 0 : M Fl) σ = ((do let v ← ma; let vs ← (pure [] : M (List V)); pure (v :: vs)) >>= fun vs => (match vs with | [v] => (do let r ← revR v; forG (nxtOf r) t b n 0 : M Fl) | _ => stuck)) σ := by
    simp only [M.bind_def]
    cases ma σ <;> rfl
  rw [hEq] at hne ⊢
  refine Run.bindWp (hEs cpos σ ρ s rel) hne fun vs σ₁ ρ₁ s₁ ws e1 e2 rel₁ x₁ rv => ?_
  rw [e2] at hne ⊢
  rcases vs with _ | ⟨v, _ | ⟨v2, vs⟩⟩
  · exact absurd rfl hne
  · obtain ⟨w, r', rfl, rv1, rv2⟩ := RepL.cons_iff.mp rv
    obtain rfl := RepL.nil_iff.mp rv2
    dsimp only at hne ⊢
    have hv : ∃ q, v = .rng 0 q 1 ∧ (0 ≤ q ∧ q < 1000000) := by
      unfold revR at hne
      split at hne
      · rename_i q
        by_cases h : 0 ≤ q ∧ q < 1000000
        · exact ⟨q, rfl, h⟩
        · rw [if_neg h] at hne; exact absurd rfl hne
      · exact absurd rfl hne
    obtain ⟨q, rfl, hq⟩ := hv
    have e3 : (do let r ← revR (.rng 0 q 1); forG (nxtOf r) t b n 0 : M Fl) σ₁ = forG (nxtOf (.rng (q - 1) (-1) (-1))) t b n 0 σ₁ := by
      rw [M.bind_def]; simp only [revR, if_pos hq]; rfl
    rw [e3] at hne ⊢
    obtain ⟨r, t', u, v', rfl, hR⟩ := Rep.rng_iff.mp rv1
    have hsm : revSmall 0 q 1 = true := by
      unfold revSmall
      simp only [Bool.and_eq_true]
      rw [rangeSize_up hq.1]
      refine ⟨⟨⟨⟨⟨fits_of (by omega), fits_of (by omega)⟩, fits_of (by omega)⟩, fits_of (by omega)⟩, fits_of (by omega)⟩, fits_of (by omega)⟩
    show wpAny _ _ (PySem.call (.type "reversed") [.ref r]) _ _ s₁
    refine call_reversed_range hR hsm ?_
    obtain ⟨f0, f1, f2, f3⟩ := fresh_facts rel₁
    rw [hs, pureBind]
    refine wpAny_bind (wpAny_standAt ?_)
    have hobj : revRObj 0 q 1 = { cls := .type "range_iterator", dict := none, data := .fields #[rawInt (q - 1), rawInt q, rawInt (-1)], slots := #[] } := by
      unfold revRObj
      rw [rangeSize_up hq.1]
      have : (0 : Int) + (q - 1) * 1 = q - 1 := by omega
      rw [this]
    have hget : (s₁.heap.push (revRObj 0 q 1)).get? s₁.heap.objs.size = some { cls := .type "range_iterator", dict := none, data := .fields #[rawInt (q - 1), rawInt q, rawInt (-1)], slots := #[] } := by
      rw [Heap.get?_push_size _ rfl, hobj]
    refine wpAny_bind (wpAny_holding (wpAny_pyIter_rangeiter hget ?_))
    have hlen : ((rngLen (q - 1) (-1) (-1) : Nat) : Int) = q := by rw [rngLen_eq, rangeSize_down hq.1]
    refine wpAny_mono (run_forLoop ht hb (iter_range (a := q - 1) (b := -1) (c := -1) fk) (rel₁.push _ s₁.toks) (Ext.push _) f0 f1 f2 f3 hget ⟨Nat.zero_le _, ?_⟩ n hne) (fun _ _ q => q.up x₁) fun _ _ q => q.up x₁
    rw [hlen]; simp
  · exact absurd rfl hne

end Mine


/-! part F17 -/
set_option autoImplicit false
set_option maxRecDepth 100000
set_option linter.unusedVariables false
open PySem PySem.W PyProof.Rows
namespace Mine

variable {K : Glo} {F : Frm}

/-- a new list that lies somewhere above -/
theorem Rel.newAt {σ : S} {ρ : List Addr} {s s' : Shared} {vs : List V} {ws : List Value} {a : Addr} {n : Nat} (rel : Rel K F σ ρ s) (hk : ∀ b o, s.heap.get? b = some o → s'.heap.get? b = some o) (h0 : s.heap.get? a = none)
    (hL : IsL s'.heap a ws.toArray n) (hr : RepL K s.heap ρ vs ws) (hln : vs.length ≤ 1000000) (hg : s'.gens = s.gens) (ho : s'.os = s.os) :
    Rel K F { σ with st := σ.st ++ [.lst vs] } (ρ ++ [a]) s' ∧ Ext F.mine ρ (ρ ++ [a]) s.heap s'.heap := by
  have r := rel.kept hk hg ho
  have hpre : ρ <+: ρ ++ [a] := List.prefix_append _ _
  have hanρ : a ∉ ρ := fun h => by
    obtain ⟨_, o, e, _⟩ := rel.toGRel.alive h
    rw [h0] at e; cases e
  have x : Ext F.mine ρ (ρ ++ [a]) s.heap s'.heap := by
    refine ⟨hpre, fun b o' e => ⟨o', hk _ _ e⟩, fun b hb => ?_, fun b o' e _ _ => ⟨o', hk _ _ e, .refl _⟩, kept_tup hk⟩
    rcases List.mem_append.mp hb with hb | hb
    · exact .inl hb
    · simp only [List.mem_singleton] at hb; subst hb; exact .inr h0
  refine ⟨{ gens := r.gens, os := r.os, base := r.base, len := ?_, cell := ?_, nodup := ?_, above := ?_, vars := ?_, loc := r.loc, cels := r.cels, mineAbove := r.mineAbove, mineApart := ?_, mineLoc := r.mineLoc }, x⟩
  · simp [rel.len]
  · intro l b c h1 h2
    dsimp only at h2
    by_cases hl : l < σ.st.length
    · rw [List.getElem?_append_left (by rw [rel.len]; exact hl)] at h1
      rw [List.getElem?_append_left hl] at h2
      exact (rel.cell l b c h1 h2).mono hpre (kept_tup hk) fun _ _ x => hk _ _ x
    · have hl' : l = σ.st.length := by
        rcases List.getElem?_eq_some_iff.mp h2 with ⟨h3, _⟩
        simp at h3; omega
      subst hl'
      rw [← rel.len, List.getElem?_concat_length] at h1; cases h1
      rw [List.getElem?_concat_length] at h2; cases h2
      exact ⟨hln, ws, n, hL, RepL.mono' hpre (kept_tup hk) hr⟩
  · refine List.nodup_append.mpr ⟨rel.nodup, by simp, ?_⟩
    intro b hb c hc
    simp only [List.mem_singleton] at hc; subst hc
    rintro rfl
    exact hanρ hb
  · intro l b hlb hl0
    by_cases hlt : l < ρ.length
    · rw [List.getElem?_append_left hlt] at hlb
      exact rel.above l b hlb hl0
    · have hb : b = a := by
        rw [List.getElem?_append_right (by omega)] at hlb
        have := List.mem_of_getElem? hlb
        simpa using this
      subst hb
      cases e : K.base.get? b with
      | none => rfl
      | some o' => have := rel.base _ _ e; rw [h0] at this; cases this
  · intro y v e
    obtain ⟨w, h1, h2⟩ := r.vars y v e
    exact ⟨w, h1, Rep.mono' hpre (fun _ _ e _ => e) h2⟩
  · intro b hb hc
    rcases List.mem_append.mp hc with hc | hc
    · exact rel.mineApart b hb hc
    · simp only [List.mem_singleton] at hc; subst hc
      obtain ⟨_, o', e⟩ := rel.mineAbove _ hb
      rw [h0] at e; cases e

/-! ### sorted of ints -/
def intsOf : List V → Option (List Int)
  | [] => some []
  | .int i :: vs => (intsOf vs).map (i :: ·)
  | _ :: _ => none
theorem intsOf_are {h : Heap} {ρ : List Addr} : ∀ {vs : List V} {ws : List Value} {ns : List Int}, RepL K h ρ vs ws → intsOf vs = some ns → IntsAre ws ns
  | [], ws, ns, r, e => by rw [RepL.nil_iff.mp r]; cases e; exact .nil
  | .int i :: vs, ws, ns, r, e => by
    obtain ⟨x, r', rfl, r1, r2⟩ := RepL.cons_iff.mp r
    obtain ⟨t, rfl⟩ := Rep.int_iff.mp r1
    unfold intsOf at e
    cases h' : intsOf vs with
    | none => rw [h'] at e; cases e
    | some ns' => rw [h'] at e; cases e; exact .cons i t (intsOf_are r2 h')
  | .none :: _, _, _, _, e => by cases e
  | .bool _ :: _, _, _, _, e => by cases e
  | .str _ :: _, _, _, _, e => by cases e
  | .tup _ :: _, _, _, _, e => by cases e
  | .obj _ :: _, _, _, _, e => by cases e
  | .fn _ :: _, _, _, _, e => by cases e
  | .rng _ _ _ :: _, _, _, _, e => by cases e
theorem ints_rep {h : Heap} {ρ : List Addr} : ∀ {ws : List Value} {ns : List Int}, IntsAre ws ns → RepL K h ρ (ns.map .int) ws
  | _, _, .nil => RepL.nil
  | _, _, .cons n t r => RepL.cons (Rep.int n t) (ints_rep r)

def sortI (ns : List Int) : List Int := ns.mergeSort (fun a b => decide (a ≤ b))
theorem sortI_perm (ns : List Int) : (sortI ns).Perm ns := List.mergeSort_perm _ _
theorem sortI_sorted (ns : List Int) : (sortI ns).Pairwise (· ≤ ·) := by
  have := List.pairwise_mergeSort (le := fun a b : Int => decide (a ≤ b)) (by intro a b c h1 h2; simp at *; omega) (by intro a b; simp; omega) ns
  exact this.imp fun h => by simpa using h
theorem sortI_eq {a b : List Int} (p : a.Perm b) (h : a.Pairwise (· ≤ ·)) : a = sortI b := lks_uniq (p.trans (sortI_perm b).symm) h (sortI_sorted b)

def sortedB : List V → M V
  | [.obj l] => fun σ => match σ.st[l]? with
    | some (.lst vs) => match intsOf vs with
      | some ns => if vs.length < 64 then .ok (.obj σ.st.length) { σ with st := σ.st ++ [.lst ((sortI ns).map .int)] } else .stuck
      | none => .stuck
    | _ => .stuck
  | _ => stuck

theorem built_sorted : BuiltOk K (.builtin "sorted") sortedB := by
  intro F fk σ ρ s vs ws rel r
  unfold sortedB
  split
  · rename_i l
    obtain ⟨x, r', rfl, r1, r2⟩ := RepL.cons_iff.mp r
    obtain rfl := RepL.nil_iff.mp r2
    cases hl : σ.st[l]? with
    | none => exact Run.stuck
    | some c =>
      cases c with
      | lst us =>
        dsimp only
        cases hi : intsOf us with
        | none => exact Run.stuck
        | some ns =>
          dsimp only
          by_cases h64 : us.length < 64
          · rw [if_pos h64]
            obtain ⟨a, xs, n, rfl, hρ, hL, hr, hn⟩ := rel.list r1 hl
            refine Run.ok (sorted_ints hL.isList (intsOf_are hr hi) (by rw [hr.length]; exact h64) fun out ns' a1 a2 a3 => ?_)
            have e1 : ns' = sortI ns := sortI_eq a2 a3
            subst e1
            have hsz : ((s.heap.push (seqObj "list" #[] 0)).update s.heap.objs.size (Obj.mapSeq (· ++ xs.toArray))).objs.size = s.heap.objs.size + 1 := by
              rw [Heap.size_update, size_push']
            have hoL : (((s.heap.push (seqObj "list" #[] 0)).update s.heap.objs.size (Obj.mapSeq (· ++ xs.toArray))).push (seqObj "list" xs.toArray 0)).get? (s.heap.objs.size + 1) = some (seqObj "list" xs.toArray 0) := by
              rw [← hsz]; exact Heap.get?_push_size _ rfl
            have hkeep : ∀ b o, s.heap.get? b = some o → (sortedAll s.heap xs out).get? b = some o := by
              intro b o e
              have hlt : b < s.heap.objs.size := Heap.lt_size e
              have hne1 : b ≠ s.heap.objs.size := Nat.ne_of_lt hlt
              have hne2 : b ≠ s.heap.objs.size + 1 := Nat.ne_of_lt (Nat.lt_succ_of_lt hlt)
              unfold sortedAll sortedHeap
              rw [Heap.get?_update_ne _ _ _ _ hne2]
              refine Heap.get?_push_of_some _ (Heap.get?_push_of_some _ ?_)
              rw [Heap.get?_update_ne _ _ _ _ hne2]
              refine Heap.get?_push_of_some _ ?_
              rw [Heap.get?_update_ne _ _ _ _ hne1]
              exact Heap.get?_push_of_some _ e
            have hout : ∃ m, IsL (sortedAll s.heap xs out) (s.heap.objs.size + 1) out m := by
              unfold sortedAll sortedHeap
              have h1 := get?_update_seq hoL (fun _ => (#[] : Array Value))
              exact ⟨_, get?_update_seq (Heap.get?_push_of_some (seqObj "list" #[] 0) (Heap.get?_push_of_some (seqObj "tuple" xs.toArray 0) h1)) (fun _ => out)⟩
            obtain ⟨m, hm⟩ := hout
            have hlen : ((sortI ns).map V.int).length ≤ 1000000 := by
              have := (ints_rep (K := K) (h := s.heap) (ρ := ρ) a1).length
              have h2 := (sortI_perm ns).length_eq
              have h3 := (ints_rep (K := K) (h := s.heap) (ρ := ρ) (intsOf_are hr hi)).length
              rw [List.length_map] at h3 ⊢
              rw [h2, ← h3, hr.length]; omega
            obtain ⟨rel', x'⟩ := rel.newAt (s' := { s with heap := sortedAll s.heap xs out }) (ws := out.toList) (vs := (sortI ns).map .int) hkeep (Heap.get?_none_of_le (Nat.le_succ _)) (n := m) (by simpa using hm) (ints_rep a1) hlen rfl rfl
            exact ⟨_, rel', x', Rep.obj_iff.mpr ⟨_, by rw [← rel.len, List.getElem?_concat_length], rfl⟩⟩
          · rw [if_neg h64]; exact Run.stuck
  · exact Run.stuck

end Mine


/-! part F18 -/
set_option autoImplicit false
set_option maxRecDepth 100000
set_option linter.unusedVariables false
open PySem PySem.W PyProof.Rows
namespace Mine

variable {K : Glo} {F : Frm}

/-! ### the defs of a text -/
def recAt (p : Program) (i : Nat) : DefRec := match p.main.body[i]? with
  | some (.FunctionDef name a b _ _ _ sc _ _ pos) => ⟨name, a, b, sc, pos⟩
  | _ => ⟨Str.ofString "", { posonlyargs := [], args := [], vararg := none, kwonlyargs := [], kw_defaults := [], kwarg := none, defaults := [] }, [], { kind := .function, names := [], isGenerator := false, isCoroutine := false }, ⟨0, 0, 0, 0⟩⟩

def frm (d : DefRec) (pm code doc : Value) (L fa : Addr) (A : Around) : Frm := defFrm (PySem.Calls.docDef d.name d.params d.body d.scope pm code doc) L fa A

theorem FOk.def {d : DefRec} {pm code doc : Value} {L fa : Addr} {A : Around} {n : Nat} (hr : Room A n) (hk : d.scope.kind = .function) : FOk (frm d pm code doc L fa A) :=
  ⟨hk, rfl, rfl, hr.1, by have := hr.2.2; show A.units + 1000 < cLine; omega⟩

def HasF (K : Glo) (x : String) (lvl : Nat) (g : Fun) : Prop := ∃ fa fd body, K.mg (Str.ofString x) = some (.ref fa) ∧ DefAt K fa fd body ∧ SimF K lvl (.ref fa) g

theorem hasF_of {d : DefRec} {x : String} {params : List String} {lvl : Nat} {mb : M Fl} (hd : d ∈ recsOf K.p) (hx : d.name = Str.ofString x) (hsc : d.scope.kind = .function) (hco : d.scope.isCoroutine = false) (hgen : d.scope.isGenerator = false) (hnd : params.Nodup)
    (hbind : ∀ (pm code doc : Value) (ws : List Value), ws.length = params.length → bindArgs (PySem.Calls.docDef d.name d.params d.body d.scope pm code doc) ⟨ws, []⟩ = pure ((params.map Str.ofString).zip ws))
    (hkind : ∀ n, ∀ y ∈ params, d.scope.names.lookup (Str.ofString y) = some .local ∨ (d.scope.names.lookup (Str.ofString y) = some .cell ∧ ((cellsFrom n d.scope.names []).lookup (Str.ofString y)).isSome = true))
    (hb : ∀ pm code doc L fa A, Room A lvl → FOk (frm d pm code doc L fa A) → SimSs K (frm d pm code doc L fa A) d.body mb) : HasF K x (lvl + 1) (funM params mb) := by
  obtain ⟨a, o, pm, code, doc, h1, h2, h3, h4⟩ := K.top.fn d hd
  have da : DefAt K a (PySem.Calls.docDef d.name d.params d.body d.scope pm code doc) d.body := ⟨⟨o, h2, h3⟩, h4, rfl, rfl, rfl, rfl, hco, hgen, hsc⟩
  refine ⟨a, _, d.body, by rw [← hx]; exact h1, da, ?_⟩
  exact simF_def da hnd (hbind pm code doc) hkind fun L A hr => hb pm code doc L a A hr (FOk.def hr hsc)

theorem simE_callF (fk : FOk F) {x : String} {np pos : Pos} {args : List Expr} {ms : M (List V)} {g : Fun} {lvl : Nat} (hf : HasF K x lvl g) (hr : Room F.A lvl)
    (hs : SimEs K F args ms) (hx : F.env.kindOf (Str.ofString x) = some .globalImplicit := by kernel_rfl)
    (hpl : (starEach args F.env).any (·.1) = false := by rfl) (hdb : (Str.ofString x == ("__debug__" : Str)) = false := by decide) :
    SimE K F (.Call (.Name (Str.ofString x) np) args [] pos) (do let vs ← ms; callF g vs) := by
  obtain ⟨fa, fd, body, h1, h2, h3⟩ := hf
  exact simE_callDef fk hx h1 h2 h3 hr hs hpl hdb

theorem simT_cellD {d : DefRec} {pm code doc : Value} {L fa : Addr} {A : Around} (x : String) (pos : Pos) (fk : FOk (frm d pm code doc L fa A)) {c : Addr} (hk : d.scope.names.lookup (Str.ofString x) = some .cell)
    (hc : (cellsFrom (L + 1) d.scope.names []).lookup (Str.ofString x) = some c) : SimT K (frm d pm code doc L fa A) (.Name (Str.ofString x) pos) (fun v => setv x v) :=
  simT_cell x pos fk hk hc (List.mem_cons_of_mem _ (cellAddrs_of hc)) (cell_inj hc)

end Mine


/-! part F19 -/
set_option autoImplicit false
set_option maxRecDepth 100000
set_option linter.unusedVariables false
open PySem PySem.W PyProof.Rows
namespace Mine

variable {K : Glo} {F : Frm}

theorem wellAll_ints {P : Params} {h : Heap} : ∀ {vs : List Value} {ns : List Int}, WellAll P h vs (ofPys (ns.map PyData.int)) → IntsAre vs ns
  | _, [], x => by cases x; exact .nil
  | _, n :: ns, x => by
    cases x with
    | cons x1 x2 => cases x1; exact .cons n _ (wellAll_ints x2)
theorem well_script {P : Params} {h : Heap} {a : Addr} {ns : List Int} (x : Well P h (.ref a) (ofPy (PyData.list (ns.map PyData.int)))) : ∃ vs, IsL h a vs.toArray 0 ∧ IntsAre vs ns := by
  cases x with
  | list e r => exact ⟨_, e, wellAll_ints r⟩

theorem room_caller {n : Nat} (h : n ≤ 600) : Room callerA n := by
  refine ⟨rfl, ?_, ?_⟩
  · have h1 : callerA.depth = 301 := by decide +kernel
    have h2 : recursionLimit = 1000 := by decide +kernel
    omega
  · have h1 : callerA.units = 4 := rfl
    have h2 : cLine = 9900 := by decide +kernel
    omega

theorem top_law {prog : Program} {w : World} {p : Program} {loose : List Str} {mean mean' : ExcName → Option Value} {mg mb : Str → Option Value} {s₁ : Shared} {fa l : Addr} {c : ClaimW} {cl : Str → Option Addr} {args : List WData}
    (T : Top p loose mean mg mb s₁.heap) (hg : s₁.gens = #[]) {g : Fun} {lvl : Nat} {ws : List Value} {ns : List Int}
    (hf : HasF ⟨prog, w, p, loose, mean, mg, mb, s₁.heap, s₁.os, T⟩ "law" lvl g) (hl : lvl ≤ 600) (hmg : mg (Str.ofString "law") = some (.ref fa))
    (hL : IsL s₁.heap l ws.toArray 0) (hI : IntsAre ws ns) (hn : ns.length ≤ 63) {st' : Store} (hlaw : g [.obj 0] [.lst (ns.map .int)] = .ok (.bool true) st')
    (hraise : ∀ cls, c.raises args cls = false) (hpost : c.post args (.bool true) args = true) :
    codeAny (model prog w) callerA (.call (.ref fa) ⟨[.ref l], []⟩) (GoodW c cl mean' args s₁) s₁ := by
  obtain ⟨fa', fd, body, h1, h2, h3⟩ := hf
  have e : fa' = fa := by
    have h1' : mg (Str.ofString "law") = some (.ref fa') := h1
    rw [hmg] at h1'; cases h1'; rfl
  subst e
  have hlen : ws.length = ns.length := by
    have := (ints_rep (K := ⟨prog, w, p, loose, mean, mg, mb, s₁.heap, s₁.os, T⟩) (h := s₁.heap) (ρ := []) hI).length
    simpa using this
  have gr : GRel ⟨prog, w, p, loose, mean, mg, mb, s₁.heap, s₁.os, T⟩ [.lst (ns.map .int)] [l] s₁ := by
    refine ⟨hg, rfl, fun _ _ e => e, rfl, ?_, by simp, ?_⟩
    · intro k a c' h4 h5
      cases k with
      | zero =>
        simp only [List.getElem?_cons_zero, Option.some.injEq] at h4 h5
        subst h4 h5
        exact ⟨by simp; omega, ws, 0, hL, ints_rep hI⟩
      | succ k => simp at h4
    · intro k a h4 h5
      cases k with
      | zero => exact absurd rfl h5
      | succ k => simp at h4
  have main := h3 callerA (room_caller hl) _ [l] s₁ gr [.obj 0] [.ref l] (RepL.cons (Rep.obj_iff.mpr ⟨l, rfl, rfl⟩) RepL.nil) (by rw [hlaw]; simp)
  refine codeAny_mono main fun r s' h => ?_
  rcases h with ⟨v, st1, w1, ρ', e1, rfl, g1, x1, r1⟩ | ⟨e0, st1, w1, ρ', e1, _⟩
  · rw [hlaw] at e1
    cases e1
    rw [Rep.bool_iff.mp r1]
    exact ⟨.inl ⟨_, .bool true, [], rfl, hraise, .bool true, hpost, unshared_nil⟩, g1.base, g1.os, g1.gens⟩
  · rw [hlaw] at e1; cases e1

end Mine


/-! part F20 -/
set_option autoImplicit false
set_option maxRecDepth 100000
set_option linter.unusedVariables false
open PySem PySem.W PyProof.Rows
namespace Mine

variable {K : Glo} {F : Frm}

/-! ### a, b = x, y: the stores go in the other order -/
def setAll : List String → List V → M Unit
  | x :: xs, v :: vs => do setv x v; setAll xs vs
  | _, _ => pure ()
def swapT (names : List String) : V → M Unit
  | .tup vs => if vs.length = names.length then setAll names.reverse vs.reverse else stuck
  | _ => stuck

theorem run_setAll (fk : FOk F) : ∀ (names : List String) (vs : List V) (ws : List Value) (σ : S) (ρ : List Addr) (s : Shared), Rel K F σ ρ s → RepL K s.heap ρ vs ws → vs.length = names.length → (∀ x ∈ names, F.env.kindOf (Str.ofString x) = some .local) →
    Run K F (assignInOrder (names.map fun n => bindName F.env (Str.ofString n)) ws) URep (setAll names vs σ) ρ s
  | [], vs, ws, σ, ρ, s, rel, r, hl, _ => by
    cases vs with
    | nil => rw [RepL.nil_iff.mp r]; exact Run.pure rel trivial
    | cons v vs => simp at hl
  | x :: xs, vs, ws, σ, ρ, s, rel, r, hl, hk => by
    cases vs with
    | nil => simp at hl
    | cons v vs =>
      obtain ⟨w, ws', rfl, r1, r2⟩ := RepL.cons_iff.mp r
      show Run K F (do holding ws' (bindName F.env (Str.ofString x) w); assignInOrder (xs.map fun n => bindName F.env (Str.ofString n)) ws') URep ((do setv x v; setAll xs vs : M Unit) σ) ρ s
      have h1 : Run K F (bindName F.env (Str.ofString x) w) URep (setv x v σ) ρ s := by
        have hkx := hk x List.mem_cons_self
        refine Run.ok (wpAny_bindName ?_)
        obtain ⟨m, hm⟩ := rel.loc
        refine wpAny_storeName_local hkx hm (fun h' hn hs => ?_) (by rw [fk.kind]; rfl)
        obtain ⟨rel', x'⟩ := rel.setLocal (s' := { s with heap := h', toks := s.toks + 1 }) hkx hm hn hs r1 rfl rfl
        exact ⟨ρ, rel', x', trivial⟩
      refine Run.bind (Run.holding h1) fun _ σ₁ ρ₁ s₁ _ _ rel₁ x₁ _ => ?_
      exact run_setAll fk xs vs ws' σ₁ ρ₁ s₁ rel₁ (r2.mono x₁) (by simpa using hl) (fun y hy => hk y (List.mem_cons_of_mem _ hy))

theorem simS_assign_swap (fk : FOk F) {es : List Expr} {e : Expr} {m : M V} (pos : Pos) {k : Nat} {tpos : Pos} (names : List String) (h : SimE K F e m) (hk : ∀ x ∈ names, F.env.kindOf (Str.ofString x) = some .local)
    (hs : swapsWith e (some (.Tuple es k tpos)) pos.line F.env = pure false := by rfl) (hsw : swappedStores [.Tuple es k tpos] e F.env = pure (some (names.map Str.ofString)) := by rfl) :
    SimS K F (.Assign [.Tuple es k tpos] e pos) (do let v ← m; swapT names v; pure .next) := by
  intro σ ρ s rel
  rw [exec_Assign1]
  refine Run.standAt ?_
  rw [show swapsWithSole [.Tuple es k tpos] e pos.line F.env = pure false from hs, pureBind, if_neg Bool.false_ne_true]
  refine Run.bind (h σ ρ s rel) fun v σ₁ ρ₁ s₁ w _ rel₁ x₁ r => ?_
  rw [hsw, pureBind]
  show Run K F (do rule "assign.swapped-stores"; let items ← unpackItems w (names.map Str.ofString).length none; assignInOrder ((names.map Str.ofString).reverse.map fun n => bindName F.env n) items.reverse; (pure Flow.next : Sem Flow)) _ _ ρ₁ s₁
  refine Run.of_wp fun hne => ?_
  cases v with
  | tup vs =>
    by_cases hl : vs.length = names.length
    · obtain ⟨_, a, ws, rfl, ht, rl⟩ := Rep.tup_iff.mp r
      have e1 : (swapT names (.tup vs) >>= fun _ => (Pure.pure Fl.next : M Fl)) σ₁ = (setAll names.reverse vs.reverse >>= fun _ => (Pure.pure Fl.next : M Fl)) σ₁ := by
        rw [M.bind_def, M.bind_def]; simp only [swapT, if_pos hl]
      rw [e1] at hne ⊢
      refine wpAny_bind (wpAny_rule (wpAny_bind ?_))
      have hn : (names.map Str.ofString).length = ws.toArray.size := by rw [List.length_map, List.size_toArray, rl.length, hl]
      rw [hn]
      refine unpackItems_tuple fk.hd ht fun h' hx => ?_
      have hkp := kept_of_extBut hx
      have rel' : Rel K F σ₁ ρ₁ { s₁ with heap := h' } := rel₁.kept hkp rfl rfl
      have x' : Ext F.mine ρ₁ ρ₁ s₁.heap h' := Ext.kept hkp
      have e2 : (names.map Str.ofString).reverse.map (fun n => bindName F.env n) = names.reverse.map fun n => bindName F.env (Str.ofString n) := by
        rw [← List.map_reverse, List.map_map]; rfl
      rw [e2]
      have key := run_setAll fk names.reverse vs.reverse ws.reverse σ₁ ρ₁ { s₁ with heap := h' } rel' (rl.mono x').reverse (by simp [hl]) (fun y hy => hk y (by simpa using hy))
      refine wpAny_bind (wpAny_mono (Run.bindWp (P := fun _ s₂ => wpAny (model K.prog K.w) F.A (pure Flow.next) (QO K F (FlRep K) ((setAll names.reverse vs.reverse >>= fun _ => (Pure.pure Fl.next : M Fl)) σ₁) ρ₁ s₁.heap) (EO K F ((setAll names.reverse vs.reverse >>= fun _ => (Pure.pure Fl.next : M Fl)) σ₁) ρ₁ s₁.heap) s₂) key hne ?_) (fun _ _ q => q) (fun _ _ q => q.up x'))
      intro u σ₂ ρ₂ s₂ _ _ e4 rel₂ x₂ _
      rw [e4]
      exact wpAny_pure ⟨.next, σ₂, ρ₂, rfl, rel₂, x'.trans x₂, rfl⟩
    · exact absurd (by rw [M.bind_def]; simp only [swapT, if_neg hl]; rfl) hne
  | _ => exact absurd (by rw [M.bind_def]; rfl) hne

/-! ### x += y, where x is a name and y no list -/
end Mine


/-! part F21 -/
set_option autoImplicit false
set_option maxRecDepth 100000
set_option linter.unusedVariables false
open PySem PySem.W PyProof.Rows
namespace Mine

variable {K : Glo} {F : Frm}

/-! ### x += y -/
def InpOk (K : Glo) (op : Operator) (f : V → V → M V) : Prop :=
  ∀ F : Frm, FOk F → ∀ σ ρ s a b wa wb, Rel K F σ ρ s → Rep K s.heap ρ a wa → Rep K s.heap ρ b wb → Run K F (inplaceOp op wa wb) (Rep K) (f a b σ) ρ s

theorem iseq_list : seqSlot? (.type "list") (dunderI "add") = pure (some (.builtin "list.__iadd__")) := PySem.seqSlot_of PySem.F.slot_list_iadd.lookup (by decide +kernel)
theorem wp_iadd_list {A : Around} {s : Shared} {l b : Addr} {items items2 : Array Value} {n n2 : Nat} {Q : Value → Shared → Prop} {E : Value → Shared → Prop} (hl : IsL s.heap l items n) (hb : IsL s.heap b items2 n2) (h1 : items.size ≤ 1000000) (h2 : items2.size ≤ 1000000)
    (h : Q (.ref l) { s with heap := s.heap.update l (Obj.mapSeq fun x => x ++ items2) }) : wpAny (model K.prog K.w) A (inplaceOp .Add (.ref l) (.ref b)) Q E s := by
  have ha : s.TypeIs (.ref l) "list" := ⟨_, hl, rfl⟩
  have hb' : s.TypeIs (.ref b) "list" := ⟨_, hb, rfl⟩
  have hfi : fillsInplaceSlot (.type "list") "add" (Operator.Add == .Add) = pure false := by
    unfold fillsInplaceSlot
    show (typeLookup (.type "list") (dunderI "add") >>= fun fi => pure (fi.isSome && !isSeqSlot fi)) = pure false
    rw [PySem.F.slot_list_iadd.lookup]; rfl
  unfold inplaceOp
  refine wpAny_holding ?_
  refine wpAny_bind (wpAny_typeOf ha (wpAny_bind (wpAny_of_eq hfi ?_)))
  show wpAny _ A (if false = true then _ else _) Q E s
  rw [if_neg Bool.false_ne_true]
  refine wpAny_bind (binaryOp1_none (nm := "add") ha hb' noFill_list_add ?_)
  refine wpAny_bind (wpAny_of_eq iseq_list ?_)
  refine wpAny_bind (wpAny_rule ?_)
  refine call_meets PySem.F.slot_list_iadd ha PySem.F.entry_list_iadd (PySem.F.args_list_iadd_2 _ _) (AutoSeq1.list___iadd___list_list_0 l items n b items2 n2 ?_ (sizeLine_ge h1) (by rw [sizeLine_eq]; omega)) ⟨hl, hb, h⟩
  have : Builtin.List.listTooLong (items.size + items2.size) = false := by
    unfold Builtin.List.listTooLong
    have hz : sizeLine = _ := sizeLine_eq
    simp only [decide_eq_false_iff_not]
    omega
  simp [this]

def iaddV : V → V → M V
  | .int a, .int b => fun σ => .ok (.int (a + b)) σ
  | .obj l, .obj k => fun σ => if l = 0 then .stuck else match σ.st[l]?, σ.st[k]? with
    | some (.lst xs), some (.lst ys) => if (xs ++ ys).length ≤ 1000000 then .ok (.obj l) { σ with st := σ.st.set l (.lst (xs ++ ys)) } else .stuck
    | _, _ => .stuck
  | _, _ => fun _ => .stuck
def isubV : V → V → M V
  | .int a, .int b => fun σ => .ok (.int (a - b)) σ
  | _, _ => fun _ => .stuck

theorem inp_add : InpOk K .Add iaddV := by
  intro F fk σ ρ s a b wa wb rel ra rb
  cases a with
  | int i =>
    cases b with
    | int j =>
      obtain ⟨t, rfl⟩ := Rep.int_iff.mp ra
      obtain ⟨u, rfl⟩ := Rep.int_iff.mp rb
      exact Run.ok (PyProof.Rows.iadd_int ⟨ρ, rel.tok _, Ext.refl .., Rep.int ..⟩)
    | _ => exact Run.stuck
  | obj l =>
    cases b with
    | obj k =>
      unfold iaddV
      dsimp only
      by_cases hl0 : l = 0
      · rw [if_pos hl0]; exact Run.stuck
      rw [if_neg hl0]
      cases hl : σ.st[l]? with
      | none => exact Run.stuck
      | some c =>
        cases c with
        | lst xs =>
          cases hk : σ.st[k]? with
          | none => exact Run.stuck
          | some c' =>
            cases c' with
            | lst ys =>
              dsimp only
              obtain ⟨x, ws, n, rfl, hρ, hL, hr, hn⟩ := rel.list ra hl
              obtain ⟨y, us, n', rfl, hρ', hL', hr', hn'⟩ := rel.list rb hk
              by_cases hz : (xs ++ ys).length ≤ 1000000
              · rw [if_pos hz]
                refine Run.ok (wp_iadd_list hL hL' (by rw [List.size_toArray, hr.length]; exact hn) (by rw [List.size_toArray, hr'.length]; exact hn') ?_)
                obtain ⟨rel', x'⟩ := rel.upd (s' := { s with heap := s.heap.update x (Obj.mapSeq fun z => z ++ us.toArray) }) (vs := xs ++ ys) (ws := ws ++ us) hρ hl0 (Heap.SameBut.update ..) (by
                  have := hL.update (fun z => z ++ us.toArray)
                  rw [List.append_toArray] at this
                  exact this) (hr.append hr') hz rfl rfl
                exact ⟨ρ, rel', x', ra.mono x'⟩
              · rw [if_neg hz]; exact Run.stuck
    | _ => exact Run.stuck
  | _ => exact Run.stuck
theorem inp_sub : InpOk K .Sub isubV := by
  intro F fk σ ρ s a b wa wb rel ra rb
  cases a with
  | int i =>
    cases b with
    | int j =>
      obtain ⟨t, rfl⟩ := Rep.int_iff.mp ra
      obtain ⟨u, rfl⟩ := Rep.int_iff.mp rb
      exact Run.ok (PyProof.Rows.isub_int ⟨ρ, rel.tok _, Ext.refl .., Rep.int ..⟩)
    | _ => exact Run.stuck
  | _ => exact Run.stuck

theorem exec_AugName (x : Str) (npos pos : Pos) (op : Operator) (value : Expr) (env : Env) : exec (.AugAssign (.Name x npos) op value pos) env = (do
    standAt npos
    let old ← loadName env x
    let v ← holding [old] (eval value env)
    standAt pos
    let new ← operate [old, v] (inplaceOp op old v)
    standAt npos
    bindName env x new
    pure .next) := rfl

theorem run_loadName (fk : FOk F) (x : String) (hc : (Str.ofString x == ("__classdict__" : Str)) = false) {σ : S} {ρ : List Addr} {s : Shared} (rel : Rel K F σ ρ s) : Run K F (loadName F.env (Str.ofString x)) (Rep K) (getv x σ) ρ s := by
  unfold getv
  cases e : σ.lo x with
  | none => exact Run.stuck
  | some v =>
    dsimp only
    obtain ⟨w, h1, h2⟩ := rel.vars x v e
    have fin : ∃ ρ', Rel K F σ ρ' s ∧ Ext F.mine ρ ρ' s.heap s.heap ∧ Rep K s.heap ρ' v w := ⟨ρ, rel, Ext.refl .., h2⟩
    rcases h1 with ⟨k, m, n, em⟩ | ⟨k | k, c, ec, n⟩
    · exact Run.ok (wpAny_loadName_local fk.kind k n em fin)
    · exact Run.ok (wpAny_loadName_cell fk.kind k ec n fin)
    · exact Run.ok (wpAny_loadName_free fk.kind k ec n fin hc)

/-- x op= value, x a local name -/
theorem simS_aug (fk : FOk F) {op : Operator} {f : V → V → M V} (ho : InpOk K op f) (x : String) {npos : Pos} {e : Expr} {m : M V} (pos : Pos) (hk : F.env.kindOf (Str.ofString x) = some .local) (h : SimE K F e m)
    (hc : (Str.ofString x == ("__classdict__" : Str)) = false := by decide) :
    SimS K F (.AugAssign (.Name (Str.ofString x) npos) op e pos) (do let a ← getv x; let b ← m; let c ← f a b; setv x c; pure .next) := by
  intro σ ρ s rel
  rw [exec_AugName]
  refine Run.standAt (Run.bind (run_loadName fk x hc rel) fun a σ₁ ρ₁ s₁ wa _ rel₁ x₁ ra => ?_)
  refine Run.bind (Run.holding (h σ₁ ρ₁ s₁ rel₁)) fun b σ₂ ρ₂ s₂ wb _ rel₂ x₂ rb => ?_
  refine Run.standAt (Run.bind (Run.operate (ho F fk σ₂ ρ₂ s₂ a b wa wb rel₂ (ra.mono x₂) rb)) fun c σ₃ ρ₃ s₃ wc _ rel₃ x₃ rc => ?_)
  refine Run.standAt ?_
  have h1 : Run K F (bindName F.env (Str.ofString x) wc) URep (setv x c σ₃) ρ₃ s₃ := by
    refine Run.ok (wpAny_bindName ?_)
    obtain ⟨mm, hm⟩ := rel₃.loc
    refine wpAny_storeName_local hk hm (fun h' hn hs => ?_) (by rw [fk.kind]; rfl)
    obtain ⟨rel', x'⟩ := rel₃.setLocal (s' := { s₃ with heap := h', toks := s₃.toks + 1 }) hk hm hn hs rc rfl rfl
    exact ⟨ρ₃, rel', x', trivial⟩
  exact Run.bind h1 fun _ σ₄ ρ₄ s₄ _ _ rel₄ _ _ => Run.pure rel₄ rfl

/-! ### min, max of two ints -/
def minB : List V → M V
  | [.int a, .int b] => fun σ => .ok (.int (if b < a then b else a)) σ
  | _ => fun _ => .stuck
def maxB : List V → M V
  | [.int a, .int b] => fun σ => .ok (.int (if b > a then b else a)) σ
  | _ => fun _ => .stuck
theorem built_min : BuiltOk K (.builtin "min") minB := by
  intro F fk σ ρ s vs ws rel r
  unfold minB
  split
  · obtain ⟨x, r', rfl, r1, r2⟩ := RepL.cons_iff.mp r
    obtain ⟨y, r'', rfl, r3, r4⟩ := RepL.cons_iff.mp r2
    obtain rfl := RepL.nil_iff.mp r4
    obtain ⟨t, rfl⟩ := Rep.int_iff.mp r1
    obtain ⟨u, rfl⟩ := Rep.int_iff.mp r3
    refine Run.ok (min_two_ints fk.hd fun h' tk hk => ⟨ρ, rel.kept hk rfl rfl, Ext.kept hk, ?_⟩)
    split <;> exact Rep.int ..
  · exact Run.stuck
theorem built_max : BuiltOk K (.builtin "max") maxB := by
  intro F fk σ ρ s vs ws rel r
  unfold maxB
  split
  · obtain ⟨x, r', rfl, r1, r2⟩ := RepL.cons_iff.mp r
    obtain ⟨y, r'', rfl, r3, r4⟩ := RepL.cons_iff.mp r2
    obtain rfl := RepL.nil_iff.mp r4
    obtain ⟨t, rfl⟩ := Rep.int_iff.mp r1
    obtain ⟨u, rfl⟩ := Rep.int_iff.mp r3
    refine Run.ok (max_two_ints fk.hd fun h' tk hk => ⟨ρ, rel.kept hk rfl rfl, Ext.kept hk, ?_⟩)
    split <;> exact Rep.int ..
  · exact Run.stuck

/-! ### the names that a comprehension shares with its frame -/
theorem kne_cell {k : Option NameKind} (h : k = some .cell) : k ≠ some .local := by rw [h]; decide
theorem ck_nil {cells : List (Str × Addr)} : ∀ p ∈ ([] : List (Str × Addr)), cells.lookup p.1 = some p.2 := by intro p hp; cases hp
theorem ck_cons {cells cl : List (Str × Addr)} {x : Str} {a : Addr} (h : cells.lookup x = some a) (hs : ∀ p ∈ cl, cells.lookup p.1 = some p.2) : ∀ p ∈ (x, a) :: cl, cells.lookup p.1 = some p.2 := by
  intro p hp
  rcases List.mem_cons.mp hp with rfl | hp
  · exact h
  · exact hs p hp
theorem ck_cells {cl cells : List (Str × Addr)} (hall : ∀ p ∈ cl, cells.lookup p.1 = some p.2) : ∀ x c, cl.lookup x = some c → cells.lookup x = some c :=
  fun x c h => hall (x, c) (mem_of_lookup h)

end Mine


/-! part S1 -/
set_option autoImplicit false
set_option maxRecDepth 100000
set_option linter.unusedVariables false
open PySem PySem.W PyProof.Rows
namespace Mine

/-! ### the model's sort, asked of a plain order -/
def krun {α : Type} (ask : Nat → Nat → Bool) : KasT α → α
  | .ret a => a
  | .ask i j k => krun ask (k (ask i j))
theorem krun_bind {α β : Type} (ask : Nat → Nat → Bool) (f : α → KasT β) : ∀ t : KasT α, krun ask (t.bind f) = krun ask (f (krun ask t))
  | .ret a => rfl
  | .ask i j k => by
    show krun ask ((k (ask i j)).bind f) = _
    rw [krun_bind ask f (k (ask i j))]; rfl
theorem kasWp_run {α : Type} {cmp : Nat → Nat → (Bool → Shared → Prop) → Shared → Prop} {ask : Nat → Nat → Bool} {s : Shared} {Q : α → Shared → Prop} (hc : ∀ i j C, C (ask i j) s → cmp i j C s) : ∀ t : KasT α, Q (krun ask t) s → t.kasWp cmp Q s
  | .ret a, h => h
  | .ask i j k, h => hc i j _ (kasWp_run hc (k (ask i j)) h)

structure Ask (n : Nat) (ask : Nat → Nat → Bool) : Prop where
  asymm : ∀ i j, i < n → j < n → ask i j = true → ask j i = false
  trans : ∀ i j k, i < n → j < n → k < n → ask j i = false → ask k j = false → ask k i = false
def bf (ask : Nat → Nat → Bool) (i j : Nat) : Prop := ask i j = true ∨ (ask i j = false ∧ ask j i = false ∧ i < j)

section
variable {n : Nat} {ask : Nat → Nat → Bool}
theorem Ask.lt_le (A : Ask n ask) {i j k : Nat} (hi : i < n) (hj : j < n) (hk : k < n) (h1 : ask i j = true) (h2 : ask k j = false) : ask i k = true := by
  cases e : ask i k with
  | true => rfl
  | false => have := A.trans j k i hj hk hi h2 e; rw [h1] at this; cases this
theorem Ask.le_lt (A : Ask n ask) {i j k : Nat} (hi : i < n) (hj : j < n) (hk : k < n) (h1 : ask j i = false) (h2 : ask j k = true) : ask i k = true := by
  cases e : ask i k with
  | true => rfl
  | false => have := A.trans k i j hk hi hj e h1; rw [h2] at this; cases this
theorem bf.not (A : Ask n ask) {i j : Nat} (hi : i < n) (hj : j < n) (h : bf ask i j) : ask j i = false := by
  rcases h with h | h
  · exact A.asymm i j hi hj h
  · exact h.2.1
theorem bf.trans (A : Ask n ask) {i j k : Nat} (hi : i < n) (hj : j < n) (hk : k < n) (h1 : bf ask i j) (h2 : bf ask j k) : bf ask i k := by
  rcases h1 with h1 | ⟨h1, h1', h1''⟩
  · exact .inl (A.lt_le hi hj hk h1 (bf.not A hj hk h2))
  · rcases h2 with h2 | ⟨h2, h2', h2''⟩
    · exact .inl (A.le_lt hi hj hk h1' h2)
    · exact .inr ⟨A.trans k j i hk hj hi h2 h1, A.trans i j k hi hj hk h1' h2', by omega⟩

def at0 (p : Array Nat) (k : Nat) : Nat := p.getD k 0
theorem at0_eq (p : Array Nat) (k : Nat) : at0 p k = p[k]?.getD 0 := by
  unfold at0; by_cases h : k < p.size <;> simp [Array.getD, h]
theorem at_rev {p : Array Nat} {i j : Nat} (hj : j ≤ p.size) (k : Nat) : at0 (kas_rev p i j) k = if i ≤ k ∧ k < j then at0 p (i + j - 1 - k) else at0 p k := by
  rw [at0_eq]; unfold kas_rev
  rw [getElem?_mirror_all hj]
  split <;> rw [at0_eq]
theorem at_bub {p : Array Nat} {src d : Nat} (hs : src < p.size) (hd : d ≤ src) (k : Nat) : at0 (bubble p src d) k = if k = src - d then at0 p src else if src - d < k ∧ k ≤ src then at0 p (k - 1) else at0 p k := by
  rw [at0_eq, getElem?_bubble hs d hd]
  repeat' split
  all_goals rw [at0_eq]

/-- the first m places hold the first m, the others stand where they stood -/
def Fix (n : Nat) (p : Array Nat) (m : Nat) : Prop := p.size = n ∧ ∀ k, k < n → (m ≤ k → at0 p k = k) ∧ (k < m → at0 p k < m)
theorem Fix.up {p : Array Nat} {a m : Nat} (h : Fix n p a) (ha : a ≤ m) : Fix n p m :=
  ⟨h.1, fun k hk => ⟨fun hm => (h.2 k hk).1 (by omega), fun hm => by
    by_cases hka : k < a
    · have := (h.2 k hk).2 hka; omega
    · rw [(h.2 k hk).1 (by omega)]; exact hm⟩⟩
theorem Fix.lt {p : Array Nat} {a k : Nat} (h : Fix n p a) (ha : a ≤ n) (hk : k < n) : at0 p k < n := by
  by_cases hka : k < a
  · have := (h.2 k hk).2 hka; omega
  · rw [(h.2 k hk).1 (by omega)]; exact hk
theorem Fix.rev {p : Array Nat} {a i j : Nat} (h : Fix n p a) (ha : a ≤ n) (hj : j ≤ a) : Fix n (kas_rev p i j) a := by
  refine ⟨(kas_rev_size i j).trans h.1, fun k hk => ?_⟩
  rw [at_rev (by rw [h.1]; omega)]
  refine ⟨fun hm => ?_, fun hm => ?_⟩
  · rw [if_neg (by omega)]; exact (h.2 k hk).1 hm
  · split
    · exact (h.2 _ (by omega)).2 (by omega)
    · exact (h.2 k hk).2 hm

def SP (ask : Nat → Nat → Bool) (p : Array Nat) (m : Nat) : Prop := ∀ i j, i < j → j < m → bf ask (at0 p i) (at0 p j)
def DP (ask : Nat → Nat → Bool) (p : Array Nat) (m : Nat) : Prop := ∀ i j, i < j → j < m → bf ask (at0 p j) (at0 p i)

theorem asc_ok (A : Ask n ask) {p : Array Nat} : ∀ (f a : Nat), 1 ≤ a → a + f ≤ n → Fix n p a → SP ask p a →
    a ≤ krun ask (kas_asc p f a) ∧ krun ask (kas_asc p f a) ≤ a + f ∧ SP ask p (krun ask (kas_asc p f a)) ∧
    (krun ask (kas_asc p f a) < a + f → ask (at0 p (krun ask (kas_asc p f a))) (at0 p (krun ask (kas_asc p f a) - 1)) = true)
  | 0, a, _, _, _, hs => ⟨Nat.le_refl _, Nat.le_refl _, hs, fun h => absurd h (Nat.lt_irrefl _)⟩
  | f + 1, a, h1, hf, hF, hs => by
    show _ ≤ krun ask (if ask (at0 p a) (at0 p (a - 1)) = true then KasT.ret a else kas_asc p f (a + 1)) ∧ krun ask (if ask (at0 p a) (at0 p (a - 1)) = true then KasT.ret a else kas_asc p f (a + 1)) ≤ _ ∧
      SP ask p (krun ask (if ask (at0 p a) (at0 p (a - 1)) = true then KasT.ret a else kas_asc p f (a + 1))) ∧
      (krun ask (if ask (at0 p a) (at0 p (a - 1)) = true then KasT.ret a else kas_asc p f (a + 1)) < _ → ask (at0 p (krun ask (if ask (at0 p a) (at0 p (a - 1)) = true then KasT.ret a else kas_asc p f (a + 1)))) (at0 p (krun ask (if ask (at0 p a) (at0 p (a - 1)) = true then KasT.ret a else kas_asc p f (a + 1)) - 1)) = true)
    by_cases hc : ask (at0 p a) (at0 p (a - 1)) = true
    · rw [if_pos hc]
      exact ⟨Nat.le_refl _, Nat.le_add_right _ _, hs, fun _ => hc⟩
    · rw [if_neg hc]
      have hc' : ask (at0 p a) (at0 p (a - 1)) = false := by simpa using hc
      have ea : at0 p a = a := (hF.2 a (by omega)).1 (Nat.le_refl _)
      have el : at0 p (a - 1) < a := (hF.2 (a - 1) (by omega)).2 (by omega)
      have hb : bf ask (at0 p (a - 1)) (at0 p a) := by
        cases e : ask (at0 p (a - 1)) (at0 p a) with
        | true => exact .inl e
        | false => exact .inr ⟨e, hc', by omega⟩
      have hs' : SP ask p (a + 1) := by
        intro i j hij hj
        by_cases hja : j < a
        · exact hs i j hij hja
        · have : j = a := by omega
          subst this
          by_cases hi : i = j - 1
          · subst hi; exact hb
          · exact bf.trans A (hF.lt (by omega) (by omega)) (by omega) (by omega) (hs i (j - 1) (by omega) (by omega)) hb
      obtain ⟨r1, r2, r3, r4⟩ := asc_ok A f (a + 1) (by omega) (by omega) (hF.up (by omega)) hs'
      exact ⟨by omega, by omega, r3, fun h => r4 (by omega)⟩

/-- the way down: pending equal ones stand behind -/
structure Dn (n : Nat) (ask : Nat → Nat → Bool) (p : Array Nat) (c q : Nat) : Prop where
  fix : Fix n p c
  le : c ≤ n
  qc : q + 1 ≤ c
  one : ∀ i j, i < j → j < c - (q + 1) → bf ask (at0 p j) (at0 p i)
  two : ∀ i j, i < c - (q + 1) → c - (q + 1) ≤ j → j < c → ask (at0 p j) (at0 p i) = true
  three : ∀ i j, c - (q + 1) ≤ i → i < j → j < c → at0 p i < at0 p j ∧ ask (at0 p i) (at0 p j) = false ∧ ask (at0 p j) (at0 p i) = false

theorem Dn.turn {p : Array Nat} {c q : Nat} (A : Ask n ask) (h : Dn n ask p c q) : Fix n (kas_rev p (c - (q + 1)) c) c ∧ DP ask (kas_rev p (c - (q + 1)) c) c := by
  have hc := h.le
  have hq := h.qc
  have hsz := h.fix.1
  refine ⟨h.fix.rev hc (Nat.le_refl _), fun i j hij hj => ?_⟩
  rw [at_rev (by omega), at_rev (by omega)]
  by_cases hi : c - (q + 1) ≤ i
  · rw [if_pos ⟨by omega, hj⟩, if_pos ⟨hi, by omega⟩]
    obtain ⟨t1, t2, t3⟩ := h.three (c - (q + 1) + c - 1 - j) (c - (q + 1) + c - 1 - i) (by omega) (by omega) (by omega)
    exact .inr ⟨t2, t3, t1⟩
  · by_cases hj2 : c - (q + 1) ≤ j
    · rw [if_pos ⟨hj2, hj⟩, if_neg (by omega)]
      exact .inl (h.two i _ (by omega) (by omega) (by omega))
    · rw [if_neg (by omega), if_neg (by omega)]
      exact h.one i j hij (by omega)
theorem Dn.flat {p : Array Nat} {c : Nat} (h : Dn n ask p c 0) : DP ask p c := by
  intro i j hij hj
  have hq := h.qc
  by_cases hj2 : j < c - 1
  · exact h.one i j hij (by omega)
  · exact .inl (h.two i j (by omega) (by omega) hj)

/-- a lesser one behind a falling row -/
theorem Dn.next {p : Array Nat} {c : Nat} (hF : Fix n p c) (hc : c < n) (hd : DP ask p c) (hx : ∀ i, i < c → ask (at0 p c) (at0 p i) = true) : Dn n ask p (c + 1) 0 where
  fix := hF.up (by omega)
  le := by omega
  qc := by omega
  one := fun i j hij hj => hd i j hij (by omega)
  two := fun i j hi h1 h2 => by
    have : j = c := by omega
    subst this; exact hx i (by omega)
  three := fun i j h1 h2 h3 => by omega

theorem desc_ok (A : Ask n ask) : ∀ (f : Nat) (p : Array Nat) (c q : Nat), Dn n ask p c q → c + f = n →
    Dn n ask (krun ask (kas_desc f p c q)).1 (krun ask (kas_desc f p c q)).2.1 (krun ask (kas_desc f p c q)).2.2 ∧ c ≤ (krun ask (kas_desc f p c q)).2.1
  | 0, p, c, q, h, _ => ⟨h, Nat.le_refl _⟩
  | f + 1, p, c, q, h, hf => by
    have hq := h.qc
    have ec : at0 p c = c := (h.fix.2 c (by omega)).1 (Nat.le_refl _)
    have hl1 : at0 p (c - 1) < n := h.fix.lt h.le (by omega)
    have hmin : ∀ i, i < c → ask (at0 p i) (at0 p (c - 1)) = false := by
      intro i hi
      by_cases h1 : i < c - (q + 1)
      · exact A.asymm _ _ hl1 (h.fix.lt h.le (by omega)) (h.two i (c - 1) h1 (by omega) (by omega))
      · by_cases h2 : i = c - 1
        · subst h2
          cases e : ask (at0 p (c - 1)) (at0 p (c - 1)) with
          | false => rfl
          | true => have := A.asymm _ _ hl1 hl1 e; rw [e] at this; cases this
        · exact (h.three i (c - 1) (by omega) (by omega) (by omega)).2.1
    have hkd : krun ask (kas_desc (f + 1) p c q) = krun ask (if ask (at0 p c) (at0 p (c - 1)) = true then (if q > 0 then kas_desc f (kas_rev p (c - (q + 1)) c) (c + 1) 0 else kas_desc f p (c + 1) 0)
        else .ask (at0 p (c - 1)) (at0 p c) fun d => if d = true then .ret (p, c, q) else kas_desc f p (c + 1) (q + 1)) := rfl
    rw [hkd]
    by_cases hc : ask (at0 p c) (at0 p (c - 1)) = true
    · rw [if_pos hc]
      have hall : ∀ i, i < c → ask (at0 p c) (at0 p i) = true := fun i hi => A.lt_le (by omega) hl1 (h.fix.lt h.le (by omega)) hc (hmin i hi)
      by_cases hq0 : q > 0
      · rw [if_pos hq0]
        obtain ⟨t1, t2⟩ := h.turn A
        have e2 : at0 (kas_rev p (c - (q + 1)) c) c = at0 p c := by rw [at_rev (by rw [h.fix.1]; omega), if_neg (by omega)]
        have hd := Dn.next t1 (by omega) t2 (fun i hi => by
          rw [e2, at_rev (by rw [h.fix.1]; omega)]
          split
          · exact hall _ (by omega)
          · exact hall i hi)
        obtain ⟨r1, r2⟩ := desc_ok A f _ (c + 1) 0 hd (by omega)
        exact ⟨r1, by omega⟩
      · rw [if_neg hq0]
        have : q = 0 := by omega
        subst this
        obtain ⟨r1, r2⟩ := desc_ok A f _ (c + 1) 0 (Dn.next h.fix (by omega) h.flat hall) (by omega)
        exact ⟨r1, by omega⟩
    · rw [if_neg hc]
      have hc' : ask (at0 p c) (at0 p (c - 1)) = false := by simpa using hc
      show Dn n ask (krun ask (if ask (at0 p (c - 1)) (at0 p c) = true then KasT.ret (p, c, q) else kas_desc f p (c + 1) (q + 1))).1 _ _ ∧ _
      by_cases hb : ask (at0 p (c - 1)) (at0 p c) = true
      · have e : krun ask (if ask (at0 p (c - 1)) (at0 p c) = true then KasT.ret (p, c, q) else kas_desc f p (c + 1) (q + 1)) = (p, c, q) := by rw [if_pos hb]; rfl
        have e' : krun ask (KasT.ask (at0 p (c - 1)) (at0 p c) fun d => if d = true then KasT.ret (p, c, q) else kas_desc f p (c + 1) (q + 1)) = (p, c, q) := e
        rw [e, e']
        exact ⟨h, Nat.le_refl _⟩
      · have hb' : ask (at0 p (c - 1)) (at0 p c) = false := by simpa using hb
        have e : krun ask (if ask (at0 p (c - 1)) (at0 p c) = true then KasT.ret (p, c, q) else kas_desc f p (c + 1) (q + 1)) = krun ask (kas_desc f p (c + 1) (q + 1)) := by rw [if_neg hb]
        have e' : krun ask (KasT.ask (at0 p (c - 1)) (at0 p c) fun d => if d = true then KasT.ret (p, c, q) else kas_desc f p (c + 1) (q + 1)) = krun ask (kas_desc f p (c + 1) (q + 1)) := e
        rw [e, e']
        have hd : Dn n ask p (c + 1) (q + 1) := by
          refine ⟨h.fix.up (by omega), by omega, by omega, fun i j hij hj => h.one i j hij (by omega), fun i j hi h1 h2 => ?_, fun i j h1 h2 h3 => ?_⟩
          · by_cases hj : j < c
            · exact h.two i j (by omega) (by omega) hj
            · have : j = c := by omega
              subst this
              exact A.le_lt (by omega) hl1 (h.fix.lt h.le (by omega)) hb' (h.two i (j - 1) (by omega) (by omega) (by omega))
          · by_cases hj : j < c
            · exact h.three i j (by omega) h2 hj
            · have : j = c := by omega
              subst this
              have hil : at0 p i < n := h.fix.lt h.le (by omega)
              refine ⟨by rw [ec]; exact (h.fix.2 i (by omega)).2 (by omega), ?_, ?_⟩
              · -- ask p[i] p[c] = false: p[c] ≤ p[c-1] ≤ p[i]
                exact A.trans _ _ _ (by omega) hl1 hil hb' (hmin i (by omega))
              · -- ask p[c] p[i] = false: p[i] ≤ p[c-1] ≤ p[c]
                by_cases hi2 : i = j - 1
                · subst hi2; exact hc'
                · exact A.trans _ _ _ hil hl1 (by omega) (h.three i (j - 1) (by omega) (by omega) (by omega)).2.2 hc'
        obtain ⟨r1, r2⟩ := desc_ok A f p (c + 1) (q + 1) hd (by omega)
        exact ⟨r1, by omega⟩

theorem rev_perm (p : Array Nat) (i j : Nat) : (kas_rev p i j).Perm p := mirror_perm ..
theorem desc_perm : ∀ (f : Nat) (p : Array Nat) (c q : Nat), (krun ask (kas_desc f p c q)).1.Perm p
  | 0, p, c, q => Array.Perm.refl _
  | f + 1, p, c, q => by
    have hkd : krun ask (kas_desc (f + 1) p c q) = krun ask (if ask (at0 p c) (at0 p (c - 1)) = true then (if q > 0 then kas_desc f (kas_rev p (c - (q + 1)) c) (c + 1) 0 else kas_desc f p (c + 1) 0)
        else .ask (at0 p (c - 1)) (at0 p c) fun d => if d = true then .ret (p, c, q) else kas_desc f p (c + 1) (q + 1)) := rfl
    rw [hkd]
    split
    · split
      · exact (desc_perm f _ _ _).trans (rev_perm ..)
      · exact desc_perm f _ _ _
    · have e' : krun ask (KasT.ask (at0 p (c - 1)) (at0 p c) fun d => if d = true then KasT.ret (p, c, q) else kas_desc f p (c + 1) (q + 1)) = krun ask (if ask (at0 p (c - 1)) (at0 p c) = true then KasT.ret (p, c, q) else kas_desc f p (c + 1) (q + 1)) := rfl
      rw [e']
      split
      · exact Array.Perm.refl _
      · exact desc_perm f _ _ _

theorem DP.turn {p : Array Nat} {c : Nat} (h : DP ask p c) (hc : c ≤ p.size) : SP ask (kas_rev p 0 c) c := by
  intro i j hij hj
  rw [at_rev hc, at_rev hc, if_pos ⟨by omega, by omega⟩, if_pos ⟨by omega, hj⟩]
  exact h _ _ (by omega) (by omega)
theorem SP.turn {p : Array Nat} {c : Nat} (h : SP ask p c) (hc : c ≤ p.size) : DP ask (kas_rev p 0 c) c := by
  intro i j hij hj
  rw [at_rev hc, at_rev hc, if_pos ⟨by omega, hj⟩, if_pos ⟨by omega, by omega⟩]
  exact h _ _ (by omega) (by omega)

def Good (n : Nat) (ask : Nat → Nat → Bool) (p₀ : Array Nat) (r : Nat × Array Nat) : Prop := 1 ≤ r.1 ∧ r.1 ≤ n ∧ Fix n r.2 r.1 ∧ SP ask r.2 r.1 ∧ r.2.Perm p₀

theorem tail3_ok (A : Ask n ask) {p : Array Nat} {c : Nat} (hF : Fix n p c) (hc : c ≤ n) (h1 : 1 ≤ c) (hd : DP ask p c) : Good n ask p (krun ask (kas_tail3 c n p)) := by
  unfold kas_tail3
  rw [krun_bind]
  have hF2 : Fix n (kas_rev p 0 c) c := hF.rev hc (Nat.le_refl _)
  obtain ⟨r1, r2, r3, r4⟩ := asc_ok A (p := kas_rev p 0 c) (n - c) c h1 (by omega) hF2 (hd.turn (by rw [hF.1]; exact hc))
  show Good n ask p (krun ask (kas_asc (kas_rev p 0 c) (n - c) c), kas_rev p 0 c)
  exact ⟨by dsimp only; omega, by dsimp only; omega, hF2.up r1, r3, rev_perm ..⟩
theorem descPart_ok (A : Ask n ask) {p : Array Nat} {m : Nat} (hF : Fix n p m) (hm : m < n) (h1 : 1 ≤ m) (hd : DP ask p m) (hx : ∀ i, i < m → ask (at0 p m) (at0 p i) = true) : Good n ask p (krun ask (kas_descPart m n p)) := by
  unfold kas_descPart
  rw [krun_bind]
  obtain ⟨r1, r2⟩ := desc_ok A (n - (m + 1)) p (m + 1) 0 (Dn.next hF hm hd hx) (by omega)
  have r3 := desc_perm (ask := ask) (n - (m + 1)) p (m + 1) 0
  generalize krun ask (kas_desc (n - (m + 1)) p (m + 1) 0) = r at r1 r2 r3 ⊢
  obtain ⟨p', c, q⟩ := r
  dsimp only at r1 r2 r3 ⊢
  by_cases hq : q > 0
  · rw [if_pos hq]
    obtain ⟨t1, t2⟩ := r1.turn A
    obtain ⟨g1, g2, g3, g4, g5⟩ := tail3_ok A t1 r1.le (by omega) t2
    exact ⟨g1, g2, g3, g4, g5.trans ((rev_perm ..).trans r3)⟩
  · rw [if_neg hq]
    have : q = 0 := by omega
    subst this
    obtain ⟨g1, g2, g3, g4, g5⟩ := tail3_ok A r1.fix r1.le (by omega) r1.flat
    exact ⟨g1, g2, g3, g4, g5.trans r3⟩
theorem count_ok (A : Ask n ask) {p : Array Nat} (hn : 1 ≤ n) (hF : Fix n p 1) : Good n ask p (krun ask (kas_count n p)) := by
  unfold kas_count
  rw [krun_bind]
  obtain ⟨r1, r2, r3, r4⟩ := asc_ok A (p := p) (n - 1) 1 (Nat.le_refl _) (by omega) hF (fun i j h1 h2 => by omega)
  generalize krun ask (kas_asc p (n - 1) 1) = m at r1 r2 r3 r4 ⊢
  by_cases hm : m = n
  · subst hm
    rw [if_pos (by simp)]
    exact ⟨hn, Nat.le_refl _, hF.up r1, r3, Array.Perm.refl _⟩
  · rw [if_neg (by simpa using hm)]
    have hmn : m < n := by omega
    have hx := r4 (by omega)
    have hFm := hF.up (m := m) r1
    have em : at0 p m = m := (hFm.2 m hmn).1 (Nat.le_refl _)
    have lt0 : ∀ k, k < n → at0 p k < n := fun k hk => hFm.lt (by omega) hk
    by_cases h1 : m > 1
    · rw [if_pos h1]
      show Good n ask p (krun ask (if ask (at0 p 0) (at0 p (m - 1)) = true then KasT.ret (m, p) else kas_descPart m n (kas_rev p 0 m)))
      by_cases hb : ask (at0 p 0) (at0 p (m - 1)) = true
      · rw [if_pos hb]
        exact ⟨r1, Nat.le_of_lt hmn, hFm, r3, Array.Perm.refl _⟩
      · rw [if_neg hb]
        have hb' : ask (at0 p 0) (at0 p (m - 1)) = false := by simpa using hb
        have hsz : m ≤ p.size := by rw [hF.1]; omega
        -- all are equal
        have heq : ∀ i, i < m → ask (at0 p i) (at0 p (m - 1)) = false := by
          intro i hi
          have h0 : ask (at0 p i) (at0 p 0) = false := by
            by_cases hi0 : i = 0
            · subst hi0
              cases e : ask (at0 p 0) (at0 p 0) with
              | false => rfl
              | true => have := A.asymm _ _ (lt0 0 (by omega)) (lt0 0 (by omega)) e; rw [e] at this; cases this
            · exact bf.not A (lt0 0 (by omega)) (lt0 i (by omega)) (r3 0 i (by omega) hi)
          exact A.trans _ _ _ (lt0 _ (by omega)) (lt0 0 (by omega)) (lt0 i (by omega)) hb' h0
        obtain ⟨g1, g2, g3, g4, g5⟩ := descPart_ok A (p := kas_rev p 0 m) (hFm.rev (by omega) (Nat.le_refl _)) hmn (by omega) (SP.turn r3 hsz) (fun i hi => by
          rw [at_rev hsz, at_rev hsz, if_neg (by omega), if_pos ⟨by omega, hi⟩]
          exact A.lt_le (by omega) (lt0 _ (by omega)) (lt0 _ (by omega)) hx (heq _ (by omega)))
        exact ⟨g1, g2, g3, g4, g5.trans (rev_perm ..)⟩
    · rw [if_neg h1]
      have : m = 1 := by omega
      subst this
      exact descPart_ok A hFm hmn (Nat.le_refl _) (fun i j h1 h2 => by omega) (fun i hi => by
        have : i = 0 := by omega
        subst this; exact hx)

theorem place_ok (A : Ask n ask) {p : Array Nat} {k : Nat} (hk : k < n) (hF : Fix n p k) (hs : SP ask p k) : ∀ (f l r : Nat), l ≤ r → r ≤ k → r - l ≤ f → (∀ i, i < l → ask (at0 p k) (at0 p i) = false) → (∀ i, r ≤ i → i < k → ask (at0 p k) (at0 p i) = true) →
    krun ask (kas_place p k f l r) ≤ k ∧ (∀ i, i < krun ask (kas_place p k f l r) → ask (at0 p k) (at0 p i) = false) ∧ (∀ i, krun ask (kas_place p k f l r) ≤ i → i < k → ask (at0 p k) (at0 p i) = true)
  | 0, l, r, h1, h2, h3, h4, h5 => by
    have : l = r := by omega
    subst this
    exact ⟨h2, h4, h5⟩
  | f + 1, l, r, h1, h2, h3, h4, h5 => by
    have lt0 : ∀ i, i < n → at0 p i < n := fun i hi => hF.lt (by omega) hi
    have e : krun ask (kas_place p k (f + 1) l r) = krun ask (if l ≥ r then KasT.ret l else if ask (at0 p k) (at0 p ((l + r) / 2)) = true then kas_place p k f l ((l + r) / 2) else kas_place p k f ((l + r) / 2 + 1) r) := by
      rw [kas_place]
      split
      · rfl
      · rfl
    rw [e]
    by_cases hlr : l ≥ r
    · rw [if_pos hlr]
      have : l = r := by omega
      subst this
      exact ⟨h2, h4, h5⟩
    · rw [if_neg hlr]
      by_cases hb : ask (at0 p k) (at0 p ((l + r) / 2)) = true
      · rw [if_pos hb]
        refine place_ok A hk hF hs f l ((l + r) / 2) (by omega) (by omega) (by omega) h4 fun i hi hik => ?_
        by_cases hm : i = (l + r) / 2
        · subst hm; exact hb
        · exact A.lt_le (lt0 k hk) (lt0 _ (by omega)) (lt0 i (by omega)) hb (bf.not A (lt0 _ (by omega)) (lt0 i (by omega)) (hs _ i (by omega) hik))
      · rw [if_neg hb]
        have hb' : ask (at0 p k) (at0 p ((l + r) / 2)) = false := by simpa using hb
        refine place_ok A hk hF hs f ((l + r) / 2 + 1) r (by omega) h2 (by omega) (fun i hi => ?_) h5
        by_cases hm : i = (l + r) / 2
        · subst hm; exact hb'
        · exact A.trans _ _ _ (lt0 i (by omega)) (lt0 _ (by omega)) (lt0 k hk) (bf.not A (lt0 i (by omega)) (lt0 _ (by omega)) (hs i _ (by omega) (by omega))) hb'

theorem bin_ok (A : Ask n ask) : ∀ (f : Nat) (p : Array Nat) (k : Nat), k + f = n → Fix n p k → SP ask p k → Fix n (krun ask (kas_bin f p k)) n ∧ SP ask (krun ask (kas_bin f p k)) n ∧ (krun ask (kas_bin f p k)).Perm p
  | 0, p, k, hf, hF, hs => by
    have : k = n := by omega
    subst this
    exact ⟨hF, hs, Array.Perm.refl _⟩
  | f + 1, p, k, hf, hF, hs => by
    have hk : k < n := by omega
    rw [kas_bin, krun_bind]
    obtain ⟨r1, r2, r3⟩ := place_ok A hk hF hs k 0 k (by omega) (Nat.le_refl _) (by omega) (fun i hi => by omega) (fun i h1 h2 => by omega)
    generalize krun ask (kas_place p k k 0 k) = x at r1 r2 r3 ⊢
    have hsz := hF.1
    have ek : at0 p k = k := (hF.2 k hk).1 (Nat.le_refl _)
    have hat : ∀ i, at0 (bubble p k (k - x)) i = if i = x then at0 p k else if x < i ∧ i ≤ k then at0 p (i - 1) else at0 p i := by
      intro i
      rw [at_bub (by omega) (by omega), show k - (k - x) = x by omega]
    have hF2 : Fix n (bubble p k (k - x)) (k + 1) := by
      refine ⟨(bubble_size ..).trans hsz, fun i hi => ?_⟩
      rw [hat]
      refine ⟨fun h => ?_, fun h => ?_⟩
      · rw [if_neg (by omega), if_neg (by omega)]; exact (hF.2 i hi).1 (by omega)
      · split
        · omega
        · split
          · have := (hF.2 (i - 1) (by omega)).2 (by omega); omega
          · have := (hF.2 i hi).2 (by omega); omega
    have hs2 : SP ask (bubble p k (k - x)) (k + 1) := by
      intro i j hij hj
      rw [hat, hat]
      by_cases hi : i < x
      · rw [if_neg (by omega), if_neg (by omega)]
        by_cases hjx : j = x
        · rw [if_pos hjx]
          have h1 := r2 i hi
          cases e : ask (at0 p i) (at0 p k) with
          | true => exact .inl e
          | false => exact .inr ⟨e, h1, by rw [ek]; exact (hF.2 i (by omega)).2 (by omega)⟩
        · rw [if_neg hjx]
          split
          · exact hs i (j - 1) (by omega) (by omega)
          · exact hs i j hij (by omega)
      · by_cases hix : i = x
        · rw [if_pos hix, if_neg (by omega), if_pos ⟨by omega, by omega⟩]
          exact .inl (r3 (j - 1) (by omega) (by omega))
        · rw [if_neg hix, if_pos ⟨by omega, by omega⟩, if_neg (by omega), if_pos ⟨by omega, by omega⟩]
          exact hs (i - 1) (j - 1) (by omega) (by omega)
    obtain ⟨q1, q2, q3⟩ := bin_ok A f (bubble p k (k - x)) (k + 1) (by omega) hF2 hs2
    exact ⟨q1, q2, q3.trans (bubble_perm ..)⟩

theorem range_fix (n : Nat) : Fix n (List.toArray (List.range n)) 0 := by
  refine ⟨by simp, fun k hk => ⟨fun _ => ?_, fun h => by omega⟩⟩
  rw [at0_eq]; simp [hk]

/-- the model's sort puts the items in order, like ones as they stood -/
theorem sort_ok (A : Ask n ask) (hn : 1 ≤ n) : (krun ask (kas_sort n)).size = n ∧ (krun ask (kas_sort n)).toList.Perm (List.range n) ∧ (krun ask (kas_sort n)).toList.Pairwise (bf ask) := by
  unfold kas_sort
  rw [krun_bind]
  obtain ⟨g1, g2, g3, g4, g5⟩ := count_ok A (p := List.toArray (List.range n)) hn ((range_fix n).up (by omega))
  generalize krun ask (kas_count n (List.toArray (List.range n))) = r at g1 g2 g3 g4 g5 ⊢
  obtain ⟨m, p⟩ := r
  dsimp only at g1 g2 g3 g4 g5 ⊢
  have fin : ∀ q : Array Nat, Fix n q n → SP ask q n → q.Perm (List.toArray (List.range n)) → q.size = n ∧ q.toList.Perm (List.range n) ∧ q.toList.Pairwise (bf ask) := by
    intro q hF hs hp
    refine ⟨hF.1, by simpa using hp.toList, ?_⟩
    rw [List.pairwise_iff_getElem]
    intro i j hi hj hij
    have hi' : i < q.size := by simpa using hi
    have hj' : j < q.size := by simpa using hj
    have := hs i j hij (by rw [← hF.1]; exact hj')
    rw [at0_eq, at0_eq] at this
    simpa [hi', hj'] using this
  by_cases hm : m < n
  · rw [if_pos hm]
    have : max m 1 = m := by omega
    rw [this]
    obtain ⟨q1, q2, q3⟩ := bin_ok A (n - m) p m (by omega) g3 g4
    exact fin _ q1 q2 (q3.trans g5)
  · rw [if_neg hm]
    have : m = n := by omega
    subst this
    exact fin p g3 g4 g5
end

/-! ### only places of the row are asked for -/
def KIn {α : Type} (n : Nat) (ask : Nat → Nat → Bool) : KasT α → Prop
  | .ret _ => True
  | .ask i j k => i < n ∧ j < n ∧ KIn n ask (k (ask i j))
theorem KIn.bind {α β : Type} {n : Nat} {ask : Nat → Nat → Bool} {f : α → KasT β} : ∀ {t : KasT α}, KIn n ask t → KIn n ask (f (krun ask t)) → KIn n ask (t.bind f)
  | .ret a, _, h => h
  | .ask i j k, h, h' => ⟨h.1, h.2.1, KIn.bind h.2.2 h'⟩
theorem kasWp_runIn {α : Type} {n : Nat} {cmp : Nat → Nat → (Bool → Shared → Prop) → Shared → Prop} {ask : Nat → Nat → Bool} {s : Shared} {Q : α → Shared → Prop} (hc : ∀ i j C, i < n → j < n → C (ask i j) s → cmp i j C s) : ∀ t : KasT α, KIn n ask t → Q (krun ask t) s → t.kasWp cmp Q s
  | .ret a, _, h => h
  | .ask i j k, hk, h => hc i j _ hk.1 hk.2.1 (kasWp_runIn hc (k (ask i j)) hk.2.2 h)
section
variable {n : Nat} {ask : Nat → Nat → Bool}
def Small (n : Nat) (p : Array Nat) : Prop := ∀ k, at0 p k < n
theorem Small.perm {p q : Array Nat} (h : Small n p) (hp : q.Perm p) : Small n q := by
  intro k
  rw [at0_eq]
  by_cases hk : k < q.size
  · have hm : q[k] ∈ p := hp.mem_iff.mp (Array.getElem_mem hk)
    obtain ⟨j, hj, e⟩ := Array.mem_iff_getElem.mp hm
    have := h j
    rw [at0_eq] at this
    simp only [hj, getElem?_pos, Option.getD_some] at this
    simp only [hk, getElem?_pos, Option.getD_some]
    omega
  · have := h p.size
    rw [at0_eq] at this
    simp at this
    simp [hk]; omega
theorem asc_in {p : Array Nat} (hp : Small n p) : ∀ f a, KIn n ask (kas_asc p f a)
  | 0, _ => trivial
  | f + 1, a => by
    refine ⟨hp a, hp (a - 1), ?_⟩
    dsimp only
    split
    · trivial
    · exact asc_in hp f (a + 1)
theorem desc_in : ∀ (f : Nat) (p : Array Nat) (c q : Nat), Small n p → KIn n ask (kas_desc f p c q)
  | 0, _, _, _, _ => trivial
  | f + 1, p, c, q, hp => by
    refine ⟨hp c, hp (c - 1), ?_⟩
    dsimp only
    split
    · split
      · exact desc_in f _ _ _ (hp.perm (rev_perm ..))
      · exact desc_in f _ _ _ hp
    · refine ⟨hp (c - 1), hp c, ?_⟩
      dsimp only
      split
      · trivial
      · exact desc_in f _ _ _ hp
theorem tail3_in {p : Array Nat} (hp : Small n p) (c m : Nat) : KIn n ask (kas_tail3 c m p) := by
  unfold kas_tail3
  exact KIn.bind (asc_in (hp.perm (rev_perm ..)) _ _) trivial
theorem descPart_in {p : Array Nat} (hp : Small n p) (c m : Nat) : KIn n ask (kas_descPart c m p) := by
  unfold kas_descPart
  refine KIn.bind (desc_in _ _ _ _ hp) ?_
  have hq := hp.perm (desc_perm (ask := ask) (m - (c + 1)) p (c + 1) 0)
  split
  · exact tail3_in (hq.perm (rev_perm ..)) _ _
  · exact tail3_in hq _ _
theorem count_in {p : Array Nat} (hp : Small n p) (m : Nat) : KIn n ask (kas_count m p) := by
  unfold kas_count
  refine KIn.bind (asc_in hp _ _) ?_
  split
  · trivial
  · split
    · refine ⟨hp 0, hp _, ?_⟩
      dsimp only
      split
      · trivial
      · exact descPart_in (hp.perm (rev_perm ..)) _ _
    · exact descPart_in hp _ _
theorem place_in {p : Array Nat} (hp : Small n p) (k : Nat) : ∀ f l r, KIn n ask (kas_place p k f l r)
  | 0, _, _ => trivial
  | f + 1, l, r => by
    rw [kas_place]
    split
    · trivial
    · refine ⟨hp k, hp _, ?_⟩
      dsimp only
      split
      · exact place_in hp k f _ _
      · exact place_in hp k f _ _
theorem bin_in : ∀ (f : Nat) (p : Array Nat) (k : Nat), Small n p → KIn n ask (kas_bin f p k)
  | 0, _, _, _ => trivial
  | f + 1, p, k, hp => by
    rw [kas_bin]
    exact KIn.bind (place_in hp k _ _ _) (bin_in f _ _ (hp.perm (bubble_perm ..)))
theorem sort_in (A : Ask n ask) (hn : 1 ≤ n) : KIn n ask (kas_sort n) := by
  have hp : Small n (List.toArray (List.range n)) := by
    intro k
    rw [at0_eq]
    by_cases hk : k < n <;> simp [hk] <;> omega
  unfold kas_sort
  refine KIn.bind (count_in hp n) ?_
  obtain ⟨g1, g2, g3, g4, g5⟩ := count_ok A (p := List.toArray (List.range n)) hn ((range_fix n).up (by omega))
  split
  · exact bin_in _ _ _ (hp.perm g5)
  · trivial
end

end Mine


/-! part S2 -/
set_option autoImplicit false
set_option maxRecDepth 100000
set_option linter.unusedVariables false
open PySem PySem.W PyProof.Rows
namespace Mine

section
variable {prog : Program} {w : World} {A : Around} {E : Value → Shared → Prop} {s : Shared}

/-- the heap while the sort goes -/
def midHeap (h : Heap) (a : Addr) (vs : List Value) : Heap := ((h.update a (Obj.mapSeq fun _ => #[])).push (seqObj "tuple" vs.toArray 0)).push (seqObj "list" #[] 0)
def outOf (ask : Nat → Nat → Bool) (vs : List Value) : List Value := (krun ask (kas_sort vs.length)).toList.map fun i => vs.getD i Value.none

theorem sort_tree {a : Addr} {vs : List Value} {n : Nat} {κ : SortKind} {ask : Nat → Nat → Bool} {P : PySem.Fin → Shared → Prop} (ho : s.heap.get? a = some (seqObj "list" vs.toArray n)) (h2 : 2 ≤ vs.length) (h64 : vs.length < 64)
    (hκ : ∀ Q : SortKind → Shared → Prop, Q κ { s with heap := midHeap s.heap a vs } → wpAny (model prog w) A (keyKind' vs.toArray) Q E { s with heap := midHeap s.heap a vs })
    (hA : Ask vs.length ask) (hcmp : ∀ i j (C : Bool → Shared → Prop), i < vs.length → j < vs.length → C (ask i j) { s with heap := midHeap s.heap a vs } → kas_ask prog w A κ vs i j C { s with heap := midHeap s.heap a vs })
    (h : P (.done (.ret .none)) { s with heap := sortedHeap s.heap a vs (outOf ask vs).toArray }) :
    wpAny (model prog w) A (Builtin.«list.sort» ⟨[.ref a], []⟩) P E s := by
  rw [list_sort_plain]
  have ha : a < s.heap.objs.size := Heap.lt_size ho
  refine wpAny_bind (listItems_at ho rfl ?_)
  refine wpAny_bind (listUpdate_at ho rfl ?_ (by rw [List.size_toArray, sizeLine_eq]; omega) (Nat.zero_le _))
  obtain ⟨e1, ho1⟩ : ∃ e1, (s.heap.update a (Obj.mapSeq fun _ => (#[] : Array Value))).get? a = some (seqObj "list" #[] e1) := ⟨_, get?_update_seq ho (fun _ => #[])⟩
  refine wpAny_bind (seqEpoch_at ho1 rfl ?_)
  refine wpAny_bind (wpAny_newTuple ?_ (by show vs.length ≤ _; rw [sizeLine_eq]; omega))
  refine wpAny_bind (wpAny_newList ?_ (Nat.zero_le _))
  refine wpAny_holding ?_
  have ho6 : (midHeap s.heap a vs).get? a = some (seqObj "list" #[] e1) := by
    unfold midHeap
    rw [Heap.get?_push_ne _ _ _ (by rw [size_push', Heap.size_update]; exact Nat.ne_of_lt (Nat.lt_succ_of_lt ha)), Heap.get?_push_ne _ _ _ (by rw [Heap.size_update]; exact Nat.ne_of_lt ha)]
    exact ho1
  show wpAny (model prog w) A _ P E { s with heap := midHeap s.heap a vs }
  dsimp only
  have hn2 : ¬ vs.toArray.size < 2 := by rw [List.size_toArray]; omega
  rw [if_neg hn2, if_neg hn2]
  refine wpAny_bind (hκ _ ?_)
  have est : SortSt.mk' κ (vs.toArray.zip vs.toArray) #[] 7 none = kas_st κ (pairsOf vs) (List.toArray (List.range vs.length)) := by
    have e := kas_range (pairsOf vs)
    rw [pairsOf_size] at e
    show SortSt.mk' κ (pairsOf vs) #[] 7 none = SortSt.mk' κ ((List.toArray (List.range vs.length)).map (kas_item (pairsOf vs))) #[] 7 none
    rw [e]
  have run := kas_runs (prog := prog) (w := w) (A := A) (κ := κ) (it := pairsOf vs) (E := E) (s := { s with heap := midHeap s.heap a vs }) (Q := fun _ st' s' => s' = { s with heap := midHeap s.heap a vs } ∧ ∃ p : Array Nat, p = krun ask (kas_sort vs.length) ∧ p.size = vs.length ∧ arrOf st' = p.map (kas_item (pairsOf vs)) ∧ failedOf st' = none)
    (G := fun p s' => s' = { s with heap := midHeap s.heap a vs } ∧ p = krun ask (kas_sort vs.length)) h2 h64 (fun p' st' s' a1 a2 a3 a4 => ⟨a4.1, p', a4.2, a1, a2, a3⟩)
    (kasWp_runIn (n := vs.length) (ask := ask) (fun i j C hi hj hC => by have := hcmp i j C hi hj hC; rw [kas_ask_eq] at this; exact this) _ (sort_in hA (by omega)) ⟨rfl, rfl⟩)
  rw [← est] at run
  refine wpAny_bind (wpAny_mono run ?_ fun _ _ e => e)
  rintro ⟨⟨⟩, st'⟩ s' ⟨rfl, p, rfl, hp, har, hf⟩
  dsimp only
  have hout : (arrOf st').map (·.2) = (outOf ask vs).toArray := by
    apply Array.toList_inj.mp
    rw [har, Array.map_map, Array.toList_map]
    exact List.map_congr_left fun i _ => by show (kas_item (pairsOf vs) i).2 = _; rw [kas_item_eq]
  rw [hout]
  have hsz : (outOf ask vs).toArray.size = vs.length := by rw [List.size_toArray]; unfold outOf; rw [List.length_map, Array.length_toList, hp]
  refine wpAny_bind (seqEpoch_at ho6 rfl ?_)
  refine wpAny_bind (listUpdate_at ho6 rfl ?_ (Nat.zero_le _) (by rw [hsz, sizeLine_eq]; omega))
  rw [hf]
  simp only [bne_self_eq_false, Bool.false_eq_true, if_false]
  exact wpAny_pure h

/-- the heap behind collecting the items -/
def colHeap (h : Heap) (vs : List Value) : Heap := ((h.push (seqObj "list" #[] 0)).update h.objs.size (Obj.mapSeq (· ++ vs.toArray))).push (seqObj "list" vs.toArray 0)
theorem sorted_tree {l : Addr} {vs : List Value} {κ : SortKind} {ask : Nat → Nat → Bool} {Q : Value → Shared → Prop} (hl : s.heap.IsList l vs.toArray) (h2 : 2 ≤ vs.length) (h64 : vs.length < 64)
    (hκ : ∀ A' E' (Q : SortKind → Shared → Prop), Q κ { s with heap := midHeap (colHeap s.heap vs) (s.heap.objs.size + 1) vs } → wpAny (model prog w) A' (keyKind' vs.toArray) Q E' { s with heap := midHeap (colHeap s.heap vs) (s.heap.objs.size + 1) vs })
    (hA : Ask vs.length ask) (hcmp : ∀ i j (C : Bool → Shared → Prop), i < vs.length → j < vs.length → C (ask i j) { s with heap := midHeap (colHeap s.heap vs) (s.heap.objs.size + 1) vs } → kas_ask prog w A.in1.in1 κ vs i j C { s with heap := midHeap (colHeap s.heap vs) (s.heap.objs.size + 1) vs })
    (h : Q (.ref (s.heap.objs.size + 1)) { s with heap := sortedAll s.heap vs (outOf ask vs).toArray }) :
    wpAny (model prog w) A (call (.builtin "sorted") [.ref l]) Q E s := by
  refine Calls.call_function_entry kind_sorted plain_sorted entry_sorted (args_sorted1 _) ?_
  unfold Builtin.«sorted»
  refine wpAny_bind (m := checkCount "sorted" 1 1 _) (wpAny_pure ?_)
  refine wpAny_bind (collect_list hl ?_ (by rw [sizeLine_eq]; omega))
  refine wpAny_bind (wpAny_newList ?_ (by rw [sizeLine_eq]; omega))
  have hsz : ((s.heap.push (seqObj "list" #[] 0)).update s.heap.objs.size (Obj.mapSeq (· ++ vs.toArray))).objs.size = s.heap.objs.size + 1 := by
    rw [Heap.size_update, size_push']
  have hoL : (colHeap s.heap vs).get? (s.heap.objs.size + 1) = some (seqObj "list" vs.toArray 0) := by
    unfold colHeap
    rw [← hsz]; exact Heap.get?_push_size _ rfl
  show wpAny _ _ _ _ _ { s with heap := colHeap s.heap vs }
  rw [hsz]
  refine wpAny_bind (wpAny_holding (wpAny_call_entry slot_list_sort ⟨_, hoL, rfl⟩ entry_list_sort (sort_tree (s := { s with heap := colHeap s.heap vs }) hoL h2 h64 (hκ _ _) hA hcmp ⟨_, rfl, ?_⟩) (args_list_sort _)))
  exact wpAny_pure ⟨_, rfl, h⟩
end

end Mine


/-! part S3 -/
set_option autoImplicit false
set_option maxRecDepth 100000
set_option linter.unusedVariables false
open PySem PySem.W PyProof.Rows
namespace Mine

variable {K : Glo} {F : Frm}

/-! ### sorted of tuples of ints -/
def lexB : List Int → List Int → Bool
  | [], [] => false
  | [], _ :: _ => true
  | _ :: _, [] => false
  | a :: as, b :: bs => if a = b then lexB as bs else decide (a < b)

section
variable {prog : Program} {w : World} {A : Around} {E : Value → Shared → Prop} {s : Shared}
theorem lex_at {Q : Bool → Shared → Prop} : ∀ (xs ys : List Value) (as bs : List Int) (fin : Bool) (i : Nat), IntsAre xs as → IntsAre ys bs → (∀ c : Bool, c = (if as.take (min as.length bs.length) = bs.take (min as.length bs.length) then fin else lexB as bs) → Q c s) →
    KatLex prog w A true fin Q (xs.zip ys) i s
  | [], ys, as, bs, fin, i, hx, hy, h => by
    cases hx
    exact kat_nil (h fin (by simp))
  | x :: xs, [], as, bs, fin, i, hx, hy, h => by
    cases hy
    exact kat_nil (h fin (by simp))
  | x :: xs, y :: ys, as, bs, fin, i, hx, hy, h => by
    cases hx with
    | cons a t hx' =>
      rename_i as'
      cases hy with
      | cons b u hy' =>
        rename_i bs'
        show KatLex prog w A true fin Q ((Value.int a t, Value.int b u) :: xs.zip ys) i s
        refine kat_cons (wpAny_eqBool_int ?_)
        by_cases hab : a = b
        · subst hab
          rw [show (a == a) = true by simp]
          refine kat_yes (lex_at xs ys as' bs' fin (i + 1) hx' hy' fun c hc => h c ?_)
          rw [hc]
          simp only [List.length_cons, Nat.succ_min_succ, List.take_succ_cons, List.cons.injEq, true_and, lexB, if_true]
        · rw [show (a == b) = false by simpa using hab]
          refine kat_no ?_
          have hq : Q (decide (a < b)) s := h _ (by
            simp only [List.length_cons, Nat.succ_min_succ, List.take_succ_cons, List.cons.injEq, hab, false_and, if_false, lexB])
          by_cases hi : i = 0
          · subst hi
            exact oneLt_int hq
          · rw [show (true && i == 0) = false by simpa using hi]
            exact kat_one _ _ (PyProof.Rows.lt_int hq)
theorem lex_eq {as bs : List Int} : (if as.take (min as.length bs.length) = bs.take (min as.length bs.length) then decide (as.length < bs.length) else lexB as bs) = lexB as bs := by
  induction as generalizing bs with
  | nil => cases bs <;> simp [lexB]
  | cons a as ih =>
    cases bs with
    | nil => simp [lexB]
    | cons b bs =>
      simp only [List.length_cons, Nat.succ_min_succ, List.take_succ_cons, List.cons.injEq, lexB]
      by_cases hab : a = b
      · subst hab
        simp only [true_and, if_true, Nat.add_lt_add_iff_right]
        exact ih
      · simp [hab]
end

def tupInts : V → Option (List Int)
  | .tup vs => match intsOf vs with
    | some (a :: as) => some (a :: as)
    | _ => none
  | _ => none
theorem tupInts_is {v : V} {t : List Int} (h : tupInts v = some t) : ∃ vs, v = .tup vs ∧ intsOf vs = some t ∧ t ≠ [] := by
  cases v with
  | tup vs =>
    unfold tupInts at h
    dsimp only at h
    cases e : intsOf vs with
    | none => rw [e] at h; cases h
    | some ns =>
      rw [e] at h
      cases ns with
      | nil => cases h
      | cons a as => cases h; exact ⟨vs, rfl, e, by simp⟩
  | _ => cases h
def tupsOf : List V → Option (List (List Int)) := mapO tupInts
def askT (ts : List (List Int)) (i j : Nat) : Bool := lexB (ts.getD i []) (ts.getD j [])
def sortV (ask : Nat → Nat → Bool) (vs : List V) : List V := (krun ask (kas_sort vs.length)).toList.map fun i => vs.getD i V.none

theorem getD_rep {h : Heap} {ρ : List Addr} {vs : List V} {ws : List Value} (r : RepL K h ρ vs ws) {i : Nat} (hi : i < vs.length) : Rep K h ρ (vs.getD i V.none) (ws.getD i Value.none) := by
  obtain ⟨w, e, q⟩ := r.get? (List.getElem?_eq_getElem hi)
  have hw : i < ws.length := (List.getElem?_eq_some_iff.mp e).1
  rw [List.getD_eq_getElem?_getD, List.getD_eq_getElem?_getD, e, List.getElem?_eq_getElem hi]
  exact q
theorem maps_rep {h : Heap} {ρ : List Addr} {vs : List V} {ws : List Value} (r : RepL K h ρ vs ws) : ∀ is : List Nat, (∀ i ∈ is, i < vs.length) → RepL K h ρ (is.map fun i => vs.getD i V.none) (is.map fun i => ws.getD i Value.none)
  | [], _ => RepL.nil
  | i :: is, hi => RepL.cons (getD_rep r (hi i List.mem_cons_self)) (maps_rep r is fun j hj => hi j (List.mem_cons_of_mem _ hj))

/-- the tuples as they lie -/
theorem tups_at {h : Heap} {ρ : List Addr} : ∀ {vs : List V} {ws : List Value} {ts : List (List Int)}, RepL K h ρ vs ws → tupsOf vs = some ts → ts.length = vs.length ∧
    (∀ i, i < vs.length → ∃ a o xs n, ws.getD i Value.none = .ref a ∧ h.get? a = some o ∧ Froz o ∧ o.cls = .type "tuple" ∧ o.data = .seq xs n ∧ IntsAre xs.toList (ts.getD i []) ∧ ts.getD i [] ≠ [])
  | [], ws, ts, r, e => by cases e; exact ⟨rfl, fun i hi => by simp at hi⟩
  | v :: vs, ws, ts, r, e => by
    obtain ⟨w, ws', rfl, r1, r2⟩ := RepL.cons_iff.mp r
    obtain ⟨t, ts', e1, e2, rfl⟩ := mapO_cons e
    obtain ⟨l1, l2⟩ := tups_at r2 e2
    obtain ⟨us, rfl, e3, hne⟩ := tupInts_is e1
    obtain ⟨_, a, xs, rfl, ht, rx⟩ := Rep.tup_iff.mp r1
    obtain ⟨o, ho, hc, n, hd⟩ := ht
    refine ⟨by simp [l1], fun i hi => ?_⟩
    cases i with
    | zero => exact ⟨a, o, xs.toArray, n, rfl, ho, .inl ⟨hc, _, n, hd⟩, hc, hd, by simpa using intsOf_are rx e3, hne⟩
    | succ i => simpa using l2 i (by simpa using hi)

def sortedT : List V → M V
  | [.obj l] => fun σ => match σ.st[l]? with
    | some (.lst vs) => match tupsOf vs with
      | some ts => if 2 ≤ vs.length ∧ vs.length < 64 then .ok (.obj σ.st.length) { σ with st := σ.st ++ [.lst (sortV (askT ts) vs)] } else .stuck
      | none => .stuck
    | _ => .stuck
  | _ => stuck

theorem lexB_irrefl : ∀ as : List Int, lexB as as = false
  | [] => rfl
  | a :: as => by simp [lexB, lexB_irrefl as]
theorem lexB_asymm : ∀ as bs : List Int, lexB as bs = true → lexB bs as = false
  | [], [], h => by cases h
  | [], _ :: _, _ => rfl
  | _ :: _, [], h => by cases h
  | a :: as, b :: bs, h => by
    unfold lexB at h ⊢
    by_cases hab : a = b
    · subst hab
      simp only [if_true] at h ⊢
      exact lexB_asymm as bs h
    · rw [if_neg hab] at h
      rw [if_neg (Ne.symm hab)]
      simp at h ⊢; omega
theorem lexB_trans : ∀ as bs cs : List Int, lexB bs as = false → lexB cs bs = false → lexB cs as = false
  | [], [], [], _, _ => rfl
  | [], _ :: _, [], _, h => by cases h
  | [], _, _ :: _, _, _ => rfl
  | _ :: _, [], _, h, _ => by cases h
  | _ :: _, _ :: _, [], _, h => by cases h
  | a :: as, b :: bs, c :: cs, h1, h2 => by
    unfold lexB at h1 h2 ⊢
    by_cases hab : b = a
    · subst hab
      simp only [if_true] at h1
      by_cases hcb : c = b
      · subst hcb
        simp only [if_true] at h2 ⊢
        exact lexB_trans as bs cs h1 h2
      · rw [if_neg hcb] at h2 ⊢
        exact h2
    · rw [if_neg hab] at h1
      by_cases hcb : c = b
      · subst hcb
        rw [if_neg hab]; exact h1
      · rw [if_neg hcb] at h2
        simp at h1 h2
        rw [if_neg (by omega)]
        simp; omega
theorem lexB_total : ∀ as bs : List Int, lexB as bs = false → lexB bs as = false → as = bs
  | [], [], _, _ => rfl
  | [], _ :: _, h, _ => by cases h
  | _ :: _, [], _, h => by cases h
  | a :: as, b :: bs, h1, h2 => by
    unfold lexB at h1 h2
    by_cases hab : a = b
    · subst hab
      simp only [if_true] at h1 h2
      rw [lexB_total as bs h1 h2]
    · rw [if_neg hab] at h1
      rw [if_neg (Ne.symm hab)] at h2
      simp at h1 h2; omega
theorem askT_ok (ts : List (List Int)) (n : Nat) : Ask n (askT ts) := ⟨fun i j _ _ h => lexB_asymm _ _ h, fun i j k _ _ _ h1 h2 => lexB_trans _ _ _ h1 h2⟩
theorem sort_lt {n : Nat} {ask : Nat → Nat → Bool} (A : Ask n ask) (hn : 1 ≤ n) : ∀ i ∈ (krun ask (kas_sort n)).toList, i < n := by
  intro i hi
  have := (sort_ok A hn).2.1.mem_iff.mp hi
  simpa using this

theorem mid_keep {h : Heap} {ws : List Value} : ∀ b o, h.get? b = some o → (midHeap (colHeap h ws) (h.objs.size + 1) ws).get? b = some o := by
  intro b o e
  have hlt : b < h.objs.size := Heap.lt_size e
  unfold midHeap colHeap
  refine Heap.get?_push_of_some _ (Heap.get?_push_of_some _ ?_)
  rw [Heap.get?_update_ne _ _ _ _ (Nat.ne_of_lt (Nat.lt_succ_of_lt hlt))]
  refine Heap.get?_push_of_some _ ?_
  rw [Heap.get?_update_ne _ _ _ _ (Nat.ne_of_lt hlt)]
  exact Heap.get?_push_of_some _ e
theorem sortedAll_keep {h : Heap} {xs : List Value} {out : Array Value} : ∀ b o, h.get? b = some o → (sortedAll h xs out).get? b = some o := by
  intro b o e
  have hlt : b < h.objs.size := Heap.lt_size e
  have hne1 : b ≠ h.objs.size := Nat.ne_of_lt hlt
  have hne2 : b ≠ h.objs.size + 1 := Nat.ne_of_lt (Nat.lt_succ_of_lt hlt)
  unfold sortedAll sortedHeap
  rw [Heap.get?_update_ne _ _ _ _ hne2]
  refine Heap.get?_push_of_some _ (Heap.get?_push_of_some _ ?_)
  rw [Heap.get?_update_ne _ _ _ _ hne2]
  refine Heap.get?_push_of_some _ ?_
  rw [Heap.get?_update_ne _ _ _ _ hne1]
  exact Heap.get?_push_of_some _ e
theorem sortedAll_out {h : Heap} {xs : List Value} {out : Array Value} : ∃ m, IsL (sortedAll h xs out) (h.objs.size + 1) out m := by
  have hsz : ((h.push (seqObj "list" #[] 0)).update h.objs.size (Obj.mapSeq (· ++ xs.toArray))).objs.size = h.objs.size + 1 := by
    rw [Heap.size_update, size_push']
  have hoL : (((h.push (seqObj "list" #[] 0)).update h.objs.size (Obj.mapSeq (· ++ xs.toArray))).push (seqObj "list" xs.toArray 0)).get? (h.objs.size + 1) = some (seqObj "list" xs.toArray 0) := by
    rw [← hsz]; exact Heap.get?_push_size _ rfl
  unfold sortedAll sortedHeap
  have h1 := get?_update_seq hoL (fun _ => (#[] : Array Value))
  exact ⟨_, get?_update_seq (Heap.get?_push_of_some (seqObj "list" #[] 0) (Heap.get?_push_of_some (seqObj "tuple" xs.toArray 0) h1)) (fun _ => out)⟩

theorem katTups_of {h : Heap} : ∀ {ws : List Value} {ts : List (List Int)}, ts.length = ws.length → (∀ i, i < ws.length → ∃ a o xs n, ws.getD i Value.none = .ref a ∧ h.get? a = some o ∧ o.cls = .type "tuple" ∧ o.data = .seq xs n ∧ IntsAre xs.toList (ts.getD i []) ∧ ts.getD i [] ≠ []) →
    ∃ fs, KatTups h ws fs ∧ fs.length = ws.length ∧ ∀ v ∈ fs, ∃ i t, v = .int i t
  | [], ts, _, _ => ⟨[], KatTups.nil, rfl, fun v hv => by simp at hv⟩
  | w :: ws, [], e, _ => by simp at e
  | w :: ws, t :: ts, e, hh => by
    obtain ⟨fs, k1, k2, k3⟩ := katTups_of (ws := ws) (ts := ts) (by simpa using e) (fun i hi => by simpa using hh (i + 1) (by simpa using hi))
    obtain ⟨a, o, xs, n, e1, ho, hc, hd, hI, hne⟩ := hh 0 (by simp)
    simp only [List.getD_cons_zero] at e1 hI hne
    subst e1
    cases hx : xs.toList with
    | nil => rw [hx] at hI; cases hI; exact absurd rfl hne
    | cons x r =>
      have hx0 : xs[0]? = some x := by
        have : xs.toList[0]? = some x := by rw [hx]; rfl
        simpa using this
      rw [hx] at hI
      cases hI with
      | cons i t' _ =>
        exact ⟨_, KatTups.cons ho hc hd hx0 k1, by simp [k2], fun v hv => by
          rcases List.mem_cons.mp hv with rfl | hv
          · exact ⟨i, t', rfl⟩
          · exact k3 v hv⟩

theorem built_sortedT : BuiltOk K (.builtin "sorted") sortedT := by
  intro F fk σ ρ s vs ws rel r
  unfold sortedT
  split
  · rename_i l
    obtain ⟨x, r', rfl, r1, r2⟩ := RepL.cons_iff.mp r
    obtain rfl := RepL.nil_iff.mp r2
    cases hl : σ.st[l]? with
    | none => exact Run.stuck
    | some c =>
      cases c with
      | lst us =>
        dsimp only
        cases hi : tupsOf us with
        | none => exact Run.stuck
        | some ts =>
          dsimp only
          by_cases hz : 2 ≤ us.length ∧ us.length < 64
          · rw [if_pos hz]
            obtain ⟨a, xs, n, rfl, hρ, hL, hr, hn⟩ := rel.list r1 hl
            obtain ⟨t1, t2⟩ := tups_at hr hi
            have hxl : xs.length = us.length := hr.length
            have hmid : ∀ i, i < xs.length → ∃ a o ys n, xs.getD i Value.none = .ref a ∧ (midHeap (colHeap s.heap xs) (s.heap.objs.size + 1) xs).get? a = some o ∧ o.cls = .type "tuple" ∧ o.data = .seq ys n ∧ IntsAre ys.toList (ts.getD i []) ∧ ts.getD i [] ≠ [] := by
              intro i hi'
              obtain ⟨a', o, ys, n', e1, e2, _, e3, e4, e5, e6⟩ := t2 i (by omega)
              exact ⟨a', o, ys, n', e1, mid_keep _ _ e2, e3, e4, e5, e6⟩
            have hA := askT_ok ts xs.length
            refine Run.ok (sorted_tree (κ := tuples' true) (ask := askT ts) hL.isList (by omega) (by omega) ?_ hA ?_ ?_)
            · intro A' E' Q q
              obtain ⟨fs, k1, k2, k3⟩ := katTups_of (h := midHeap (colHeap s.heap xs) (s.heap.objs.size + 1) xs) (by omega) hmid
              refine kat_kind (s := { s with heap := midHeap (colHeap s.heap xs) (s.heap.objs.size + 1) xs }) (T := .type "int") k1 (by omega) (fun v hv => ?_) (by decide) q
              obtain ⟨i, t, rfl⟩ := k3 v hv
              exact .now
            · intro i j C hi' hj' hC
              obtain ⟨a1, o1, xs1, n1, e1, g1, _, d1, I1, _⟩ := hmid i hi'
              obtain ⟨a2, o2, xs2, n2, e2, g2, _, d2, I2, _⟩ := hmid j hj'
              unfold kas_ask
              rw [e1, e2]
              refine kat_lt (s := { s with heap := midHeap (colHeap s.heap xs) (s.heap.objs.size + 1) xs }) g1 d1 g2 d2 (lex_at _ _ _ _ _ 0 I1 I2 fun c hc => ?_)
              have hsz : ∀ {ys : Array Value} {ns : List Int}, IntsAre ys.toList ns → ys.size = ns.length := by
                intro ys ns hI
                have := (ints_rep (K := K) (h := s.heap) (ρ := ρ) hI).length
                simpa using this
              rw [hsz I1, hsz I2, lex_eq] at hc
              rw [hc]; exact hC
            · have hsl := sort_lt hA (by omega)
              have hrep : RepL K s.heap ρ (sortV (askT ts) us) (outOf (askT ts) xs) := by
                unfold sortV outOf
                rw [hxl]
                rw [hxl] at hsl
                exact maps_rep hr _ hsl
              obtain ⟨m, hm⟩ := sortedAll_out (h := s.heap) (xs := xs) (out := (outOf (askT ts) xs).toArray)
              have hlen : (sortV (askT ts) us).length ≤ 1000000 := by
                unfold sortV
                rw [List.length_map, Array.length_toList, (sort_ok (askT_ok ts us.length) (by omega)).1]; omega
              obtain ⟨rel', x'⟩ := rel.newAt (s' := { s with heap := sortedAll s.heap xs (outOf (askT ts) xs).toArray }) sortedAll_keep (Heap.get?_none_of_le (Nat.le_succ _)) (n := m) hm hrep hlen rfl rfl
              exact ⟨_, rel', x', Rep.obj_iff.mpr ⟨_, by rw [← rel.len, List.getElem?_concat_length], rfl⟩⟩
          · rw [if_neg hz]; exact Run.stuck
  · exact Run.stuck

/-- one or, where it says nothing, the other -/
def orB (f g : List V → M V) : List V → M V := fun vs σ => match f vs σ with
  | .stuck => g vs σ
  | r => r
theorem built_or {b : Value} {f g : List V → M V} (hf : BuiltOk K b f) (hg : BuiltOk K b g) : BuiltOk K b (orB f g) := by
  intro F fk σ ρ s vs ws rel r
  unfold orB
  have h1 := hf F fk σ ρ s vs ws rel r
  have h2 := hg F fk σ ρ s vs ws rel r
  cases e : f vs σ with
  | stuck => exact h2
  | ok a y => rw [e] at h1; exact h1
  | exc a y => rw [e] at h1; exact h1

end Mine


/-! part S4 -/
set_option autoImplicit false
set_option maxRecDepth 100000
set_option linter.unusedVariables false
open PySem PySem.W PyProof.Rows
namespace Mine

section
variable {prog : Program} {w : World} {A : Around} {E : Value → Shared → Prop} {s : Shared}
theorem list_sort_rev (a : Addr) : Builtin.«list.sort» ⟨[.ref a], [(Str.ofString "reverse", .bool true)]⟩ = (do
    let items ← Builtin.List.listItems (.ref a)
    Builtin.List.listUpdate (.ref a) fun _ => #[]
    let before ← seqEpoch a
    let held ← newTuple items.toList
    let keyStore ← newList []
    holding [held, keyStore] do
      rule "list.sort.reverse"
      let kind ← if items.size < 2 then pure general' else keyKind' items
      let ((), s) ← (if items.size < 2 then pure () else sortRuns').run (SortSt.mk' kind (items.zip items).reverse #[] 7 none)
      let sorted := (arrOf s).map (·.2)
      let touched := (← seqEpoch a) != before
      Builtin.List.listUpdate (.ref a) fun _ => sorted.reverse
      if let some e := failedOf s then rule "list.sort.comparison-raised"; throw e
      if touched then rule "list.sort.modified"; raiseError "ValueError" "list modified during sort"
      ret .none) := rfl

theorem pairs_rev (vs : List Value) : (vs.toArray.zip vs.toArray).reverse = pairsOf vs.reverse := by
  apply Array.toList_inj.mp
  rw [pairsOf_toList]
  simp only [Array.toList_reverse, Array.toList_zip]
  apply List.ext_getElem
  · simp
  · intro i h1 h2
    simp [List.getElem_reverse, List.getElem_zip]

theorem sort_tree_rev {a : Addr} {vs : List Value} {n : Nat} {κ : SortKind} {ask : Nat → Nat → Bool} {P : PySem.Fin → Shared → Prop} (ho : s.heap.get? a = some (seqObj "list" vs.toArray n)) (h2 : 2 ≤ vs.length) (h64 : vs.length < 64)
    (hκ : ∀ Q : SortKind → Shared → Prop, Q κ { s with heap := midHeap s.heap a vs } → wpAny (model prog w) A (keyKind' vs.toArray) Q E { s with heap := midHeap s.heap a vs })
    (hA : Ask vs.length ask) (hcmp : ∀ i j (C : Bool → Shared → Prop), i < vs.length → j < vs.length → C (ask i j) { s with heap := midHeap s.heap a vs } → kas_ask prog w A κ vs.reverse i j C { s with heap := midHeap s.heap a vs })
    (h : P (.done (.ret .none)) { s with heap := sortedHeap s.heap a vs (outOf ask vs.reverse).reverse.toArray }) :
    wpAny (model prog w) A (Builtin.«list.sort» ⟨[.ref a], [(Str.ofString "reverse", .bool true)]⟩) P E s := by
  rw [list_sort_rev]
  have ha : a < s.heap.objs.size := Heap.lt_size ho
  refine wpAny_bind (listItems_at ho rfl ?_)
  refine wpAny_bind (listUpdate_at ho rfl ?_ (by rw [List.size_toArray, sizeLine_eq]; omega) (Nat.zero_le _))
  obtain ⟨e1, ho1⟩ : ∃ e1, (s.heap.update a (Obj.mapSeq fun _ => (#[] : Array Value))).get? a = some (seqObj "list" #[] e1) := ⟨_, get?_update_seq ho (fun _ => #[])⟩
  refine wpAny_bind (seqEpoch_at ho1 rfl ?_)
  refine wpAny_bind (wpAny_newTuple ?_ (by show vs.length ≤ _; rw [sizeLine_eq]; omega))
  refine wpAny_bind (wpAny_newList ?_ (Nat.zero_le _))
  refine wpAny_holding ?_
  have ho6 : (midHeap s.heap a vs).get? a = some (seqObj "list" #[] e1) := by
    unfold midHeap
    rw [Heap.get?_push_ne _ _ _ (by rw [size_push', Heap.size_update]; exact Nat.ne_of_lt (Nat.lt_succ_of_lt ha)), Heap.get?_push_ne _ _ _ (by rw [Heap.size_update]; exact Nat.ne_of_lt ha)]
    exact ho1
  show wpAny (model prog w) A _ P E { s with heap := midHeap s.heap a vs }
  dsimp only
  refine wpAny_bind (wpAny_rule ?_)
  have hn2 : ¬ vs.toArray.size < 2 := by rw [List.size_toArray]; omega
  rw [if_neg hn2, if_neg hn2]
  refine wpAny_bind (hκ _ ?_)
  have hrl : vs.reverse.length = vs.length := List.length_reverse
  have est : SortSt.mk' κ (vs.toArray.zip vs.toArray).reverse #[] 7 none = kas_st κ (pairsOf vs.reverse) (List.toArray (List.range vs.reverse.length)) := by
    have e := kas_range (pairsOf vs.reverse)
    rw [pairsOf_size] at e
    show SortSt.mk' κ _ #[] 7 none = SortSt.mk' κ ((List.toArray (List.range vs.reverse.length)).map (kas_item (pairsOf vs.reverse))) #[] 7 none
    rw [e, pairs_rev]
  have run := kas_runs (prog := prog) (w := w) (A := A) (κ := κ) (it := pairsOf vs.reverse) (E := E) (n := vs.reverse.length) (s := { s with heap := midHeap s.heap a vs }) (Q := fun _ st' s' => s' = { s with heap := midHeap s.heap a vs } ∧ ∃ p : Array Nat, p = krun ask (kas_sort vs.reverse.length) ∧ p.size = vs.reverse.length ∧ arrOf st' = p.map (kas_item (pairsOf vs.reverse)) ∧ failedOf st' = none)
    (G := fun p s' => s' = { s with heap := midHeap s.heap a vs } ∧ p = krun ask (kas_sort vs.reverse.length)) (by omega) (by omega) (fun p' st' s' a1 a2 a3 a4 => ⟨a4.1, p', a4.2, a1, a2, a3⟩)
    (kasWp_runIn (n := vs.length) (ask := ask) (fun i j C hi hj hC => by have := hcmp i j C hi hj hC; rw [kas_ask_eq] at this; exact this) _ (by rw [hrl]; exact sort_in hA (by omega)) ⟨rfl, rfl⟩)
  rw [← est] at run
  refine wpAny_bind (wpAny_mono run ?_ fun _ _ e => e)
  rintro ⟨⟨⟩, st'⟩ s' ⟨rfl, p, rfl, hp, har, hf⟩
  dsimp only
  have hout : ((arrOf st').map (·.2)).reverse = (outOf ask vs.reverse).reverse.toArray := by
    apply Array.toList_inj.mp
    rw [Array.toList_reverse, har, Array.map_map, Array.toList_map]
    congr 1
    exact List.map_congr_left fun i _ => by show (kas_item (pairsOf vs.reverse) i).2 = _; rw [kas_item_eq]
  rw [hout]
  have hsz : (outOf ask vs.reverse).reverse.toArray.size = vs.length := by rw [List.size_toArray, List.length_reverse]; unfold outOf; rw [List.length_map, Array.length_toList, hp, hrl]
  refine wpAny_bind (seqEpoch_at ho6 rfl ?_)
  refine wpAny_bind (listUpdate_at ho6 rfl ?_ (Nat.zero_le _) (by rw [hsz, sizeLine_eq]; omega))
  rw [hf]
  simp only [bne_self_eq_false, Bool.false_eq_true, if_false]
  exact wpAny_pure h

theorem args_sorted_rev (a : Value) : argsOk "sorted" ⟨[a], [(Str.ofString "reverse", .bool true)]⟩ := by unfold argsOk; kernel_rfl
theorem args_list_sort_rev (a : Value) : argsOk "list.sort" ⟨[a], [(Str.ofString "reverse", .bool true)]⟩ := by unfold argsOk; kernel_rfl

theorem sorted_tree_rev {l : Addr} {vs : List Value} {κ : SortKind} {ask : Nat → Nat → Bool} {Q : Value → Shared → Prop} (hl : s.heap.IsList l vs.toArray) (h2 : 2 ≤ vs.length) (h64 : vs.length < 64)
    (hκ : ∀ A' E' (Q : SortKind → Shared → Prop), Q κ { s with heap := midHeap (colHeap s.heap vs) (s.heap.objs.size + 1) vs } → wpAny (model prog w) A' (keyKind' vs.toArray) Q E' { s with heap := midHeap (colHeap s.heap vs) (s.heap.objs.size + 1) vs })
    (hA : Ask vs.length ask) (hcmp : ∀ i j (C : Bool → Shared → Prop), i < vs.length → j < vs.length → C (ask i j) { s with heap := midHeap (colHeap s.heap vs) (s.heap.objs.size + 1) vs } → kas_ask prog w A.in1.in1 κ vs.reverse i j C { s with heap := midHeap (colHeap s.heap vs) (s.heap.objs.size + 1) vs })
    (h : Q (.ref (s.heap.objs.size + 1)) { s with heap := sortedAll s.heap vs (outOf ask vs.reverse).reverse.toArray }) :
    wpAny (model prog w) A (call (.builtin "sorted") [.ref l] [(Str.ofString "reverse", .bool true)]) Q E s := by
  refine call_function_entry_kw kind_sorted plain_sorted entry_sorted (args_sorted_rev _) ?_
  unfold Builtin.«sorted»
  refine wpAny_bind (m := checkCount "sorted" 1 1 _) (wpAny_pure ?_)
  refine wpAny_bind (collect_list hl ?_ (by rw [sizeLine_eq]; omega))
  refine wpAny_bind (wpAny_newList ?_ (by rw [sizeLine_eq]; omega))
  have hsz : ((s.heap.push (seqObj "list" #[] 0)).update s.heap.objs.size (Obj.mapSeq (· ++ vs.toArray))).objs.size = s.heap.objs.size + 1 := by
    rw [Heap.size_update, size_push']
  have hoL : (colHeap s.heap vs).get? (s.heap.objs.size + 1) = some (seqObj "list" vs.toArray 0) := by
    unfold colHeap
    rw [← hsz]; exact Heap.get?_push_size _ rfl
  show wpAny _ _ _ _ _ { s with heap := colHeap s.heap vs }
  rw [hsz]
  refine wpAny_bind (wpAny_holding (wpAny_call_entry_kw slot_list_sort ⟨_, hoL, rfl⟩ entry_list_sort (sort_tree_rev (s := { s with heap := colHeap s.heap vs }) hoL h2 h64 (hκ _ _) hA hcmp ⟨_, rfl, ?_⟩) (args_list_sort_rev _)))
  exact wpAny_pure ⟨_, rfl, h⟩
end

end Mine


/-! part S5 -/
set_option autoImplicit false
set_option maxRecDepth 100000
set_option linter.unusedVariables false
open PySem PySem.W PyProof.Rows
namespace Mine

variable {K : Glo} {F : Frm}

section
variable {prog : Program} {w : World} {A : Around} {E : Value → Shared → Prop} {s : Shared}
theorem small_snd {vs : List Value} : ((vs.toArray.zip vs.toArray).map (·.2)) = vs.toArray := by
  apply Array.toList_inj.mp
  simp only [Array.toList_map, Array.toList_zip]
  exact List.map_snd_zip (Nat.le_refl _)
theorem arrOf_mk (k : SortKind) (a : Array Keyed) : arrOf (SortSt.mk' k a #[] 7 none) = a := rfl
theorem failedOf_mk (k : SortKind) (a : Array Keyed) : failedOf (SortSt.mk' k a #[] 7 none) = none := rfl
theorem small_rev {vs : List Value} (h : vs.length < 2) : vs.reverse = vs := by
  match vs, h with
  | [], _ => rfl
  | [_], _ => rfl
theorem sort_small {a : Addr} {vs : List Value} {n : Nat} {P : PySem.Fin → Shared → Prop} (ho : s.heap.get? a = some (seqObj "list" vs.toArray n)) (h2 : vs.length < 2)
    (h : P (.done (.ret .none)) { s with heap := sortedHeap s.heap a vs vs.toArray }) (kw : List (Str × Value)) (hkw : kw = [] ∨ kw = [(Str.ofString "reverse", .bool true)]) :
    wpAny (model prog w) A (Builtin.«list.sort» ⟨[.ref a], kw⟩) P E s := by
  have ha : a < s.heap.objs.size := Heap.lt_size ho
  obtain ⟨e1, ho1⟩ : ∃ e1, (s.heap.update a (Obj.mapSeq fun _ => (#[] : Array Value))).get? a = some (seqObj "list" #[] e1) := ⟨_, get?_update_seq ho (fun _ => #[])⟩
  have ho6 : (midHeap s.heap a vs).get? a = some (seqObj "list" #[] e1) := by
    unfold midHeap
    rw [Heap.get?_push_ne _ _ _ (by rw [size_push', Heap.size_update]; exact Nat.ne_of_lt (Nat.lt_succ_of_lt ha)), Heap.get?_push_ne _ _ _ (by rw [Heap.size_update]; exact Nat.ne_of_lt ha)]
    exact ho1
  have hn2 : vs.toArray.size < 2 := by rw [List.size_toArray]; omega
  rcases hkw with rfl | rfl
  · rw [list_sort_plain]
    refine wpAny_bind (listItems_at ho rfl ?_)
    refine wpAny_bind (listUpdate_at ho rfl ?_ (by rw [List.size_toArray, sizeLine_eq]; omega) (Nat.zero_le _))
    refine wpAny_bind (seqEpoch_at ho1 rfl ?_)
    refine wpAny_bind (wpAny_newTuple ?_ (by show vs.length ≤ _; rw [sizeLine_eq]; omega))
    refine wpAny_bind (wpAny_newList ?_ (Nat.zero_le _))
    refine wpAny_holding ?_
    show wpAny (model prog w) A _ P E { s with heap := midHeap s.heap a vs }
    dsimp only
    rw [if_pos hn2, if_pos hn2]
    refine wpAny_bind (wpAny_pure ?_)
    rw [StateT.run_pure]
    refine wpAny_bind (wpAny_pure ?_)
    dsimp only
    rw [arrOf_mk]
    rw [small_snd]
    refine wpAny_bind (seqEpoch_at ho6 rfl ?_)
    refine wpAny_bind (listUpdate_at ho6 rfl ?_ (Nat.zero_le _) (by rw [List.size_toArray, sizeLine_eq]; omega))
    simp only [bne_self_eq_false, Bool.false_eq_true, if_false]
    exact wpAny_pure h
  · rw [list_sort_rev]
    refine wpAny_bind (listItems_at ho rfl ?_)
    refine wpAny_bind (listUpdate_at ho rfl ?_ (by rw [List.size_toArray, sizeLine_eq]; omega) (Nat.zero_le _))
    refine wpAny_bind (seqEpoch_at ho1 rfl ?_)
    refine wpAny_bind (wpAny_newTuple ?_ (by show vs.length ≤ _; rw [sizeLine_eq]; omega))
    refine wpAny_bind (wpAny_newList ?_ (Nat.zero_le _))
    refine wpAny_holding ?_
    show wpAny (model prog w) A _ P E { s with heap := midHeap s.heap a vs }
    dsimp only
    refine wpAny_bind (wpAny_rule ?_)
    rw [if_pos hn2, if_pos hn2]
    refine wpAny_bind (wpAny_pure ?_)
    rw [StateT.run_pure]
    refine wpAny_bind (wpAny_pure ?_)
    dsimp only
    have e : ((vs.toArray.zip vs.toArray).reverse.map (·.2)).reverse = vs.toArray := by
      rw [pairs_rev, small_rev h2]
      show ((vs.toArray.zip vs.toArray).map (·.2)).reverse = _
      rw [small_snd]
      apply Array.toList_inj.mp
      rw [Array.toList_reverse]
      exact small_rev h2
    rw [arrOf_mk]
    rw [e]
    refine wpAny_bind (seqEpoch_at ho6 rfl ?_)
    refine wpAny_bind (listUpdate_at ho6 rfl ?_ (Nat.zero_le _) (by rw [List.size_toArray, sizeLine_eq]; omega))
    simp only [bne_self_eq_false, Bool.false_eq_true, if_false]
    exact wpAny_pure h
end

section
variable {prog : Program} {w : World} {A : Around} {E : Value → Shared → Prop} {s : Shared}
theorem sorted_small {l : Addr} {vs : List Value} {Q : Value → Shared → Prop} (hl : s.heap.IsList l vs.toArray) (h2 : vs.length < 2)
    (h : Q (.ref (s.heap.objs.size + 1)) { s with heap := sortedAll s.heap vs vs.toArray }) (kw : List (Str × Value)) (hkw : kw = [] ∨ kw = [(Str.ofString "reverse", .bool true)]) :
    wpAny (model prog w) A (call (.builtin "sorted") [.ref l] kw) Q E s := by
  refine call_function_entry_kw kind_sorted plain_sorted entry_sorted (by rcases hkw with rfl | rfl; exact args_sorted1 _; exact args_sorted_rev _) ?_
  unfold Builtin.«sorted»
  refine wpAny_bind (m := checkCount "sorted" 1 1 _) (wpAny_pure ?_)
  refine wpAny_bind (collect_list hl ?_ (by rw [sizeLine_eq]; omega))
  refine wpAny_bind (wpAny_newList ?_ (by rw [sizeLine_eq]; omega))
  have hsz : ((s.heap.push (seqObj "list" #[] 0)).update s.heap.objs.size (Obj.mapSeq (· ++ vs.toArray))).objs.size = s.heap.objs.size + 1 := by
    rw [Heap.size_update, size_push']
  have hoL : (colHeap s.heap vs).get? (s.heap.objs.size + 1) = some (seqObj "list" vs.toArray 0) := by
    unfold colHeap
    rw [← hsz]; exact Heap.get?_push_size _ rfl
  show wpAny _ _ _ _ _ { s with heap := colHeap s.heap vs }
  rw [hsz]
  refine wpAny_bind (wpAny_holding (wpAny_call_entry_kw slot_list_sort ⟨_, hoL, rfl⟩ entry_list_sort (sort_small (s := { s with heap := colHeap s.heap vs }) hoL h2 ⟨_, rfl, ?_⟩ kw hkw) (by rcases hkw with rfl | rfl; exact args_list_sort _; exact args_list_sort_rev _)))
  exact wpAny_pure ⟨_, rfl, h⟩
end

/-- sorted of less than 64 tuples of ints, forwards or backwards -/
def sortTup (rev : Bool) (ts : List (List Int)) (us : List V) : List V :=
  if us.length < 2 then us else if rev = true then (sortV (askT ts.reverse) us.reverse).reverse else sortV (askT ts) us
def sortedX (rev : Bool) : List V → M V
  | [.obj l] => fun σ => match σ.st[l]? with
    | some (.lst vs) => match tupsOf vs with
      | some ts => if vs.length < 64 then .ok (.obj σ.st.length) { σ with st := σ.st ++ [.lst (sortTup rev ts vs)] } else .stuck
      | none => .stuck
    | _ => .stuck
  | _ => stuck
def revKw (rev : Bool) : List (Str × Value) := if rev = true then [(Str.ofString "reverse", .bool true)] else []

theorem getD_rev {α : Type} {d : α} {xs : List α} {i : Nat} (h : i < xs.length) : xs.reverse.getD i d = xs.getD (xs.length - 1 - i) d := by
  simp [List.getD_eq_getElem?_getD, List.getElem?_reverse h]

theorem run_sortedX (fk : FOk F) (rev : Bool) {σ : S} {ρ : List Addr} {s : Shared} {vs : List V} {ws : List Value} (rel : Rel K F σ ρ s) (r : RepL K s.heap ρ vs ws) : Run K F (PySem.call (.builtin "sorted") ws (revKw rev)) (Rep K) (sortedX rev vs σ) ρ s := by
  unfold sortedX
  split
  · rename_i l
    obtain ⟨x, r', rfl, r1, r2⟩ := RepL.cons_iff.mp r
    obtain rfl := RepL.nil_iff.mp r2
    cases hl : σ.st[l]? with
    | none => exact Run.stuck
    | some c =>
      cases c with
      | lst us =>
        dsimp only
        cases hi : tupsOf us with
        | none => exact Run.stuck
        | some ts =>
          dsimp only
          by_cases hz : us.length < 64
          · rw [if_pos hz]
            obtain ⟨a, xs, n, rfl, hρ, hL, hr, hn⟩ := rel.list r1 hl
            obtain ⟨t1, t2⟩ := tups_at hr hi
            have hxl : xs.length = us.length := hr.length
            -- the end, from what was put out
            have fin : ∀ (out : List Value), RepL K s.heap ρ (sortTup rev ts us) out → ∃ ρ', Rel K F { σ with st := σ.st ++ [.lst (sortTup rev ts us)] } ρ' { s with heap := sortedAll s.heap xs out.toArray } ∧
                Ext F.mine ρ ρ' s.heap (sortedAll s.heap xs out.toArray) ∧ Rep K (sortedAll s.heap xs out.toArray) ρ' (.obj σ.st.length) (.ref (s.heap.objs.size + 1)) := by
              intro out hrep
              obtain ⟨m, hm⟩ := sortedAll_out (h := s.heap) (xs := xs) (out := out.toArray)
              have hlen : (sortTup rev ts us).length ≤ 1000000 := by
                have hz1 : ∀ (q : List (List Int)) (v : List V), v.length = us.length → 2 ≤ v.length → (sortV (askT q) v).length ≤ 1000000 := by
                  intro q v hv h2
                  unfold sortV
                  rw [List.length_map, Array.length_toList, (sort_ok (askT_ok q v.length) (by omega)).1]; omega
                unfold sortTup
                split
                · omega
                · split
                  · rw [List.length_reverse]; exact hz1 _ _ List.length_reverse (by rw [List.length_reverse]; omega)
                  · exact hz1 _ _ rfl (by omega)
              obtain ⟨rel', x'⟩ := rel.newAt (s' := { s with heap := sortedAll s.heap xs out.toArray }) sortedAll_keep (Heap.get?_none_of_le (Nat.le_succ _)) (n := m) hm hrep hlen rfl rfl
              exact ⟨_, rel', x', Rep.obj_iff.mpr ⟨_, by rw [← rel.len, List.getElem?_concat_length], rfl⟩⟩
            by_cases hsm : us.length < 2
            · have e : sortTup rev ts us = us := by unfold sortTup; rw [if_pos hsm]
              refine Run.ok (sorted_small hL.isList (by omega) (fin xs (by rw [e]; exact hr)) _ ?_)
              cases rev <;> simp [revKw]
            · have hmid : ∀ i, i < xs.length → ∃ a o ys n, xs.getD i Value.none = .ref a ∧ (midHeap (colHeap s.heap xs) (s.heap.objs.size + 1) xs).get? a = some o ∧ o.cls = .type "tuple" ∧ o.data = .seq ys n ∧ IntsAre ys.toList (ts.getD i []) ∧ ts.getD i [] ≠ [] := by
                intro i hi'
                obtain ⟨a', o, ys, n', e1, e2, _, e3, e4, e5, e6⟩ := t2 i (by omega)
                exact ⟨a', o, ys, n', e1, mid_keep _ _ e2, e3, e4, e5, e6⟩
              have hkind : ∀ A' E' (Q : SortKind → Shared → Prop), Q (tuples' true) { s with heap := midHeap (colHeap s.heap xs) (s.heap.objs.size + 1) xs } → wpAny (model K.prog K.w) A' (keyKind' xs.toArray) Q E' { s with heap := midHeap (colHeap s.heap xs) (s.heap.objs.size + 1) xs } := by
                intro A' E' Q q
                obtain ⟨fs, k1, k2, k3⟩ := katTups_of (h := midHeap (colHeap s.heap xs) (s.heap.objs.size + 1) xs) (by omega) hmid
                refine kat_kind (s := { s with heap := midHeap (colHeap s.heap xs) (s.heap.objs.size + 1) xs }) (T := .type "int") k1 (by omega) (fun v hv => ?_) (by decide) q
                obtain ⟨i, t, rfl⟩ := k3 v hv
                exact .now
              have hcmp : ∀ i j (C : Bool → Shared → Prop) (A' : Around), i < xs.length → j < xs.length → C (askT ts i j) { s with heap := midHeap (colHeap s.heap xs) (s.heap.objs.size + 1) xs } →
                  wpAny (model K.prog K.w) A' (keyLt' (tuples' true) (xs.getD i Value.none) (xs.getD j Value.none)) C (fun _ _ => False) { s with heap := midHeap (colHeap s.heap xs) (s.heap.objs.size + 1) xs } := by
                intro i j C A' hi' hj' hC
                obtain ⟨a1, o1, xs1, n1, e1, g1, _, d1, I1, _⟩ := hmid i hi'
                obtain ⟨a2, o2, xs2, n2, e2, g2, _, d2, I2, _⟩ := hmid j hj'
                rw [e1, e2]
                refine kat_lt (s := { s with heap := midHeap (colHeap s.heap xs) (s.heap.objs.size + 1) xs }) g1 d1 g2 d2 (lex_at _ _ _ _ _ 0 I1 I2 fun c hc => ?_)
                have hsz : ∀ {ys : Array Value} {ns : List Int}, IntsAre ys.toList ns → ys.size = ns.length := by
                  intro ys ns hI
                  have := (ints_rep (K := K) (h := s.heap) (ρ := ρ) hI).length
                  simpa using this
                rw [hsz I1, hsz I2, lex_eq] at hc
                rw [hc]; exact hC
              cases rev with
              | false =>
                have hA := askT_ok ts xs.length
                have e : sortTup false ts us = sortV (askT ts) us := by unfold sortTup; rw [if_neg hsm, if_neg (by simp)]
                refine Run.ok (sorted_tree (κ := tuples' true) (ask := askT ts) hL.isList (by omega) (by omega) hkind hA (fun i j C hi' hj' hC => hcmp i j C _ hi' hj' hC) (fin _ ?_))
                rw [e]
                have hsl := sort_lt hA (by omega)
                unfold sortV outOf
                rw [hxl]
                rw [hxl] at hsl
                exact maps_rep hr _ hsl
              | true =>
                have hA := askT_ok ts.reverse xs.length
                have e : sortTup true ts us = (sortV (askT ts.reverse) us.reverse).reverse := by unfold sortTup; rw [if_neg hsm, if_pos rfl]
                refine Run.ok (sorted_tree_rev (κ := tuples' true) (ask := askT ts.reverse) hL.isList (by omega) (by omega) hkind hA (fun i j C hi' hj' hC => ?_) (fin _ ?_))
                · unfold kas_ask
                  rw [getD_rev hi', getD_rev hj']
                  refine hcmp _ _ C _ (by omega) (by omega) ?_
                  have q : askT ts.reverse i j = askT ts (xs.length - 1 - i) (xs.length - 1 - j) := by
                    unfold askT
                    rw [getD_rev (by omega), getD_rev (by omega), show ts.length = xs.length by omega]
                  rw [← q]; exact hC
                · rw [e]
                  refine RepL.reverse ?_
                  have hsl := sort_lt hA (by omega)
                  unfold sortV outOf
                  rw [List.length_reverse, List.length_reverse, hxl]
                  rw [hxl] at hsl
                  exact maps_rep hr.reverse _ (fun i hi => by rw [List.length_reverse]; exact hsl i hi)
          · rw [if_neg hz]; exact Run.stuck
  · exact Run.stuck
theorem built_sortedX : BuiltOk K (.builtin "sorted") (sortedX false) := fun F fk σ ρ s vs ws rel r => run_sortedX fk false rel r

/-- sorted(e, reverse=True) -/
theorem eval_CallKw (x : Str) (np pos : Pos) (args : List Expr) (kws : List Keyword) (env : Env) : eval (.Call (.Name x np) args kws pos) env = (do callWith pos (← eval (.Name x np) env) [] (backTo pos (starEach args env)) (backToKw pos (keywordEach kws env))) := rfl

theorem simE_sortedRev (fk : FOk F) {np pos kp cp : Pos} {arg : Expr} {ma : M V} {k : Nat}
    (hx : F.env.kindOf (Str.ofString "sorted") = some .globalImplicit) (hm : K.mg (Str.ofString "sorted") = none) (ha : SimE K F arg ma)
    (hst : starEach (arg :: []) F.env = (false, eval arg F.env) :: starEach [] F.env := by rfl) :
    SimE K F (.Call (.Name (Str.ofString "sorted") np) [arg] [⟨some (Str.ofString "reverse"), .Constant (.bool true) k cp, kp⟩] pos) (do let v ← ma; sortedX true [v]) := by
  intro σ ρ s rel
  refine Run.of_wp fun hne => ?_
  rw [eval_CallKw]
  refine wpAny_bind (wp_builtin fk rel hx hm (v := .builtin "sorted") (by decide +kernel) ?_)
  have hEs : SimEs K F [arg] (do let v ← ma; let vs ← (pure [] : M (List V)); pure (v :: vs)) := simEs_cons ha simEs_nil hst
  have hEq : (do let v ← ma; sortedX true [v] : M V) σ = ((do let v ← ma; let vs ← (pure [] : M (List V)); pure (v :: vs)) >>= fun vs => sortedX true vs) σ := by
    simp only [M.bind_def]
    cases ma σ <;> rfl
  rw [hEq] at hne ⊢
  refine callWith_kw ?_ (by rw [hst]; rfl) (by rw [backTo_any, hst]; rfl)
  refine Run.bindWp (hEs pos σ ρ s rel) hne fun vs σ₁ ρ₁ s₁ ws e1 e2 rel₁ x₁ rv => ?_
  rw [e2] at hne ⊢
  refine kws_cons (wpAny_Constant_bool (kws_nil ?_))
  show wpAny _ _ (PySem.call (.builtin "sorted") ws (revKw true)) _ _ s₁
  exact wpAny_mono ((run_sortedX fk true rel₁ rv).wp hne) (fun _ _ q => q.up x₁) fun _ _ q => q.up x₁

end Mine


/-! part F22 -/
set_option autoImplicit false
set_option maxRecDepth 100000
set_option linter.unusedVariables false
open PySem PySem.W PyProof.Rows
namespace Mine

variable {K : Glo} {F : Frm}

/-! ### sum of ints -/
def sumB : List V → M V
  | [.obj l] => fun σ => match σ.st[l]? with
    | some (.lst vs) => match intsOf vs with
      | some ns => .ok (.int ns.sum) σ
      | none => .stuck
    | _ => .stuck
  | _ => stuck
theorem ints_items : ∀ {ws : List Value} {ns : List Int}, IntsAre ws ns → ∃ xs : List (Int × Tok), ws = xs.map (fun p => Value.int p.1 p.2) ∧ ns = xs.map (·.1)
  | _, _, .nil => ⟨[], rfl, rfl⟩
  | _, _, .cons n t r => by
    obtain ⟨xs, e1, e2⟩ := ints_items r
    exact ⟨(n, t) :: xs, by simp [e1], by simp [e2]⟩
theorem preSum_nums (xs : List (Int × Tok)) : preSum (numAt xs.toArray) xs.toArray.size = (xs.map (·.1)).sum := by
  rw [preSum_eq, List.take_of_length_le (by simp)]
theorem built_sum : BuiltOk K (.builtin "sum") sumB := by
  intro F fk σ ρ s vs ws rel r
  unfold sumB
  split
  · rename_i l
    obtain ⟨x, r', rfl, r1, r2⟩ := RepL.cons_iff.mp r
    obtain rfl := RepL.nil_iff.mp r2
    cases hl : σ.st[l]? with
    | none => exact Run.stuck
    | some c =>
      cases c with
      | lst us =>
        dsimp only
        cases hi : intsOf us with
        | none => exact Run.stuck
        | some ns =>
          obtain ⟨a, xs, n, rfl, hρ, hL, hr, hn⟩ := rel.list r1 hl
          obtain ⟨ps, e1, e2⟩ := ints_items (intsOf_are hr hi)
          have hl' : s.heap.IsList a (intItems ps.toArray) := by
            have e : intItems ps.toArray = xs.toArray := by rw [e1]; unfold intItems; simp
            rw [e]; exact hL.isList
          refine Run.ok (sum_intListG fk.hd hl' fun h' tk t' hk => ⟨ρ, rel.kept hk rfl rfl, Ext.kept hk, ?_⟩)
          rw [preSum_nums, ← e2]
          exact Rep.int ..
  · exact Run.stuck

/-! ### list * int -/
def mulLV : V → V → M V
  | .int a, b => mulV (.int a) b
  | .obj l, .int k => fun σ => match σ.st[l]? with
    | some (.lst xs) => if 0 ≤ k ∧ k < 1000 ∧ xs.length < 1000 then .ok (.obj σ.st.length) { σ with st := σ.st ++ [.lst (List.replicate k.toNat xs).flatten] } else .stuck
    | _ => .stuck
  | _, _ => fun _ => .stuck
theorem rep_flat {h : Heap} {ρ : List Addr} {vs : List V} {ws : List Value} (r : RepL K h ρ vs ws) : ∀ n : Nat, RepL K h ρ (List.replicate n vs).flatten (List.replicate n ws).flatten
  | 0 => RepL.nil
  | n + 1 => by
    rw [List.replicate_succ, List.replicate_succ, List.flatten_cons, List.flatten_cons]
    exact r.append (rep_flat r n)
theorem bin_mulL : BinOk K .Mult mulLV := by
  intro F fk σ ρ s a b wa wb rel ra rb
  cases a with
  | int i => exact bin_mul F fk σ ρ s (.int i) b wa wb rel ra rb
  | obj l =>
    cases b with
    | int k =>
      obtain ⟨u, rfl⟩ := Rep.int_iff.mp rb
      unfold mulLV
      dsimp only
      cases hl : σ.st[l]? with
      | none => exact Run.stuck
      | some c =>
        cases c with
        | lst xs =>
          dsimp only
          by_cases hz : 0 ≤ k ∧ k < 1000 ∧ xs.length < 1000
          · rw [if_pos hz]
            obtain ⟨x, ws, n, rfl, hρ, hL, hr, hn⟩ := rel.list ra hl
            have hwl : ws.length = xs.length := hr.length
            have hmul : ws.length * k.toNat ≤ 1000000 := by
              have : ws.length * k.toNat ≤ 1000 * 1000 := Nat.mul_le_mul (by omega) (by omega)
              omega
            have hbig : (List.replicate k.toNat xs).flatten.length ≤ 1000000 := by
              rw [List.length_flatten, List.map_replicate, List.sum_replicate_nat, Nat.mul_comm, ← hwl]; exact hmul
            refine Run.ok (wpAny_binaryOp_repeat_ref (T := "list") (U := "int") (by decide) ⟨_, hL, rfl⟩ (fun s' => typeIs_int s' k u) noFill_list_mul PySem.F.fills_int_mul PySem.F.slot_int_rmul repeat_list PySem.F.slot_int_index.lookup
              (call_meets PySem.F.slot_int_rmul (typeIs_int s k u) PySem.F.entry_int_rmul (PySem.F.args_int_rmul_2 _ _) (lm_int_rmul_list_any k u x ws.toArray n none #[])
                ⟨hL, rfl, ⟨_, hL, rfl⟩, call_meets PySem.F.slot_list_mul ⟨_, hL, rfl⟩ PySem.F.entry_list_mul (PySem.F.args_list_mul_2 _ _)
                  (lm_list_mul_any x ws.toArray n none #[] k u (by simp [Builtin.List.listFitsIndex]; omega) (by simp only [List.size_toArray]; omega) (by simp [Builtin.List.listTooLong, sizeLine]; omega))
                  ⟨hL, ?_⟩⟩))
            rw [listMul_foldl_if]
            obtain ⟨rel', x'⟩ := rel.newList (o := { cls := .type "list", data := .seq (List.replicate k.toNat ws).flatten.toArray }) rfl (rep_flat hr k.toNat) hbig s.toks
            exact ⟨_, rel', x', Rep.obj_iff.mpr ⟨_, by rw [← rel.len, List.getElem?_concat_length], rfl⟩⟩
          · rw [if_neg hz]; exact Run.stuck
    | _ => exact Run.stuck
  | _ => exact Run.stuck

def sortedB2 : List V → M V := orB sortedB (sortedX false)
theorem built_sorted2 : BuiltOk K (.builtin "sorted") sortedB2 := built_or built_sorted built_sortedX

end Mine


/-! part H1 -/
set_option autoImplicit false
set_option linter.unusedVariables false
namespace Mine

/-! ### heaps, plain -/
section
variable {α : Type} [Inhabited α]

def nth (vs : List α) (i : Nat) : α := vs[i]?.getD default
theorem nth_set_self {vs : List α} {i : Nat} {x : α} (h : i < vs.length) : nth (vs.set i x) i = x := by
  unfold nth; rw [List.getElem?_set_self h]; rfl
theorem nth_set_ne {vs : List α} {i j : Nat} {x : α} (h : i ≠ j) : nth (vs.set i x) j = nth vs j := by
  unfold nth; rw [List.getElem?_set_ne h]
theorem nth_eq {vs : List α} {i : Nat} (h : i < vs.length) : vs[i]? = some (nth vs i) := by
  unfold nth; rw [List.getElem?_eq_getElem h]; rfl
theorem nth_getElem {vs : List α} {i : Nat} (h : i < vs.length) : nth vs i = vs[i] := by
  unfold nth; rw [List.getElem?_eq_getElem h]; rfl
theorem nth_mem {vs : List α} {i : Nat} (h : i < vs.length) : nth vs i ∈ vs := by rw [nth_getElem h]; exact List.getElem_mem h

/-- the way up -/
def sd (lt : α → α → Bool) (x : α) (start : Nat) (vs : List α) (pos : Nat) : List α :=
  if h : start < pos then
    if lt x (nth vs ((pos - 1) / 2)) = true then sd lt x start (vs.set pos (nth vs ((pos - 1) / 2))) ((pos - 1) / 2)
    else vs.set pos x
  else vs.set pos x
termination_by pos
decreasing_by omega

/-- the way down to a leaf -/
def kid (lt : α → α → Bool) (vs : List α) (pos : Nat) : Nat :=
  if 2 * pos + 2 < vs.length ∧ lt (nth vs (2 * pos + 1)) (nth vs (2 * pos + 2)) = false then 2 * pos + 2 else 2 * pos + 1
theorem kid_gt (lt : α → α → Bool) (vs : List α) (pos : Nat) : pos < kid lt vs pos := by unfold kid; split <;> omega
theorem kid_lt {lt : α → α → Bool} {vs : List α} {pos : Nat} (h : 2 * pos + 1 < vs.length) : kid lt vs pos < vs.length := by unfold kid; split <;> omega
theorem kid_par (lt : α → α → Bool) (vs : List α) (pos : Nat) : (kid lt vs pos - 1) / 2 = pos := by unfold kid; split <;> omega

def down (lt : α → α → Bool) (vs : List α) (pos : Nat) : List α × Nat :=
  if h : 2 * pos + 1 < vs.length then down lt (vs.set pos (nth vs (kid lt vs pos))) (kid lt vs pos) else (vs, pos)
termination_by vs.length - pos
decreasing_by
  have := kid_gt lt vs pos
  have := kid_lt (lt := lt) h
  simp only [List.length_set]; omega

def su (lt : α → α → Bool) (vs : List α) (pos : Nat) : List α :=
  sd lt (nth vs pos) pos ((down lt vs pos).1.set (down lt vs pos).2 (nth vs pos)) (down lt vs pos).2

/-- a weak order on the items P -/
structure SWO (P : α → Prop) (lt : α → α → Bool) : Prop where
  asymm : ∀ a b, P a → P b → lt a b = true → lt b a = false
  trans : ∀ a b c, P a → P b → P c → lt b a = false → lt c b = false → lt c a = false

/-! lengths and items -/
theorem sd_length (lt : α → α → Bool) (x : α) (start : Nat) : ∀ (pos : Nat) (vs : List α), (sd lt x start vs pos).length = vs.length := by
  intro pos
  induction pos using Nat.strongRecOn with
  | _ pos ih =>
    intro vs
    rw [sd]
    split
    · split
      · rw [ih _ (by omega)]; simp
      · simp
    · simp
theorem down_length (lt : α → α → Bool) : ∀ (k : Nat) (vs : List α) (pos : Nat), vs.length - pos ≤ k → (down lt vs pos).1.length = vs.length := by
  intro k
  induction k with
  | zero => intro vs pos h; rw [down, dif_neg (by omega)]
  | succ k ih =>
    intro vs pos h
    rw [down]
    split
    · rename_i hc
      have := kid_gt lt vs pos
      rw [ih _ _ (by simp; omega)]; simp
    · rfl
theorem down_pos_lt (lt : α → α → Bool) : ∀ (k : Nat) (vs : List α) (pos : Nat), vs.length - pos ≤ k → pos < vs.length → (down lt vs pos).2 < vs.length := by
  intro k
  induction k with
  | zero => intro vs pos h h2; omega
  | succ k ih =>
    intro vs pos h h2
    rw [down]
    split
    · rename_i hc
      have h3 := kid_gt lt vs pos
      have h4 := kid_lt (lt := lt) hc
      have := ih (vs.set pos (nth vs (kid lt vs pos))) (kid lt vs pos) (by simp; omega) (by simpa using h4)
      simpa using this
    · exact h2
theorem su_length (lt : α → α → Bool) (vs : List α) (pos : Nat) : (su lt vs pos).length = vs.length := by
  unfold su; rw [sd_length, List.length_set, down_length lt _ _ _ (Nat.le_refl _)]

theorem swap_perm {vs : List α} {i j : Nat} {x : α} (hi : i < vs.length) (hj : j < vs.length) (hne : i ≠ j) : ((vs.set i (nth vs j)).set j x).Perm (vs.set i x) := by
  have h := List.set_set_perm (as := vs.set i x) (i := i) (j := j) (by simpa using hi) (by simpa using hj)
  have e1 : (vs.set i x)[j]'(by simpa using hj) = nth vs j := by
    rw [List.getElem_set_ne hne, nth_getElem hj]
  have e2 : (vs.set i x)[i]'(by simpa using hi) = x := by rw [List.getElem_set_self]
  rw [e1, e2, List.set_set] at h
  exact h

theorem sd_perm (lt : α → α → Bool) (x : α) (start : Nat) : ∀ (pos : Nat) (vs : List α), pos < vs.length → (sd lt x start vs pos).Perm (vs.set pos x) := by
  intro pos
  induction pos using Nat.strongRecOn with
  | _ pos ih =>
    intro vs hp
    rw [sd]
    split
    · split
      · refine (ih _ (by omega) _ (by simp; omega)).trans ?_
        exact swap_perm hp (by omega) (by omega)
      · exact List.Perm.refl _
    · exact List.Perm.refl _
theorem down_perm (lt : α → α → Bool) (x : α) : ∀ (k : Nat) (vs : List α) (pos : Nat), vs.length - pos ≤ k → pos < vs.length → ((down lt vs pos).1.set (down lt vs pos).2 x).Perm (vs.set pos x) := by
  intro k
  induction k with
  | zero => intro vs pos h h2; omega
  | succ k ih =>
    intro vs pos h h2
    rw [down]
    split
    · rename_i hc
      have h3 := kid_gt lt vs pos
      have h4 := kid_lt (lt := lt) hc
      exact (ih _ _ (by simp; omega) (by simpa using h4)).trans (swap_perm h2 h4 (by omega))
    · exact List.Perm.refl _
theorem set_nth {vs : List α} {i : Nat} : vs.set i (nth vs i) = vs := by
  by_cases h : i < vs.length
  · rw [nth_getElem h]; exact List.set_getElem_self h
  · exact List.set_eq_of_length_le (by omega)
theorem su_perm (lt : α → α → Bool) (vs : List α) (pos : Nat) (h : pos < vs.length) : (su lt vs pos).Perm vs := by
  unfold su
  have h1 := down_pos_lt lt _ vs pos (Nat.le_refl _) h
  have h2 := down_length lt _ vs pos (Nat.le_refl _)
  refine (sd_perm lt _ _ _ _ (by rw [List.length_set, h2]; exact h1)).trans ?_
  rw [List.set_set]
  refine (down_perm lt _ _ vs pos (Nat.le_refl _) h).trans ?_
  rw [set_nth]

/-! the order -/
def HeapFrom (lt : α → α → Bool) (s : Nat) (vs : List α) : Prop := ∀ j, 0 < j → j < vs.length → s ≤ (j - 1) / 2 → lt (nth vs j) (nth vs ((j - 1) / 2)) = false

def Desc (s p : Nat) : Prop := if h : s < p then Desc s ((p - 1) / 2) else p = s
termination_by p
decreasing_by omega
theorem desc_iff (s p : Nat) : Desc s p ↔ p = s ∨ (s < p ∧ Desc s ((p - 1) / 2)) := by
  rw [Desc]
  split
  · rename_i h
    exact ⟨fun x => .inr ⟨h, x⟩, fun x => by
      rcases x with x | x
      · omega
      · exact x.2⟩
  · rename_i h
    exact ⟨fun x => .inl x, fun x => by
      rcases x with x | x
      · exact x
      · exact absurd x.1 h⟩
theorem Desc.refl (s : Nat) : Desc s s := by rw [desc_iff]; exact .inl rfl
theorem Desc.up {s p : Nat} (h : Desc s p) (hlt : s < p) : Desc s ((p - 1) / 2) := by
  rw [desc_iff] at h; rcases h with h | h
  · omega
  · exact h.2
theorem Desc.le {s p : Nat} (h : Desc s p) : s ≤ p := by
  rw [desc_iff] at h; rcases h with h | h <;> omega
theorem Desc.kid {s p c : Nat} (h : Desc s p) (hc : (c - 1) / 2 = p) (hlt : p < c) : Desc s c := by
  rw [desc_iff]; right
  have := h.le
  exact ⟨by omega, by rw [hc]; exact h⟩

/-- a heap with a hole at pos -/
structure Hole (lt : α → α → Bool) (s : Nat) (vs : List α) (pos : Nat) : Prop where
  pair : ∀ j, 0 < j → j < vs.length → s ≤ (j - 1) / 2 → j ≠ pos → (j - 1) / 2 ≠ pos → lt (nth vs j) (nth vs ((j - 1) / 2)) = false
  skip : s < pos → ∀ j, 0 < j → j < vs.length → (j - 1) / 2 = pos → lt (nth vs j) (nth vs ((pos - 1) / 2)) = false
  desc : Desc s pos
  lt : pos < vs.length

theorem Hole.set {lt : α → α → Bool} {s : Nat} {vs : List α} {pos : Nat} (h : Hole lt s vs pos) (x : α) : Hole lt s (vs.set pos x) pos where
  pair := fun j h0 hl hs hj hp => by
    rw [List.length_set] at hl
    rw [nth_set_ne (Ne.symm hj), nth_set_ne (Ne.symm hp)]; exact h.pair j h0 hl hs hj hp
  skip := fun hs j h0 hl hp => by
    rw [List.length_set] at hl
    have := h.lt
    rw [nth_set_ne (by omega), nth_set_ne (by omega)]; exact h.skip hs j h0 hl hp
  desc := h.desc
  lt := by rw [List.length_set]; exact h.lt

variable {P : α → Prop} {lt : α → α → Bool}

omit [Inhabited α] in
theorem all_set {vs : List α} {i : Nat} {x : α} (h : ∀ a ∈ vs, P a) (hx : P x) : ∀ a ∈ vs.set i x, P a := by
  intro a ha
  rcases List.mem_or_eq_of_mem_set ha with h1 | h1
  · exact h a h1
  · subst h1; exact hx

theorem sd_heap (O : SWO P lt) (x : α) (s : Nat) (hx : P x) : ∀ (pos : Nat) (vs : List α), (∀ a ∈ vs, P a) → Hole lt s vs pos → (∀ j, 0 < j → j < vs.length → (j - 1) / 2 = pos → lt (nth vs j) x = false) → HeapFrom lt s (sd lt x s vs pos) := by
  intro pos
  induction pos using Nat.strongRecOn with
  | _ pos ih =>
    intro vs hP hh hb
    have hpl := hh.lt
    rw [sd]
    split
    · rename_i hsp
      have hpar : s ≤ (pos - 1) / 2 := (hh.desc.up hsp).le
      have hpp : P (nth vs ((pos - 1) / 2)) := hP _ (nth_mem (by omega))
      split
      · rename_i hlt
        refine ih _ (by omega) _ (all_set hP hpp) ⟨?_, ?_, hh.desc.up hsp, by simp; omega⟩ ?_
        · intro j h0 hl hs hj hp
          rw [List.length_set] at hl
          by_cases hjp : j = pos
          · subst hjp; exact absurd rfl hp
          · rw [nth_set_ne (Ne.symm hjp)]
            by_cases hp2 : (j - 1) / 2 = pos
            · rw [hp2, nth_set_self hpl]; exact hh.skip hsp j h0 hl hp2
            · rw [nth_set_ne (Ne.symm hp2)]; exact hh.pair j h0 hl hs hjp hp2
        · intro hs2 j h0 hl hp
          rw [List.length_set] at hl
          have hgp : s ≤ ((pos - 1) / 2 - 1) / 2 := ((hh.desc.up hsp).up hs2).le
          have hq : nth (vs.set pos (nth vs ((pos - 1) / 2))) (((pos - 1) / 2 - 1) / 2) = nth vs (((pos - 1) / 2 - 1) / 2) := nth_set_ne (by omega)
          rw [hq]
          have hpair := hh.pair ((pos - 1) / 2) (by omega) (by omega) hgp (by omega) (by omega)
          by_cases hjp : j = pos
          · subst hjp; rw [nth_set_self hpl]; exact hpair
          · rw [nth_set_ne (Ne.symm hjp)]
            have h2 := hh.pair j h0 hl (by omega) hjp (by omega)
            rw [hp] at h2
            exact O.trans _ _ _ (hP _ (nth_mem (by omega))) hpp (hP _ (nth_mem hl)) hpair h2
        · intro j h0 hl hp
          rw [List.length_set] at hl
          by_cases hjp : j = pos
          · subst hjp; rw [nth_set_self hpl]; exact O.asymm _ _ hx hpp hlt
          · rw [nth_set_ne (Ne.symm hjp)]
            have h2 := hh.pair j h0 hl (by omega) hjp (by omega)
            rw [hp] at h2
            exact O.trans _ _ _ hx hpp (hP _ (nth_mem hl)) (O.asymm _ _ hx hpp hlt) h2
      · rename_i hlt
        have hlt' : lt x (nth vs ((pos - 1) / 2)) = false := by simpa using hlt
        intro j h0 hl hs
        rw [List.length_set] at hl
        by_cases hjp : j = pos
        · subst hjp; rw [nth_set_self hpl, nth_set_ne (by omega)]; exact hlt'
        · rw [nth_set_ne (Ne.symm hjp)]
          by_cases hp2 : (j - 1) / 2 = pos
          · rw [hp2, nth_set_self hpl]; exact hb j h0 hl hp2
          · rw [nth_set_ne (Ne.symm hp2)]; exact hh.pair j h0 hl hs hjp hp2
    · rename_i hsp
      intro j h0 hl hs
      rw [List.length_set] at hl
      have hds := hh.desc.le
      by_cases hjp : j = pos
      · omega
      · rw [nth_set_ne (Ne.symm hjp)]
        by_cases hp2 : (j - 1) / 2 = pos
        · rw [hp2, nth_set_self hpl]; exact hb j h0 hl hp2
        · rw [nth_set_ne (Ne.symm hp2)]; exact hh.pair j h0 hl hs hjp hp2

theorem kid_min (O : SWO P lt) {vs : List α} {pos j : Nat} (hP : ∀ a ∈ vs, P a) (hc : 2 * pos + 1 < vs.length) (h0 : 0 < j) (hl : j < vs.length) (hp : (j - 1) / 2 = pos) : lt (nth vs j) (nth vs (kid lt vs pos)) = false := by
  have refl : ∀ a, P a → lt a a = false := fun a ha => by
    cases e : lt a a with
    | false => rfl
    | true => have := O.asymm a a ha ha e; rw [e] at this; cases this
  unfold kid
  split
  · rename_i h
    rcases (show j = 2 * pos + 1 ∨ j = 2 * pos + 2 by omega) with rfl | rfl
    · exact h.2
    · exact refl _ (hP _ (nth_mem hl))
  · rename_i h
    rcases (show j = 2 * pos + 1 ∨ j = 2 * pos + 2 by omega) with rfl | rfl
    · exact refl _ (hP _ (nth_mem hl))
    · have : lt (nth vs (2 * pos + 1)) (nth vs (2 * pos + 2)) = true := by
        cases e : lt (nth vs (2 * pos + 1)) (nth vs (2 * pos + 2)) with
        | true => rfl
        | false => exact absurd ⟨hl, e⟩ h
      exact O.asymm _ _ (hP _ (nth_mem hc)) (hP _ (nth_mem hl)) this

theorem down_hole (O : SWO P lt) (s : Nat) : ∀ (k : Nat) (vs : List α) (pos : Nat), vs.length - pos ≤ k → (∀ a ∈ vs, P a) → Hole lt s vs pos →
    Hole lt s (down lt vs pos).1 (down lt vs pos).2 ∧ (∀ a ∈ (down lt vs pos).1, P a) ∧ ¬ 2 * (down lt vs pos).2 + 1 < (down lt vs pos).1.length := by
  intro k
  induction k with
  | zero => intro vs pos h hP hh; have := hh.lt; omega
  | succ k ih =>
    intro vs pos h hP hh
    rw [down]
    split
    · rename_i hc
      have h3 := kid_gt lt vs pos
      have h4 := kid_lt (lt := lt) hc
      have h5 := kid_par lt vs pos
      have hpl := hh.lt
      have hds := hh.desc.le
      refine ih _ _ (by simp; omega) (all_set hP (hP _ (nth_mem h4))) ⟨?_, ?_, hh.desc.kid h5 h3, by simpa using h4⟩
      · intro j h0 hl hs hj hp
        rw [List.length_set] at hl
        by_cases hjp : j = pos
        · subst hjp
          rw [nth_set_self hpl, nth_set_ne (by omega)]
          exact hh.skip (by omega) _ (by omega) h4 h5
        · rw [nth_set_ne (Ne.symm hjp)]
          by_cases hp2 : (j - 1) / 2 = pos
          · rw [hp2, nth_set_self hpl]; exact kid_min O hP hc h0 hl hp2
          · rw [nth_set_ne (Ne.symm hp2)]; exact hh.pair j h0 hl hs hjp hp2
      · intro hs2 j h0 hl hp
        rw [List.length_set] at hl
        rw [h5, nth_set_self hpl, nth_set_ne (by omega)]
        have := hh.pair j h0 hl (by omega) (by omega) (by omega)
        rw [hp] at this; exact this
    · rename_i hc
      exact ⟨hh, hP, hc⟩

theorem su_heap (O : SWO P lt) (vs : List α) (pos : Nat) (hP : ∀ a ∈ vs, P a) (hl : pos < vs.length) (hh : HeapFrom lt (pos + 1) vs) : HeapFrom lt pos (su lt vs pos) := by
  have h0 : Hole lt pos vs pos := ⟨fun j h0 hl hs hj hp => hh j h0 hl (by omega), fun h => by omega, Desc.refl _, hl⟩
  obtain ⟨h1, h2, h3⟩ := down_hole O pos _ vs pos (Nat.le_refl _) hP h0
  unfold su
  have hx : P (nth vs pos) := hP _ (nth_mem hl)
  refine sd_heap O _ _ hx _ _ (all_set h2 hx) (h1.set _) ?_
  intro j hj hjl hjp
  rw [List.length_set] at hjl
  omega

def hpfy (lt : α → α → Bool) : Nat → List α → List α
  | 0, vs => vs
  | k + 1, vs => hpfy lt k (su lt vs k)
theorem hpfy_perm (lt : α → α → Bool) : ∀ (k : Nat) (vs : List α), k ≤ vs.length → (hpfy lt k vs).Perm vs
  | 0, vs, _ => List.Perm.refl _
  | k + 1, vs, h => (hpfy_perm lt k _ (by rw [su_length]; omega)).trans (su_perm lt vs k (by omega))
theorem hpfy_heap (O : SWO P lt) : ∀ (k : Nat) (vs : List α), k ≤ vs.length → (∀ a ∈ vs, P a) → HeapFrom lt k vs → HeapFrom lt 0 (hpfy lt k vs)
  | 0, vs, _, _, h => h
  | k + 1, vs, hk, hP, h => hpfy_heap O k _ (by rw [su_length]; omega) (fun a ha => hP a ((su_perm lt vs k (by omega)).mem_iff.mp ha)) (su_heap O vs k hP (by omega) h)
theorem heapFrom_half (lt : α → α → Bool) (vs : List α) : HeapFrom lt (vs.length / 2) vs := by
  intro j h0 hl hs; omega

theorem heap_min (O : SWO P lt) {vs : List α} (hP : ∀ a ∈ vs, P a) (hh : HeapFrom lt 0 vs) : ∀ j, j < vs.length → lt (nth vs j) (nth vs 0) = false := by
  intro j
  induction j using Nat.strongRecOn with
  | _ j ih =>
    intro hl
    by_cases h0 : j = 0
    · subst h0
      cases e : lt (nth vs 0) (nth vs 0) with
      | false => rfl
      | true => have := O.asymm _ _ (hP _ (nth_mem hl)) (hP _ (nth_mem hl)) e; rw [e] at this; cases this
    · have h1 := ih ((j - 1) / 2) (by omega) (by omega)
      have h2 := hh j (by omega) hl (by omega)
      exact O.trans _ _ _ (hP _ (nth_mem (by omega))) (hP _ (nth_mem (by omega))) (hP _ (nth_mem hl)) h1 h2

/-- push -/
def hpush (lt : α → α → Bool) (vs : List α) (x : α) : List α := sd lt x 0 (vs ++ [x]) vs.length
theorem hpush_perm (lt : α → α → Bool) (vs : List α) (x : α) : (hpush lt vs x).Perm (vs ++ [x]) := by
  unfold hpush
  refine (sd_perm lt x 0 _ _ (by simp)).trans ?_
  have e : (vs ++ [x]).set vs.length x = vs ++ [x] := by
    have : nth (vs ++ [x]) vs.length = x := by unfold nth; simp
    conv => lhs; rw [← this]
    rw [this]
    have := set_nth (vs := vs ++ [x]) (i := vs.length)
    rwa [‹nth (vs ++ [x]) vs.length = x›] at this
  rw [e]
theorem desc_zero : ∀ p : Nat, Desc 0 p := by
  intro p
  induction p using Nat.strongRecOn with
  | _ p ih =>
    rw [desc_iff]
    by_cases h : p = 0
    · exact .inl h
    · exact .inr ⟨by omega, ih _ (by omega)⟩
theorem nth_append_left {vs ws : List α} {i : Nat} (h : i < vs.length) : nth (vs ++ ws) i = nth vs i := by
  unfold nth; rw [List.getElem?_append_left h]
theorem hpush_heap (O : SWO P lt) {vs : List α} {x : α} (hP : ∀ a ∈ vs, P a) (hx : P x) (hh : HeapFrom lt 0 vs) : HeapFrom lt 0 (hpush lt vs x) := by
  unfold hpush
  refine sd_heap O x 0 hx _ _ ?_ ⟨?_, ?_, desc_zero _, by simp⟩ ?_
  · intro a ha
    rcases List.mem_append.mp ha with h | h
    · exact hP a h
    · rw [List.mem_singleton.mp h]; exact hx
  · intro j h0 hl hs hj hp
    have hl' : j < vs.length := by simp at hl; omega
    rw [nth_append_left hl', nth_append_left (by omega)]
    exact hh j h0 hl' hs
  · intro h j h0 hl hp
    simp at hl; omega
  · intro j h0 hl hp
    simp at hl; omega

/-- pop -/
def hpop (lt : α → α → Bool) (vs : List α) : α × List α :=
  if vs.length ≤ 1 then (nth vs 0, []) else (nth vs 0, su lt ((vs.eraseIdx (vs.length - 1)).set 0 (nth vs (vs.length - 1))) 0)
theorem eraseLast_append {vs : List α} (h : 0 < vs.length) : vs.eraseIdx (vs.length - 1) ++ [nth vs (vs.length - 1)] = vs := by
  rw [List.eraseIdx_eq_take_drop_succ, List.drop_eq_nil_of_le (by omega), List.append_nil, nth_getElem (by omega)]
  have := List.take_append_getElem (l := vs) (i := vs.length - 1) (by omega)
  rw [this, List.take_of_length_le (by omega)]
theorem hpop_perm (lt : α → α → Bool) {vs : List α} (h : 0 < vs.length) : ((hpop lt vs).1 :: (hpop lt vs).2).Perm vs := by
  unfold hpop
  split
  · rename_i h1
    match vs, h with
    | [a], _ => exact List.Perm.refl _
    | _ :: _ :: _, _ => simp at h1
  · rename_i h1
    have hlen : (vs.eraseIdx (vs.length - 1)).length = vs.length - 1 := by rw [List.length_eraseIdx]; simp; omega
    dsimp only
    refine (List.Perm.cons _ (su_perm lt _ 0 (by rw [List.length_set]; omega))).trans ?_
    have h2 := eraseLast_append h
    generalize hL : nth vs (vs.length - 1) = lst at h2 ⊢
    generalize hE : vs.eraseIdx (vs.length - 1) = es at h2 hlen ⊢
    have h3 : nth vs 0 = nth es 0 := by rw [← h2, nth_append_left (by omega)]
    rw [h3, ← h2]
    match es, hlen with
    | [], hlen => simp at hlen; omega
    | e :: es, _ =>
      show (e :: lst :: es).Perm (e :: es ++ [lst])
      exact List.Perm.cons _ (List.perm_append_singleton lst es).symm
theorem hpop_heap (O : SWO P lt) {vs : List α} (hP : ∀ a ∈ vs, P a) (h : 0 < vs.length) (hh : HeapFrom lt 0 vs) : HeapFrom lt 0 (hpop lt vs).2 := by
  unfold hpop
  split
  · intro j h0 hl; simp at hl
  · rename_i h1
    have hlen : (vs.eraseIdx (vs.length - 1)).length = vs.length - 1 := by rw [List.length_eraseIdx]; simp; omega
    dsimp only
    have h2 := eraseLast_append h
    have hn : ∀ j, j < vs.length - 1 → nth (vs.eraseIdx (vs.length - 1)) j = nth vs j := by
      intro j hj
      conv => rhs; rw [← h2]
      rw [nth_append_left (by omega)]
    refine su_heap O _ 0 (all_set (fun a ha => hP a ?_) (hP _ (nth_mem (by omega)))) (by rw [List.length_set]; omega) ?_
    · exact List.mem_of_mem_eraseIdx ha
    · intro j h0 hl hs
      rw [List.length_set, hlen] at hl
      rw [nth_set_ne (by omega), nth_set_ne (by omega), hn j hl, hn _ (by omega)]
      exact hh j h0 (by omega) (by omega)
theorem hpop_min (O : SWO P lt) {vs : List α} (hP : ∀ a ∈ vs, P a) (hh : HeapFrom lt 0 vs) : ∀ a ∈ vs, lt a (hpop lt vs).1 = false := by
  intro a ha
  obtain ⟨j, hj, rfl⟩ := List.mem_iff_getElem.mp ha
  have : (hpop lt vs).1 = nth vs 0 := by unfold hpop; split <;> rfl
  rw [this, ← nth_getElem hj]
  exact heap_min O hP hh j hj
end

end Mine


/-! part Q1 -/
set_option autoImplicit false
set_option maxRecDepth 100000
set_option linter.unusedVariables false
open PySem PySem.W PyProof.Rows
namespace Mine


/-! _siftdown -/
def siftdown_w1_c : M Bool := (do let a ← (getv "pos"); let b ← (getv "startpos"); let c ← gtV a b; truV c)
def siftdown_w1_b : M Fl := (seqM (do let v ← (do let a ← (do let a ← (getv "pos"); let b ← (pure (V.int 1) : M V); subV a b); let b ← (pure (V.int 1) : M V); shrV a b); (fun v => setv "parentpos" v) v; pure .next : M Fl) (seqM (do let v ← (do let o ← (getv "heap"); let i ← (getv "parentpos"); getI o i); (fun v => setv "parent" v) v; pure .next : M Fl) (seqM (do if (← (do let a ← (getv "newitem"); let b ← (getv "parent"); let c ← ltV a b; truV c)) = true then (seqM (do let v ← (getv "parent"); (fun v => do let a ← (getv "heap"); let b ← (getv "pos"); setI a b v) v; pure .next : M Fl) (seqM (do let v ← (getv "parentpos"); (fun v => setv "pos" v) v; pure .next : M Fl) (pure .cont : M Fl))) else (pure .next : M Fl) : M Fl) (pure .brk : M Fl))))
def siftdown_m : M Fl := (seqM (do let v ← (do let o ← (getv "heap"); let i ← (getv "pos"); getI o i); (fun v => setv "newitem" v) v; pure .next : M Fl) (seqM (whileM siftdown_w1_c siftdown_w1_b 4096) (do let v ← (getv "newitem"); (fun v => do let a ← (getv "heap"); let b ← (getv "pos"); setI a b v) v; pure .next : M Fl)))
def f_siftdown : Fun := funM ["heap", "startpos", "pos"] siftdown_m

/-! heappush -/
def heappush_m : M Fl := (seqM (do let _ ← (do let ov ← (getv "heap"); chkL ov; let vs ← (do let v ← (getv "item"); let vs ← (pure [] : M (List V)); pure (v :: vs)); appendG ov vs); pure .next : M Fl) (do let _ ← (do let vs ← (do let v ← (getv "heap"); let vs ← (do let v ← (pure (V.int 0) : M V); let vs ← (do let v ← (do let a ← (do let vs ← (do let v ← (getv "heap"); let vs ← (pure [] : M (List V)); pure (v :: vs)); lenB vs); let b ← (pure (V.int 1) : M V); subV a b); let vs ← (pure [] : M (List V)); pure (v :: vs)); pure (v :: vs)); pure (v :: vs)); callF f_siftdown vs); pure .next : M Fl))
def f_heappush : Fun := funM ["heap", "item"] heappush_m

/-! _siftup -/
def siftup_w1_c : M Bool := (do let a ← (getv "childpos"); let b ← (getv "endpos"); let c ← ltV a b; truV c)
def siftup_w1_b : M Fl := (seqM (do let v ← (do let a ← (getv "childpos"); let b ← (pure (V.int 1) : M V); addV a b); (fun v => setv "rightpos" v) v; pure .next : M Fl) (seqM (do if (← (do if (← (do let a ← (getv "rightpos"); let b ← (getv "endpos"); let c ← ltV a b; truV c)) = true then (do if (← (do let b ← (do let a ← (do let o ← (getv "heap"); let i ← (getv "childpos"); getI o i); let b ← (do let o ← (getv "heap"); let i ← (getv "rightpos"); getI o i); let c ← ltV a b; truV c); pure (!b))) = true then (pure true : M Bool) else pure false) else pure false)) = true then (do let v ← (getv "rightpos"); (fun v => setv "childpos" v) v; pure .next : M Fl) else (pure .next : M Fl) : M Fl) (seqM (do let v ← (do let o ← (getv "heap"); let i ← (getv "childpos"); getI o i); (fun v => do let a ← (getv "heap"); let b ← (getv "pos"); setI a b v) v; pure .next : M Fl) (seqM (do let v ← (getv "childpos"); (fun v => setv "pos" v) v; pure .next : M Fl) (do let v ← (do let a ← (do let a ← (pure (V.int 2) : M V); let b ← (getv "pos"); mulV a b); let b ← (pure (V.int 1) : M V); addV a b); (fun v => setv "childpos" v) v; pure .next : M Fl)))))
def siftup_m : M Fl := (seqM (do let v ← (do let vs ← (do let v ← (getv "heap"); let vs ← (pure [] : M (List V)); pure (v :: vs)); lenB vs); (fun v => setv "endpos" v) v; pure .next : M Fl) (seqM (do let v ← (getv "pos"); (fun v => setv "startpos" v) v; pure .next : M Fl) (seqM (do let v ← (do let o ← (getv "heap"); let i ← (getv "pos"); getI o i); (fun v => setv "newitem" v) v; pure .next : M Fl) (seqM (do let v ← (do let a ← (do let a ← (pure (V.int 2) : M V); let b ← (getv "pos"); mulV a b); let b ← (pure (V.int 1) : M V); addV a b); (fun v => setv "childpos" v) v; pure .next : M Fl) (seqM (whileM siftup_w1_c siftup_w1_b 4096) (seqM (do let v ← (getv "newitem"); (fun v => do let a ← (getv "heap"); let b ← (getv "pos"); setI a b v) v; pure .next : M Fl) (do let _ ← (do let vs ← (do let v ← (getv "heap"); let vs ← (do let v ← (getv "startpos"); let vs ← (do let v ← (getv "pos"); let vs ← (pure [] : M (List V)); pure (v :: vs)); pure (v :: vs)); pure (v :: vs)); callF f_siftdown vs); pure .next : M Fl)))))))
def f_siftup : Fun := funM ["heap", "pos"] siftup_m

/-! heappop -/
def heappop_m : M Fl := (seqM (do let v ← (do let ov ← (getv "heap"); chkL ov; let vs ← (pure [] : M (List V)); popG ov vs); (fun v => setv "lastelt" v) v; pure .next : M Fl) (seqM (do if (← (do let v ← (getv "heap"); truV v)) = true then (seqM (do let v ← (do let o ← (getv "heap"); let i ← (pure (V.int 0) : M V); getI o i); (fun v => setv "returnitem" v) v; pure .next : M Fl) (seqM (do let v ← (getv "lastelt"); (fun v => do let a ← (getv "heap"); let b ← (pure (V.int 0) : M V); setI a b v) v; pure .next : M Fl) (seqM (do let _ ← (do let vs ← (do let v ← (getv "heap"); let vs ← (do let v ← (pure (V.int 0) : M V); let vs ← (pure [] : M (List V)); pure (v :: vs)); pure (v :: vs)); callF f_siftup vs); pure .next : M Fl) (do let v ← (getv "returnitem"); pure (.ret v) : M Fl)))) else (pure .next : M Fl) : M Fl) (do let v ← (getv "lastelt"); pure (.ret v) : M Fl)))
def f_heappop : Fun := funM ["heap"] heappop_m

/-! heapreplace -/
def heapreplace_m : M Fl := (seqM (do let v ← (do let o ← (getv "heap"); let i ← (pure (V.int 0) : M V); getI o i); (fun v => setv "returnitem" v) v; pure .next : M Fl) (seqM (do let v ← (getv "item"); (fun v => do let a ← (getv "heap"); let b ← (pure (V.int 0) : M V); setI a b v) v; pure .next : M Fl) (seqM (do let _ ← (do let vs ← (do let v ← (getv "heap"); let vs ← (do let v ← (pure (V.int 0) : M V); let vs ← (pure [] : M (List V)); pure (v :: vs)); pure (v :: vs)); callF f_siftup vs); pure .next : M Fl) (do let v ← (getv "returnitem"); pure (.ret v) : M Fl))))
def f_heapreplace : Fun := funM ["heap", "item"] heapreplace_m

/-! heappushpop -/
def heappushpop_m : M Fl := (seqM (do if (← (do if (← (do let v ← (getv "heap"); truV v)) = true then (do if (← (do let a ← (do let o ← (getv "heap"); let i ← (pure (V.int 0) : M V); getI o i); let b ← (getv "item"); let c ← ltV a b; truV c)) = true then (pure true : M Bool) else pure false) else pure false)) = true then (seqM (do let v ← (do let vs ← (do let v ← (do let o ← (getv "heap"); let i ← (pure (V.int 0) : M V); getI o i); let vs ← (do let v ← (getv "item"); let vs ← (pure [] : M (List V)); pure (v :: vs)); pure (v :: vs)); mkT vs); (unpackT 2 (consT (fun v => setv "item" v) (consT (fun v => do let a ← (getv "heap"); let b ← (pure (V.int 0) : M V); setI a b v) (fun _ => pure ())))) v; pure .next : M Fl) (do let _ ← (do let vs ← (do let v ← (getv "heap"); let vs ← (do let v ← (pure (V.int 0) : M V); let vs ← (pure [] : M (List V)); pure (v :: vs)); pure (v :: vs)); callF f_siftup vs); pure .next : M Fl)) else (pure .next : M Fl) : M Fl) (do let v ← (getv "item"); pure (.ret v) : M Fl))
def f_heappushpop : Fun := funM ["heap", "item"] heappushpop_m

/-! heapify -/
def heapify_l1_t : V → M Unit := (fun v => setv "i" v)
def heapify_l1_b : M Fl := (do let _ ← (do let vs ← (do let v ← (getv "x"); let vs ← (do let v ← (getv "i"); let vs ← (pure [] : M (List V)); pure (v :: vs)); pure (v :: vs)); callF f_siftup vs); pure .next : M Fl)
def heapify_m : M Fl := (seqM (do let v ← (do let vs ← (do let v ← (getv "x"); let vs ← (pure [] : M (List V)); pure (v :: vs)); lenB vs); (fun v => setv "n" v) v; pure .next : M Fl) (do let v ← (do let vs ← (do let v ← (do let a ← (getv "n"); let b ← (pure (V.int 2) : M V); fdivV a b); let vs ← (pure [] : M (List V)); pure (v :: vs)); rangeB vs); let r ← revR v; forG (nxtOf r) heapify_l1_t heapify_l1_b 4096 0))
def f_heapify : Fun := funM ["x"] heapify_m

end Mine


/-! part H2 -/
set_option autoImplicit false
set_option maxRecDepth 100000
set_option linter.unusedVariables false
open PySem PySem.W PyProof.Rows
namespace Mine

/-! ### what M-programs do -/
def MW {α : Type} (m : M α) (σ : S) (Q : α → S → Prop) : Prop := ∃ a σ', m σ = .ok a σ' ∧ Q a σ'
section
variable {α β : Type} {σ : S}
theorem MW.mono {m : M α} {Q Q' : α → S → Prop} (h : MW m σ Q) (k : ∀ a σ', Q a σ' → Q' a σ') : MW m σ Q' := by
  obtain ⟨a, σ', e, q⟩ := h; exact ⟨a, σ', e, k _ _ q⟩
theorem MW_fun_ok {m : S → Res S α} {Q : α → S → Prop} {a : α} {σ' : S} (e : m σ = .ok a σ') : MW m σ Q ↔ Q a σ' := by
  constructor
  · rintro ⟨a', σ'', e', q⟩; rw [e] at e'; cases e'; exact q
  · exact fun q => ⟨a, σ', e, q⟩
theorem MW_pure {a : α} {Q : α → S → Prop} : MW (pure a : M α) σ Q ↔ Q a σ := MW_fun_ok rfl
theorem MW_bind {m : M α} {f : α → M β} {Q : β → S → Prop} : MW (m >>= f) σ Q ↔ MW m σ (fun a σ' => MW (f a) σ' Q) := by
  constructor
  · rintro ⟨b, σ', e, q⟩
    rw [M.bind_def] at e
    cases em : m σ with
    | ok a σ₁ => rw [em] at e; exact ⟨a, σ₁, em, b, σ', e, q⟩
    | exc x y => rw [em] at e; cases e
    | stuck => rw [em] at e; cases e
  · rintro ⟨a, σ₁, em, b, σ', e, q⟩
    exact ⟨b, σ', by rw [M.bind_def, em]; exact e, q⟩
theorem MW_seq {a b : M Fl} {Q : Fl → S → Prop} : MW (seqM a b) σ Q ↔ MW a σ (fun f σ' => match f with | .next => MW b σ' Q | .brk => Q .brk σ' | .cont => Q .cont σ' | .ret v => Q (.ret v) σ') := by
  unfold seqM
  rw [MW_bind]
  constructor
  · rintro ⟨f, σ', e, q⟩
    refine ⟨f, σ', e, ?_⟩
    cases f <;> first | exact q | exact MW_pure.mp q
  · rintro ⟨f, σ', e, q⟩
    refine ⟨f, σ', e, ?_⟩
    cases f <;> first | exact q | exact MW_pure.mpr q
theorem MW_getv {x : String} {Q : V → S → Prop} : MW (getv x) σ Q ↔ ∃ v, σ.lo x = some v ∧ Q v σ := by
  constructor
  · rintro ⟨a, σ', e, q⟩
    unfold getv at e
    cases h : σ.lo x with
    | none => rw [h] at e; cases e
    | some v => rw [h] at e; cases e; exact ⟨_, rfl, q⟩
  · rintro ⟨v, e, q⟩
    exact ⟨v, σ, by unfold getv; rw [e], q⟩
theorem MW_setv {x : String} {v : V} {Q : Unit → S → Prop} : MW (setv x v) σ Q ↔ Q () (σ.put x v) := MW_fun_ok rfl
theorem put_st {x : String} {v : V} : (σ.put x v).st = σ.st := rfl
theorem put_lo {x y : String} {v : V} : (σ.put x v).lo y = if y = x then some v else σ.lo y := rfl

theorem MW_gt {a b : Int} {Q : V → S → Prop} : MW (gtV (.int a) (.int b)) σ Q ↔ Q (.bool (decide (b < a))) σ := MW_fun_ok rfl
theorem MW_ge {a b : Int} {Q : V → S → Prop} : MW (geV (.int a) (.int b)) σ Q ↔ Q (.bool (decide (b ≤ a))) σ := MW_fun_ok rfl
theorem MW_le {a b : Int} {Q : V → S → Prop} : MW (leV (.int a) (.int b)) σ Q ↔ Q (.bool (decide (a ≤ b))) σ := MW_fun_ok rfl
theorem MW_add {a b : Int} {Q : V → S → Prop} : MW (addV (.int a) (.int b)) σ Q ↔ Q (.int (a + b)) σ := MW_fun_ok rfl
theorem MW_sub {a b : Int} {Q : V → S → Prop} : MW (subV (.int a) (.int b)) σ Q ↔ Q (.int (a - b)) σ := MW_fun_ok rfl
theorem MW_neg {a : Int} {Q : V → S → Prop} : MW (negV (.int a)) σ Q ↔ Q (.int (-a)) σ := MW_fun_ok rfl
theorem MW_tru {b : Bool} {Q : Bool → S → Prop} : MW (truV (.bool b)) σ Q ↔ Q b σ := MW_fun_ok rfl
theorem MW_lt_int {a b : Int} {Q : V → S → Prop} : MW (ltV (.int a) (.int b)) σ Q ↔ Q (.bool (decide (a < b))) σ := by
  refine MW_fun_ok ?_
  unfold ltV
  simp only [toD, ltD]
theorem MW_ite {c : Prop} [Decidable c] {a b : M α} {Q : α → S → Prop} : MW (if c then a else b) σ Q ↔ if c then MW a σ Q else MW b σ Q := by split <;> rfl
theorem MW_cond {m : M α} {P : Prop} {Q : α → S → Prop} {f : S → Res S α} (hs : ∀ a σ', f σ = .ok a σ' → P) (h : P → (f σ = m σ)) : MW f σ Q ↔ P ∧ MW m σ Q := by
  constructor
  · rintro ⟨a, σ', e, q⟩
    have p := hs a σ' e
    exact ⟨p, a, σ', by rw [← h p]; exact e, q⟩
  · rintro ⟨p, a, σ', e, q⟩
    exact ⟨a, σ', by rw [h p]; exact e, q⟩
theorem MW_shr {a : Int} {Q : V → S → Prop} : MW (shrV (.int a) (.int 1)) σ Q ↔ 0 ≤ a ∧ Q (.int (a / 2)) σ := by
  by_cases h : 0 ≤ a
  · rw [MW_fun_ok (a := .int (a / 2)) (σ' := σ) (by simp [shrV, h])]; simp [h]
  · constructor
    · rintro ⟨_, _, e, _⟩; simp [shrV, h] at e
    · exact fun q => absurd q.1 h
theorem MW_mul {a b : Int} {Q : V → S → Prop} : MW (mulV (.int a) (.int b)) σ Q ↔ (-1000000000 < a ∧ a < 1000000000) ∧ Q (.int (a * b)) σ := by
  by_cases h : -1000000000 < a ∧ a < 1000000000
  · rw [MW_fun_ok (a := .int (a * b)) (σ' := σ) (by simp only [mulV, if_pos h])]; simp [h]
  · constructor
    · rintro ⟨_, _, e, _⟩; simp only [mulV, if_neg h] at e; cases e
    · exact fun q => absurd q.1 h
theorem MW_fdiv {a b : Int} {Q : V → S → Prop} : MW (fdivV (.int a) (.int b)) σ Q ↔ (0 < b ∧ b < 1000000000) ∧ Q (.int (a / b)) σ := by
  by_cases h : 0 < b ∧ b < 1000000000
  · rw [MW_fun_ok (a := .int (a / b)) (σ' := σ) (by simp only [fdivV, if_pos h])]; simp [h]
  · constructor
    · rintro ⟨_, _, e, _⟩; simp only [fdivV, if_neg h] at e; cases e
    · exact fun q => absurd q.1 h
theorem MW_fmod {a b : Int} {Q : V → S → Prop} : MW (fmodV (.int a) (.int b)) σ Q ↔ (0 < b ∧ b < 1000000000) ∧ Q (.int (a % b)) σ := by
  by_cases h : 0 < b ∧ b < 1000000000
  · rw [MW_fun_ok (a := .int (a % b)) (σ' := σ) (by simp only [fmodV, if_pos h])]; simp [h]
  · constructor
    · rintro ⟨_, _, e, _⟩; simp only [fmodV, if_neg h] at e; cases e
    · exact fun q => absurd q.1 h
theorem ix_nat {n j : Nat} : ix n (j : Int) = if j < n then some j else none := by
  unfold ix; rw [if_pos (by omega)]; simp
theorem ix_neg1 {n : Nat} (h : 0 < n) : ix n (-1) = some (n - 1) := by
  unfold ix; rw [if_neg (by omega), if_pos (by omega)]
  congr 1; omega
theorem MW_getI {l : Nat} {k : Int} {vs : List V} {j : Nat} {v : V} {Q : V → S → Prop} (h : σ.st[l]? = some (.lst vs)) (hk : ix vs.length k = some j) (hv : vs[j]? = some v) : MW (getI (.obj l) (.int k)) σ Q ↔ Q v σ := by
  refine MW_fun_ok ?_
  simp only [getI, h, hk, hv]
theorem MW_getT {vs : List V} {k : Int} {j : Nat} {v : V} {Q : V → S → Prop} (hk : ix vs.length k = some j) (hv : vs[j]? = some v) : MW (getI (.tup vs) (.int k)) σ Q ↔ Q v σ := by
  refine MW_fun_ok ?_
  simp only [getI, hk, hv]
theorem MW_setI {l : Nat} {k : Int} {vs : List V} {v : V} {j : Nat} {Q : Unit → S → Prop} (h : σ.st[l]? = some (.lst vs)) (hl : l ≠ 0) (hk : k = j) (hj : j < vs.length) :
    MW (setI (.obj l) (.int k) v) σ Q ↔ Q () { σ with st := σ.st.set l (.lst (vs.set j v)) } := by
  refine MW_fun_ok ?_
  subst hk
  simp [setI, h, hl, hj]
theorem MW_len {l : Nat} {vs : List V} {Q : V → S → Prop} (h : σ.st[l]? = some (.lst vs)) : MW (lenB [.obj l]) σ Q ↔ Q (.int vs.length) σ := by
  refine MW_fun_ok ?_
  simp only [lenB, h]
theorem MW_truL {l : Nat} {vs : List V} {Q : Bool → S → Prop} (h : σ.st[l]? = some (.lst vs)) : MW (truV (.obj l)) σ Q ↔ Q (!vs.isEmpty) σ := by
  refine MW_fun_ok ?_
  simp only [truV, h]
theorem MW_chkL {l : Nat} {vs : List V} {Q : Unit → S → Prop} (h : σ.st[l]? = some (.lst vs)) : MW (chkL (.obj l)) σ Q ↔ Q () σ := MW_fun_ok (chkL_ok h)
theorem MW_append {l : Nat} {vs : List V} {v : V} {Q : V → S → Prop} (h : σ.st[l]? = some (.lst vs)) (hl : l ≠ 0) (hn : vs.length < 1000000) : MW (appendG (.obj l) [v]) σ Q ↔ Q .none { σ with st := σ.st.set l (.lst (vs ++ [v])) } := by
  refine MW_fun_ok ?_
  simp [appendG, h, hl, hn]
theorem MW_pop {l : Nat} {vs : List V} {v : V} {Q : V → S → Prop} (h : σ.st[l]? = some (.lst vs)) (hl : l ≠ 0) (hv : vs[vs.length - 1]? = some v) : MW (popG (.obj l) []) σ Q ↔ Q v { σ with st := σ.st.set l (.lst (vs.eraseIdx (vs.length - 1))) } := by
  refine MW_fun_ok ?_
  simp only [popG, if_neg hl, h, hv]
theorem MW_popAt {l : Nat} {vs : List V} {k : Int} {j : Nat} {v : V} {Q : V → S → Prop} (h : σ.st[l]? = some (.lst vs)) (hl : l ≠ 0) (hk : ix vs.length k = some j) (hv : vs[j]? = some v) : MW (popG (.obj l) [.int k]) σ Q ↔ Q v { σ with st := σ.st.set l (.lst (vs.eraseIdx j)) } := by
  refine MW_fun_ok ?_
  simp only [popG, if_neg hl, h, hk, hv]
theorem MW_newL {vs : List V} {Q : V → S → Prop} (hn : vs.length ≤ 1000000) : MW (newL vs) σ Q ↔ Q (.obj σ.st.length) { σ with st := σ.st ++ [.lst vs] } := by
  refine MW_fun_ok ?_
  simp only [newL, if_pos hn]
theorem MW_mkT {vs : List V} {Q : V → S → Prop} (hn : vs.length ≤ 1000000) : MW (mkT vs) σ Q ↔ Q (.tup vs) σ := by
  refine MW_fun_ok ?_
  simp only [mkT, if_pos hn]
theorem MW_callF {g : Fun} {vs : List V} {v : V} {st' : Store} {Q : V → S → Prop} (h : g vs σ.st = .ok v st') : MW (callF g vs) σ Q ↔ Q v { σ with st := st' } := by
  refine MW_fun_ok ?_
  simp only [callF, h]

theorem MW_while {c : M Bool} {b : M Fl} {Q : Fl → S → Prop} (I : Nat → S → Prop)
    (h : ∀ k σ, I k σ → MW c σ (fun t σ₁ => if t = true then MW b σ₁ (fun f σ₂ => match f with | .next => ∃ j, j < k ∧ I j σ₂ | .cont => ∃ j, j < k ∧ I j σ₂ | .brk => Q .next σ₂ | .ret v => Q (.ret v) σ₂) else Q .next σ₁)) :
    ∀ (n k : Nat) (σ : S), k < n → I k σ → MW (whileM c b n) σ Q := by
  intro n
  induction n with
  | zero => intro k σ hk; omega
  | succ n ih =>
    intro k σ hk hI
    unfold whileM
    rw [MW_bind]
    refine (h k σ hI).mono fun t σ₁ ht => ?_
    cases t with
    | false => simp only [Bool.false_eq_true, if_false] at ht ⊢; exact MW_pure.mpr ht
    | true =>
      simp only [if_true] at ht ⊢
      rw [MW_bind]
      refine ht.mono fun f σ₂ hf => ?_
      cases f with
      | next => obtain ⟨j, hj, hI'⟩ := hf; exact ih j σ₂ (by omega) hI'
      | cont => obtain ⟨j, hj, hI'⟩ := hf; exact ih j σ₂ (by omega) hI'
      | brk => exact MW_pure.mpr hf
      | ret v => exact MW_pure.mpr hf

theorem MW_for {nxt : S → Nat → Option (Option V)} {t : V → M Unit} {b : M Fl} {Q : Fl → S → Prop} (N : Nat) (I : Nat → S → Prop)
    (hend : ∀ σ, I N σ → nxt σ N = some none ∧ Q .next σ)
    (h : ∀ i σ, i < N → I i σ → ∃ v, nxt σ i = some (some v) ∧ MW (t v) σ (fun _ σ₁ => MW b σ₁ (fun f σ₂ => match f with | .next => I (i + 1) σ₂ | .cont => I (i + 1) σ₂ | .brk => Q .next σ₂ | .ret v => Q (.ret v) σ₂))) :
    ∀ (n i : Nat) (σ : S), i ≤ N → N - i < n → I i σ → MW (forG nxt t b n i) σ Q := by
  intro n
  induction n with
  | zero => intro i σ _ hk; omega
  | succ n ih =>
    intro i σ hi hk hI
    by_cases hN : i = N
    · subst hN
      obtain ⟨e, q⟩ := hend σ hI
      refine ⟨.next, σ, ?_, q⟩
      rw [forG]; dsimp only; rw [e]
    · obtain ⟨v, e, hw⟩ := h i σ (by omega) hI
      have key : MW (do
        t v
        match ← b with
        | .next => forG nxt t b n (i + 1)
        | .cont => forG nxt t b n (i + 1)
        | .brk => pure .next
        | .ret v => pure (.ret v)) σ Q := by
        rw [MW_bind]
        refine hw.mono fun _ σ₁ h1 => ?_
        rw [MW_bind]
        refine h1.mono fun f σ₂ hf => ?_
        cases f with
        | next => exact ih (i + 1) σ₂ (by omega) (by omega) hf
        | cont => exact ih (i + 1) σ₂ (by omega) (by omega) hf
        | brk => exact MW_pure.mpr hf
        | ret v => exact MW_pure.mpr hf
      obtain ⟨a, σ', e2, q⟩ := key
      refine ⟨a, σ', ?_, q⟩
      rw [forG]; dsimp only; rw [e]; exact e2
end

theorem funM_of {params : List String} {body : M Fl} {vs : List V} {st st' : Store} {v : V} (hl : vs.length = params.length)
    (h : MW body ⟨st, bindP params vs⟩ (fun f σ' => (match f with | .ret u => u | _ => .none) = v ∧ σ'.st = st')) : funM params body vs st = .ok v st' := by
  obtain ⟨f, σ', e, h1, h2⟩ := h
  unfold funM
  rw [if_pos hl, e]
  subst h1 h2
  cases f <;> rfl

/-! ### the heap functions -/
/-- a < b, whatever stands at place l -/
def LtAtL (st : Store) (l : Nat) (P : V → Prop) (lt : V → V → Bool) : Prop :=
  ∀ ws : List V, ∀ a b, P a → P b → ∀ lo, ltV a b ⟨st.set l (.lst ws), lo⟩ = .ok (.bool (lt a b)) ⟨st.set l (.lst ws), lo⟩

end Mine


/-! part H3 -/
set_option autoImplicit false
set_option maxRecDepth 100000
set_option linter.unusedVariables false
set_option linter.unusedSimpArgs false
open PySem PySem.W PyProof.Rows
namespace Mine

variable {P : V → Prop} {lt : V → V → Bool}

theorem set_get {st : Store} {l : Nat} {ws : List V} {c : Cel} (h : st[l]? = some c) : (st.set l (.lst ws))[l]? = some (.lst ws) := by
  rw [List.getElem?_set_self]; exact (List.getElem?_eq_some_iff.mp h).1
theorem set_id {st : Store} {l : Nat} {ws : List V} (h : st[l]? = some (.lst ws)) : st.set l (.lst ws) = st := by
  obtain ⟨h1, h2⟩ := List.getElem?_eq_some_iff.mp h
  rw [← h2]; exact List.set_getElem_self h1
theorem MW_ltP {st : Store} {l : Nat} {σ : S} {ws : List V} {a b : V} {Q : V → S → Prop} (h : LtAtL st l P lt) (hs : σ.st = st.set l (.lst ws)) (ha : P a) (hb : P b) : MW (ltV a b) σ Q ↔ Q (.bool (lt a b)) σ := by
  refine MW_fun_ok ?_
  obtain ⟨s1, lo⟩ := σ
  dsimp only at hs
  subst hs
  exact h ws a b ha hb lo

theorem siftdown_spec {st : Store} {l : Nat} {vs : List V} {s p : Nat} (hl : st[l]? = some (.lst vs)) (hl0 : l ≠ 0) (hp : p < vs.length) (hn : vs.length ≤ 4000) (hP : ∀ a ∈ vs, P a) (hlt : LtAtL st l P lt) :
    f_siftdown [.obj l, .int s, .int p] st = .ok .none (st.set l (.lst (sd lt (nth vs p) s vs p))) := by
  refine funM_of rfl ?_
  unfold siftdown_m
  simp only [MW_seq, MW_bind, MW_getv, MW_pure, MW_setv, bindP, put_lo, put_st, String.reduceEq, if_true, if_false, Option.some.injEq, exists_eq_left']
  rw [MW_getI hl (j := p) (by rw [ix_nat, if_pos hp]) (nth_eq hp)]
  refine MW_while (fun k σ => ∃ ws q, σ.lo "heap" = some (.obj l) ∧ σ.lo "startpos" = some (.int s) ∧ σ.lo "newitem" = some (nth vs p) ∧ σ.lo "pos" = some (.int (q : Nat)) ∧ σ.st = st.set l (.lst ws) ∧ q < ws.length ∧
    (∀ a ∈ ws, P a) ∧ ws.length = vs.length ∧ sd lt (nth vs p) s ws q = sd lt (nth vs p) s vs p ∧ k = q) ?_ 4096 p _ (by omega) ⟨vs, p, rfl, rfl, rfl, rfl, (set_id hl).symm, hp, hP, rfl, rfl, rfl⟩
  rintro k σ ⟨ws, q, h1, h2, h3, h4, h5, h6, h7, h8, h9, rfl⟩
  unfold siftdown_w1_c siftdown_w1_b
  simp only [MW_seq, MW_bind, MW_getv, MW_pure, MW_setv, MW_gt, MW_tru, MW_sub, put_lo, put_st, h1, h2, h3, h4, String.reduceEq, if_true, if_false, Option.some.injEq, exists_eq_left', decide_eq_true_eq]
  have hget : ∀ σ' : S, σ'.st = σ.st → σ'.st[l]? = some (.lst ws) := fun σ' e => by rw [e, h5]; exact set_get hl
  split
  · rename_i hlt'
    have hsk : s < k := by omega
    have hq : (k - 1) / 2 < ws.length := by omega
    have ek : ((k : Int) - 1) / 2 = (((k - 1) / 2 : Nat) : Int) := by omega
    rw [MW_shr, ek]
    refine ⟨by omega, ?_⟩
    simp only [h1, Option.some.injEq, exists_eq_left']
    refine (MW_getI (by exact hget _ rfl) (j := (k - 1) / 2) (by rw [ix_nat, if_pos hq]) (nth_eq hq)).mpr ?_
    simp only [put_lo, String.reduceEq, if_true, if_false, h3, Option.some.injEq, exists_eq_left']
    have hPx : P (nth vs p) := hP _ (nth_mem hp)
    have hPy : P (nth ws ((k - 1) / 2)) := h7 _ (nth_mem hq)
    refine (MW_ltP hlt (by exact h5) hPx hPy).mpr ?_
    rw [MW_tru]
    have e9 := h9
    rw [sd, dif_pos hsk] at e9
    by_cases hc : lt (nth vs p) (nth ws ((k - 1) / 2)) = true
    · rw [if_pos hc] at e9
      simp only [hc, if_true, MW_seq, MW_bind, MW_getv, MW_pure, MW_setv, put_lo, put_st, h1, h2, h3, h4, String.reduceEq, if_false, Option.some.injEq, exists_eq_left']
      refine (MW_setI (by exact hget _ rfl) hl0 rfl h6).mpr ?_
      simp only [put_lo, put_st, h1, h2, h3, h4, String.reduceEq, if_true, if_false, Option.some.injEq, exists_eq_left']
      refine ⟨(k - 1) / 2, by omega, ws.set k (nth ws ((k - 1) / 2)), (k - 1) / 2, trivial, trivial, trivial, rfl, ?_, by rw [List.length_set]; exact hq, all_set h7 hPy, by rw [List.length_set]; exact h8, e9, rfl⟩
      rw [h5, List.set_set]
    · rw [if_neg hc] at e9
      simp only [hc, if_false, MW_pure, put_lo, put_st, h1, h2, h3, h4, String.reduceEq, Option.some.injEq, exists_eq_left', Bool.false_eq_true]
      refine (MW_setI (by exact hget _ rfl) hl0 rfl h6).mpr ?_
      refine ⟨trivial, ?_⟩
      show (σ.st.set l _) = _
      rw [h5, List.set_set, e9]
  · rename_i hlt'
    have e9 := h9
    rw [sd, dif_neg (by omega)] at e9
    refine (MW_setI (by exact hget _ rfl) hl0 rfl h6).mpr ?_
    refine ⟨trivial, ?_⟩
    show (σ.st.set l _) = _
    rw [h5, List.set_set, e9]

theorem LtAtL.set {st : Store} {l : Nat} (h : LtAtL st l P lt) (ws : List V) : LtAtL (st.set l (.lst ws)) l P lt := by
  intro us a b ha hb lo
  rw [List.set_set]
  exact h us a b ha hb lo

theorem siftup_spec {st : Store} {l : Nat} {vs : List V} {p : Nat} (hl : st[l]? = some (.lst vs)) (hl0 : l ≠ 0) (hp : p < vs.length) (hn : vs.length ≤ 4000) (hP : ∀ a ∈ vs, P a) (hlt : LtAtL st l P lt) :
    f_siftup [.obj l, .int p] st = .ok .none (st.set l (.lst (su lt vs p))) := by
  refine funM_of rfl ?_
  unfold siftup_m
  simp only [MW_seq, MW_bind, MW_getv, MW_pure, MW_setv, bindP, put_lo, put_st, String.reduceEq, if_true, if_false, Option.some.injEq, exists_eq_left']
  refine (MW_len (by exact hl)).mpr ?_
  simp only [put_lo, put_st, String.reduceEq, if_true, if_false, Option.some.injEq, exists_eq_left']
  refine (MW_getI (by exact hl) (j := p) (by rw [ix_nat, if_pos hp]) (nth_eq hp)).mpr ?_
  simp only [put_lo, put_st, String.reduceEq, if_true, if_false, Option.some.injEq, exists_eq_left']
  rw [MW_mul]
  refine ⟨by omega, ?_⟩
  rw [MW_add]
  refine MW_while (fun k σ => ∃ ws q, σ.lo "heap" = some (.obj l) ∧ σ.lo "endpos" = some (.int vs.length) ∧ σ.lo "startpos" = some (.int p) ∧ σ.lo "newitem" = some (nth vs p) ∧ σ.lo "pos" = some (.int (q : Nat)) ∧
    σ.lo "childpos" = some (.int (2 * (q : Int) + 1)) ∧ σ.st = st.set l (.lst ws) ∧ q < ws.length ∧
    (∀ a ∈ ws, P a) ∧ ws.length = vs.length ∧ down lt ws q = down lt vs p ∧ k = vs.length - q) ?_ 4096 (vs.length - p) _ (by omega)
    ⟨vs, p, rfl, rfl, rfl, rfl, rfl, rfl, (set_id hl).symm, hp, hP, rfl, rfl, rfl⟩
  rintro k σ ⟨ws, q, h1, h2, h3, h4, h5, h6, h7, h8, h9, h10, h11, rfl⟩
  have hget : ∀ σ' : S, σ'.st = σ.st → σ'.st[l]? = some (.lst ws) := fun σ' e => by rw [e, h7]; exact set_get hl
  have hPx : P (nth vs p) := hP _ (nth_mem hp)
  unfold siftup_w1_c
  simp only [MW_bind, MW_getv, MW_lt_int, MW_tru, h2, h6, Option.some.injEq, exists_eq_left', decide_eq_true_eq]
  split
  · rename_i hc
    have hc' : 2 * q + 1 < ws.length := by omega
    have e11 := h11
    rw [down, dif_pos hc'] at e11
    have hk1 := kid_gt lt ws q
    have hk2 := kid_lt (lt := lt) hc'
    unfold siftup_w1_b
    rw [MW_seq]
    simp only [MW_bind, MW_getv, MW_pure, MW_setv, MW_add, h6, Option.some.injEq, exists_eq_left']
    rw [MW_seq]
    refine MW.mono (Q := fun f σ' => f = .next ∧ σ'.st = σ.st ∧ (∀ y, y ≠ "childpos" → y ≠ "rightpos" → σ'.lo y = σ.lo y) ∧ σ'.lo "childpos" = some (.int ((kid lt ws q : Nat) : Int))) ?_ ?_
    · simp only [MW_bind, MW_getv, MW_pure, MW_setv, MW_lt_int, MW_tru, put_lo, put_st, h1, h2, h6, String.reduceEq, if_true, if_false, Option.some.injEq, exists_eq_left', decide_eq_true_eq]
      by_cases hr : 2 * q + 2 < ws.length
      · rw [if_pos (by omega)]
        simp only [MW_bind, MW_getv, MW_pure, put_lo, put_st, h1, h2, h6, String.reduceEq, if_true, if_false, Option.some.injEq, exists_eq_left']
        refine (MW_getI (by exact hget _ rfl) (j := 2 * q + 1) (by have : (2 * (q : Int) + 1) = ((2 * q + 1 : Nat) : Int) := by omega
                                                                   rw [this, ix_nat, if_pos hc']) (nth_eq hc')).mpr ?_
        simp only [MW_bind, MW_getv, MW_pure, put_lo, put_st, h1, h2, h6, String.reduceEq, if_true, if_false, Option.some.injEq, exists_eq_left']
        refine (MW_getI (by exact hget _ rfl) (j := 2 * q + 2) (by have : (2 * (q : Int) + 1 + 1) = ((2 * q + 2 : Nat) : Int) := by omega
                                                                   rw [this, ix_nat, if_pos hr]) (nth_eq hr)).mpr ?_
        refine (MW_ltP hlt (by exact h7) (h9 _ (nth_mem hc')) (h9 _ (nth_mem hr))).mpr ?_
        rw [MW_tru]
        cases hb : lt (nth ws (2 * q + 1)) (nth ws (2 * q + 2)) with
        | true =>
          simp only [Bool.not_true, Bool.false_eq_true, if_false, MW_pure]
          have hkid : kid lt ws q = 2 * q + 1 := by unfold kid; rw [if_neg (by rw [hb]; simp)]
          refine ⟨trivial, rfl, fun y hy hy' => ?_, ?_⟩
          · simp only [put_lo, if_neg hy']
          · simp only [put_lo, String.reduceEq, if_false, h6, hkid]
            congr 2
        | false =>
          simp only [Bool.not_false, if_true, MW_pure, MW_bind, MW_getv, MW_setv, put_lo, Option.some.injEq, exists_eq_left']
          have hkid : kid lt ws q = 2 * q + 2 := by unfold kid; rw [if_pos ⟨hr, hb⟩]
          refine ⟨trivial, rfl, fun y hy hy' => ?_, ?_⟩
          · simp only [put_lo, if_neg hy, if_neg hy']
          · rw [hkid]; congr 2
      · rw [if_neg (by omega)]
        simp only [MW_pure, Bool.false_eq_true, if_false]
        have hkid : kid lt ws q = 2 * q + 1 := by unfold kid; rw [if_neg (fun h => hr h.1)]
        refine ⟨trivial, rfl, fun y hy hy' => ?_, ?_⟩
        · simp only [put_lo, if_neg hy']
        · simp only [put_lo, String.reduceEq, if_false, h6, hkid]
          congr 2
    · rintro f σ' ⟨rfl, g7, g, g6⟩
      have g1 := (g "heap" (by decide) (by decide)).trans h1
      have g2 := (g "endpos" (by decide) (by decide)).trans h2
      have g3 := (g "startpos" (by decide) (by decide)).trans h3
      have g4 := (g "newitem" (by decide) (by decide)).trans h4
      have g5 := (g "pos" (by decide) (by decide)).trans h5
      simp only [MW_seq, MW_bind, MW_getv, MW_pure, MW_setv, MW_lt_int, MW_tru, MW_add, put_lo, put_st, g1, g2, g3, g4, g5, g6, String.reduceEq, if_true, if_false, Option.some.injEq, exists_eq_left']
      refine (MW_getI (by exact hget _ g7) (j := kid lt ws q) (by rw [ix_nat, if_pos hk2]) (nth_eq hk2)).mpr ?_
      simp only [g1, g5, Option.some.injEq, exists_eq_left']
      refine (MW_setI (by exact hget _ g7) hl0 rfl h8).mpr ?_
      simp only [g1, g2, g3, g4, g5, g6, put_lo, put_st, String.reduceEq, if_true, if_false, Option.some.injEq, exists_eq_left']
      rw [MW_mul]
      refine ⟨by omega, ?_⟩
      simp only [MW_add, g1, g2, g3, g4, g5, g6, put_lo, put_st, String.reduceEq, if_true, if_false, Option.some.injEq, exists_eq_left']
      refine ⟨vs.length - kid lt ws q, by omega, ws.set q (nth ws (kid lt ws q)), kid lt ws q, trivial, trivial, trivial, trivial, rfl, rfl, ?_, by rw [List.length_set]; exact hk2, all_set h9 (h9 _ (nth_mem hk2)), by rw [List.length_set]; exact h10, e11, rfl⟩
      show σ'.st.set l _ = _
      rw [g7, h7, List.set_set]
  · rename_i hc
    have hc' : ¬ 2 * q + 1 < ws.length := by omega
    have e11 := h11
    rw [down, dif_neg hc'] at e11
    simp only [MW_seq, MW_bind, MW_getv, MW_pure, h1, h2, h3, h4, h5, Option.some.injEq, exists_eq_left']
    refine (MW_setI (by exact hget _ rfl) hl0 rfl h8).mpr ?_
    simp only [MW_seq, MW_bind, MW_getv, MW_pure, h1, h2, h3, h4, h5, Option.some.injEq, exists_eq_left']
    have hst : σ.st.set l (.lst (ws.set q (nth vs p))) = st.set l (.lst (ws.set q (nth vs p))) := by rw [h7, List.set_set]
    refine (MW_callF (by
      show f_siftdown [.obj l, .int p, .int q] (σ.st.set l (.lst (ws.set q (nth vs p)))) = _
      rw [hst]
      exact siftdown_spec (set_get hl) hl0 (by rw [List.length_set]; exact h8) (by rw [List.length_set]; omega) (all_set h9 hPx) (hlt.set _))).mpr ?_
    refine ⟨trivial, ?_⟩
    show (st.set l _).set l _ = _
    rw [List.set_set, nth_set_self h8]
    unfold su
    rw [← e11]

end Mine


/-! part H4 -/
set_option autoImplicit false
set_option maxRecDepth 100000
set_option linter.unusedVariables false
set_option linter.unusedSimpArgs false
open PySem PySem.W PyProof.Rows
namespace Mine

variable {P : V → Prop} {lt : V → V → Bool}

theorem LtAtL.id {st : Store} {l : Nat} {vs : List V} (h : LtAtL st l P lt) (hl : st[l]? = some (.lst vs)) (ws : List V) : LtAtL (st.set l (.lst ws)) l P lt := h.set ws

theorem heappush_spec {st : Store} {l : Nat} {vs : List V} {x : V} (hl : st[l]? = some (.lst vs)) (hl0 : l ≠ 0) (hn : vs.length < 4000) (hP : ∀ a ∈ vs, P a) (hx : P x) (hlt : LtAtL st l P lt) :
    f_heappush [.obj l, x] st = .ok .none (st.set l (.lst (hpush lt vs x))) := by
  refine funM_of rfl ?_
  unfold heappush_m
  simp only [MW_seq, MW_bind, MW_getv, MW_pure, MW_setv, bindP, put_lo, put_st, String.reduceEq, if_true, if_false, Option.some.injEq, exists_eq_left']
  refine (MW_chkL (by exact hl)).mpr ?_
  simp only [MW_bind, MW_getv, MW_pure, String.reduceEq, if_true, if_false, Option.some.injEq, exists_eq_left']
  refine (MW_append (by exact hl) hl0 (by omega)).mpr ?_
  simp only [MW_bind, MW_getv, MW_pure, String.reduceEq, if_true, if_false, Option.some.injEq, exists_eq_left']
  refine (MW_len (vs := vs ++ [x]) (by exact set_get hl)).mpr ?_
  rw [MW_sub]
  have e : (((vs ++ [x]).length : Nat) : Int) - 1 = ((vs.length : Nat) : Int) := by simp
  rw [e]
  refine (MW_callF (by
    show f_siftdown [.obj l, .int ((0 : Nat) : Int), .int ((vs.length : Nat) : Int)] (st.set l (.lst (vs ++ [x]))) = _
    exact siftdown_spec (set_get hl) hl0 (by simp) (by simp; omega) (by
      intro a ha
      rcases List.mem_append.mp ha with h | h
      · exact hP a h
      · rw [List.mem_singleton.mp h]; exact hx) (hlt.set _))).mpr ?_
  refine ⟨trivial, ?_⟩
  show (st.set l _).set l _ = _
  rw [List.set_set]
  have : nth (vs ++ [x]) vs.length = x := by unfold nth; simp
  rw [this]; rfl

theorem heapreplace_spec {st : Store} {l : Nat} {vs : List V} {x : V} (hl : st[l]? = some (.lst vs)) (hl0 : l ≠ 0) (h0 : 0 < vs.length) (hn : vs.length ≤ 4000) (hP : ∀ a ∈ vs, P a) (hx : P x) (hlt : LtAtL st l P lt) :
    f_heapreplace [.obj l, x] st = .ok (nth vs 0) (st.set l (.lst (su lt (vs.set 0 x) 0))) := by
  refine funM_of rfl ?_
  unfold heapreplace_m
  simp only [MW_seq, MW_bind, MW_getv, MW_pure, MW_setv, bindP, put_lo, put_st, String.reduceEq, if_true, if_false, Option.some.injEq, exists_eq_left']
  refine (MW_getI (by exact hl) (j := 0) (by rw [show (0 : Int) = ((0 : Nat) : Int) from rfl, ix_nat, if_pos h0]) (nth_eq h0)).mpr ?_
  simp only [put_lo, put_st, String.reduceEq, if_true, if_false, Option.some.injEq, exists_eq_left']
  refine (MW_setI (j := 0) (by exact hl) hl0 rfl h0).mpr ?_
  simp only [put_lo, put_st, String.reduceEq, if_true, if_false, Option.some.injEq, exists_eq_left']
  refine (MW_callF (by
    show f_siftup [.obj l, .int ((0 : Nat) : Int)] (st.set l (.lst (vs.set 0 x))) = _
    exact siftup_spec (set_get hl) hl0 (by rw [List.length_set]; exact h0) (by rw [List.length_set]; omega) (all_set hP hx) (hlt.set _))).mpr ?_
  simp only [put_lo, put_st, String.reduceEq, if_true, if_false, Option.some.injEq, exists_eq_left', bindP]
  refine ⟨trivial, ?_⟩
  rw [List.set_set]

theorem heappop_spec {st : Store} {l : Nat} {vs : List V} (hl : st[l]? = some (.lst vs)) (hl0 : l ≠ 0) (h0 : 0 < vs.length) (hn : vs.length ≤ 4000) (hP : ∀ a ∈ vs, P a) (hlt : LtAtL st l P lt) :
    f_heappop [.obj l] st = .ok (hpop lt vs).1 (st.set l (.lst (hpop lt vs).2)) := by
  refine funM_of rfl ?_
  unfold heappop_m
  have hlen : (vs.eraseIdx (vs.length - 1)).length = vs.length - 1 := by rw [List.length_eraseIdx]; simp; omega
  simp only [MW_seq, MW_bind, MW_getv, MW_pure, MW_setv, bindP, put_lo, put_st, String.reduceEq, if_true, if_false, Option.some.injEq, exists_eq_left']
  refine (MW_chkL (by exact hl)).mpr ?_
  refine (MW_pop (by exact hl) hl0 (nth_eq (by omega))).mpr ?_
  simp only [put_lo, put_st, String.reduceEq, if_true, if_false, Option.some.injEq, exists_eq_left']
  refine (MW_truL (vs := vs.eraseIdx (vs.length - 1)) (by exact set_get hl)).mpr ?_
  by_cases h1 : vs.length ≤ 1
  · have he : vs.eraseIdx (vs.length - 1) = [] := List.eq_nil_of_length_eq_zero (by omega)
    have hp : hpop lt vs = (nth vs 0, []) := by unfold hpop; rw [if_pos h1]
    rw [he]
    simp only [List.isEmpty_nil, Bool.not_true, Bool.false_eq_true, if_false, MW_pure, put_lo, put_st, String.reduceEq, if_true, Option.some.injEq, exists_eq_left']
    rw [hp]
    have : vs.length - 1 = 0 := by omega
    rw [this]
    exact ⟨rfl, rfl⟩
  · have he : (vs.eraseIdx (vs.length - 1)).isEmpty = false := by
      cases h : vs.eraseIdx (vs.length - 1) with
      | nil => rw [h] at hlen; simp at hlen; omega
      | cons a b => rfl
    have hn0 : nth (vs.eraseIdx (vs.length - 1)) 0 = nth vs 0 := by
      have h2 := eraseLast_append h0
      conv => rhs; rw [← h2]
      rw [nth_append_left (by omega)]
    have hp : hpop lt vs = (nth vs 0, su lt ((vs.eraseIdx (vs.length - 1)).set 0 (nth vs (vs.length - 1))) 0) := by unfold hpop; rw [if_neg h1]
    rw [he]
    simp only [Bool.not_false, if_true, MW_seq, MW_bind, MW_getv, MW_pure, MW_setv, put_lo, put_st, String.reduceEq, if_false, Option.some.injEq, exists_eq_left']
    refine (MW_getI (vs := vs.eraseIdx (vs.length - 1)) (by exact set_get hl) (j := 0) (by rw [show (0 : Int) = ((0 : Nat) : Int) from rfl, ix_nat, if_pos (by omega)]) (nth_eq (by omega))).mpr ?_
    simp only [put_lo, put_st, String.reduceEq, if_true, if_false, Option.some.injEq, exists_eq_left']
    refine (MW_setI (vs := vs.eraseIdx (vs.length - 1)) (j := 0) (by exact set_get hl) hl0 rfl (by omega)).mpr ?_
    simp only [put_lo, put_st, String.reduceEq, if_true, if_false, Option.some.injEq, exists_eq_left', List.set_set]
    refine (MW_callF (by
      show f_siftup [.obj l, .int ((0 : Nat) : Int)] (st.set l (.lst ((vs.eraseIdx (vs.length - 1)).set 0 (nth vs (vs.length - 1))))) = _
      exact siftup_spec (set_get hl) hl0 (by rw [List.length_set]; omega) (by rw [List.length_set]; omega) (all_set (fun a ha => hP a (List.mem_of_mem_eraseIdx ha)) (hP _ (nth_mem (by omega)))) (hlt.set _))).mpr ?_
    simp only [put_lo, put_st, String.reduceEq, if_true, if_false, Option.some.injEq, exists_eq_left', bindP, List.set_set, hp, hn0]
    exact ⟨trivial, trivial⟩

theorem revR_eq {q : Int} (hq : 0 ≤ q ∧ q < 1000000) : revR (.rng 0 q 1) = pure (.rng (q - 1) (-1) (-1)) := by simp only [revR, if_pos hq]
theorem nxt_rng (a b c : Int) (σ : S) (i : Nat) : nxtOf (.rng a b c) σ i = some (if i < rngLen a b c then some (.int (a + i * c)) else none) := rfl

theorem heapify_spec {st : Store} {l : Nat} {vs : List V} (hl : st[l]? = some (.lst vs)) (hl0 : l ≠ 0) (hn : vs.length ≤ 4000) (hP : ∀ a ∈ vs, P a) (hlt : LtAtL st l P lt) :
    f_heapify [.obj l] st = .ok .none (st.set l (.lst (hpfy lt (vs.length / 2) vs))) := by
  refine funM_of rfl ?_
  unfold heapify_m
  simp only [MW_seq, MW_bind, MW_getv, MW_pure, MW_setv, bindP, put_lo, put_st, String.reduceEq, if_true, if_false, Option.some.injEq, exists_eq_left']
  refine (MW_len (by exact hl)).mpr ?_
  simp only [put_lo, put_st, String.reduceEq, if_true, if_false, Option.some.injEq, exists_eq_left', MW_fdiv]
  refine ⟨by omega, ?_⟩
  have e : ((vs.length : Nat) : Int) / 2 = ((vs.length / 2 : Nat) : Int) := by omega
  rw [e]
  have hr : revR (.rng 0 ((vs.length / 2 : Nat) : Int) 1) = pure (.rng (((vs.length / 2 : Nat) : Int) - 1) (-1) (-1)) := by
    exact revR_eq (by omega)
  simp only [rangeB, MW_pure, hr]
  have hlen : rngLen (((vs.length / 2 : Nat) : Int) - 1) (-1) (-1) = vs.length / 2 := by
    have := rngLen_eq (((vs.length / 2 : Nat) : Int) - 1) (-1) (-1)
    rw [rangeSize_down (by omega)] at this
    omega
  refine MW_for (vs.length / 2) (fun i σ => ∃ ws, σ.lo "x" = some (.obj l) ∧ σ.st = st.set l (.lst ws) ∧ (∀ a ∈ ws, P a) ∧ ws.length = vs.length ∧ hpfy lt (vs.length / 2 - i) ws = hpfy lt (vs.length / 2) vs) ?_ ?_ 4096 0 _ (Nat.zero_le _) (by omega)
    ⟨vs, rfl, (set_id hl).symm, hP, rfl, rfl⟩
  · rintro σ ⟨ws, h1, h2, h3, h4, h5⟩
    refine ⟨?_, rfl, ?_⟩
    · rw [nxt_rng, hlen, if_neg (by omega)]
    · rw [Nat.sub_self] at h5
      rw [h2, ← h5]; rfl
  · rintro i σ hi ⟨ws, h1, h2, h3, h4, h5⟩
    refine ⟨.int (((vs.length / 2 - i - 1 : Nat) : Int)), ?_, ?_⟩
    · rw [nxt_rng, hlen, if_pos hi]
      have : (((vs.length / 2 : Nat) : Int) - 1) + (i : Int) * (-1) = ((vs.length / 2 - i - 1 : Nat) : Int) := by omega
      rw [this]
    · unfold heapify_l1_t heapify_l1_b
      simp only [MW_seq, MW_bind, MW_getv, MW_pure, MW_setv, put_lo, put_st, h1, String.reduceEq, if_true, if_false, Option.some.injEq, exists_eq_left']
      refine (MW_callF (by
        show f_siftup [.obj l, .int ((vs.length / 2 - i - 1 : Nat) : Int)] σ.st = _
        rw [h2]
        exact siftup_spec (set_get hl) hl0 (by omega) (by omega) h3 (hlt.set _))).mpr ?_
      refine ⟨su lt ws (vs.length / 2 - i - 1), ?_, ?_, ?_, by rw [su_length]; exact h4, ?_⟩
      · simp only [put_lo, String.reduceEq, if_false]; exact h1
      · show (st.set l _).set l _ = _; rw [List.set_set]
      · exact fun a ha => h3 a ((su_perm lt ws _ (by omega)).mem_iff.mp ha)
      · rw [← h5]
        have : vs.length / 2 - i = (vs.length / 2 - (i + 1)) + 1 := by omega
        rw [this, hpfy]
        congr 2

end Mine


/-! part H5 -/
set_option autoImplicit false
set_option maxRecDepth 100000
set_option linter.unusedVariables false
set_option linter.unusedSimpArgs false
open PySem PySem.W PyProof.Rows
namespace Mine

/-! ### lists of ints -/
section
variable {σ : S}

theorem toD_int {st : Store} {n : Nat} {i : Int} : toD st (n + 1) (.int i) = some (.int i) := by simp only [toD]
theorem mapO_ints {st : Store} {n : Nat} : ∀ ns : List Int, mapO (toD st (n + 1)) (ns.map V.int) = some (ns.map PyData.int)
  | [] => rfl
  | a :: ns => by
    show mapO (toD st (n + 1)) (V.int a :: ns.map V.int) = _
    unfold mapO
    rw [toD_int, mapO_ints ns]
    rfl
theorem toD_intL {st : Store} {n l : Nat} {ns : List Int} (h : st[l]? = some (.lst (ns.map V.int))) : toD st (n + 2) (.obj l) = some (.list (ns.map PyData.int)) := by
  rw [toD]
  simp only [h]
  rw [mapO_ints]; rfl
theorem eqvAll_ints : ∀ as bs : List Int, PyData.eqvAll (as.map PyData.int) (bs.map PyData.int) = decide (as = bs)
  | [], [] => by simp [PyData.eqvAll]
  | [], _ :: _ => by simp [PyData.eqvAll]
  | _ :: _, [] => by simp [PyData.eqvAll]
  | a :: as, b :: bs => by
    simp only [List.map_cons, PyData.eqvAll, eqvAll_ints as bs, PyData.eqv]
    by_cases h : a = b
    · subst h; simp
    · simp [h]
theorem MW_eqL {l k : Nat} {as bs : List Int} {Q : V → S → Prop} (h1 : σ.st[l]? = some (.lst (as.map V.int))) (h2 : σ.st[k]? = some (.lst (bs.map V.int))) : MW (eqV (.obj l) (.obj k)) σ Q ↔ Q (.bool (decide (as = bs))) σ := by
  refine MW_fun_ok ?_
  unfold eqV
  rw [toD_intL h1, toD_intL h2]
  simp only [PyData.eqv, eqvAll_ints]
theorem MW_neL {l k : Nat} {as bs : List Int} {Q : V → S → Prop} (h1 : σ.st[l]? = some (.lst (as.map V.int))) (h2 : σ.st[k]? = some (.lst (bs.map V.int))) : MW (neV (.obj l) (.obj k)) σ Q ↔ Q (.bool (!decide (as = bs))) σ := by
  refine MW_fun_ok ?_
  unfold neV
  rw [toD_intL h1, toD_intL h2]
  simp only [PyData.eqv, eqvAll_ints]
theorem MW_eqI {a b : Int} {Q : V → S → Prop} : MW (eqV (.int a) (.int b)) σ Q ↔ Q (.bool (decide (a = b))) σ := by
  refine MW_fun_ok ?_
  unfold eqV
  rw [toD_int, toD_int]
  simp only [PyData.eqv]
  rfl
theorem MW_neI {a b : Int} {Q : V → S → Prop} : MW (neV (.int a) (.int b)) σ Q ↔ Q (.bool (!decide (a = b))) σ := by
  refine MW_fun_ok ?_
  unfold neV
  rw [toD_int, toD_int]
  simp only [PyData.eqv]
  rfl
theorem MW_isNone {v : V} {Q : V → S → Prop} : MW (isV v .none) σ Q ↔ Q (.bool v.isNone) σ := by
  refine MW_fun_ok ?_
  cases v <;> rfl
theorem MW_isNotNone {v : V} {Q : V → S → Prop} : MW (isNotV v .none) σ Q ↔ Q (.bool (!v.isNone)) σ := by
  refine MW_fun_ok ?_
  cases v <;> rfl
theorem MW_isO {l k : Nat} {Q : V → S → Prop} : MW (isV (.obj l) (.obj k)) σ Q ↔ Q (.bool (decide (l = k))) σ := MW_fun_ok rfl
theorem MW_isNotO {l k : Nat} {Q : V → S → Prop} : MW (isNotV (.obj l) (.obj k)) σ Q ↔ Q (.bool (!decide (l = k))) σ := MW_fun_ok rfl
theorem intsOf_map : ∀ ns : List Int, intsOf (ns.map V.int) = some ns
  | [] => rfl
  | a :: ns => by simp only [List.map_cons, intsOf, intsOf_map ns]; rfl
theorem MW_sorted {l : Nat} {ns : List Int} {Q : V → S → Prop} (h : σ.st[l]? = some (.lst (ns.map V.int))) (hn : ns.length < 64) :
    MW (sortedB [.obj l]) σ Q ↔ Q (.obj σ.st.length) { σ with st := σ.st ++ [.lst ((sortI ns).map V.int)] } := by
  refine MW_fun_ok ?_
  simp only [sortedB, h, intsOf_map, List.length_map, if_pos hn]
theorem MW_addL {l k : Nat} {as bs : List V} {Q : V → S → Prop} (h1 : σ.st[l]? = some (.lst as)) (h2 : σ.st[k]? = some (.lst bs)) (hn : (as ++ bs).length ≤ 1000000) :
    MW (addV (.obj l) (.obj k)) σ Q ↔ Q (.obj σ.st.length) { σ with st := σ.st ++ [.lst (as ++ bs)] } := by
  refine MW_fun_ok ?_
  simp only [addV, h1, h2, newL, if_pos hn]
theorem MW_abs {a : Int} {Q : V → S → Prop} : MW (absB [.int a]) σ Q ↔ Q (.int (if a < 0 then -a else a)) σ := MW_fun_ok rfl
theorem pick_plain {α : Type} (vs : List α) (lo hi : Option Int) : pickV vs lo hi none = (vs.drop (lo.elim 0 (clipAt vs.length))).take (hi.elim vs.length (clipAt vs.length) - lo.elim 0 (clipAt vs.length)) := by
  unfold pickV
  rw [sliceBounds_plain]
  dsimp only
  rw [sliceRange_one]
  generalize lo.elim 0 (clipAt vs.length) = a
  generalize hi.elim vs.length (clipAt vs.length) - a = n
  induction n generalizing a with
  | zero => simp
  | succ n ih =>
    rw [List.range_succ, List.map_append, List.filterMap_append, ih]
    simp only [List.map_cons, List.map_nil, List.filterMap_cons, List.filterMap_nil]
    rw [List.take_add_one, List.getElem?_drop]
    cases vs[a + n]? <;> rfl
theorem MW_slice {l : Nat} {vs : List V} {a b : V} {lo hi : Option Int} {Q : V → S → Prop} (h : σ.st[l]? = some (.lst vs)) (ha : partO a = some lo) (hb : partO b = some hi) :
    MW (sliceV (.obj l) (a, b, .none)) σ Q ↔ Q (.obj σ.st.length) { σ with st := σ.st ++ [.lst ((vs.drop (lo.elim 0 (clipAt vs.length))).take (hi.elim vs.length (clipAt vs.length) - lo.elim 0 (clipAt vs.length)))] } := by
  refine MW_fun_ok ?_
  have hn : partO V.none = some none := rfl
  simp only [sliceV, h, ha, hb, hn]
  rw [if_neg (by simp), pick_plain]
end

/-! ### the order of ints -/
def IsI (v : V) : Prop := ∃ i, v = .int i
def ltI : V → V → Bool
  | .int a, .int b => decide (a < b)
  | _, _ => false
theorem ltAt_int (st : Store) (l : Nat) : LtAtL st l IsI ltI := by
  rintro ws _ _ ⟨a, rfl⟩ ⟨b, rfl⟩ lo
  unfold ltV
  simp only [toD, ltD, ltI]
theorem swo_int : SWO IsI ltI where
  asymm := by
    rintro _ _ ⟨a, rfl⟩ ⟨b, rfl⟩ h
    simp only [ltI, decide_eq_true_eq, decide_eq_false_iff_not] at h ⊢; omega
  trans := by
    rintro _ _ _ ⟨a, rfl⟩ ⟨b, rfl⟩ ⟨c, rfl⟩ h1 h2
    simp only [ltI, decide_eq_true_eq, decide_eq_false_iff_not] at h1 h2 ⊢; omega
theorem isI_map {ns : List Int} : ∀ a ∈ ns.map V.int, IsI a := by
  intro a ha
  obtain ⟨i, _, e⟩ := List.mem_map.mp ha
  exact ⟨i, e.symm⟩
theorem ints_of_isI : ∀ {vs : List V}, (∀ a ∈ vs, IsI a) → ∃ ns : List Int, vs = ns.map V.int
  | [], _ => ⟨[], rfl⟩
  | v :: vs, h => by
    obtain ⟨i, rfl⟩ := h v List.mem_cons_self
    obtain ⟨ns, rfl⟩ := ints_of_isI fun a ha => h a (List.mem_cons_of_mem _ ha)
    exact ⟨i :: ns, rfl⟩
theorem int_inj : Function.Injective V.int := fun a b h => by cases h; rfl
theorem perm_ints {as bs : List Int} (h : (as.map V.int).Perm (bs.map V.int)) : as.Perm bs := by
  have h2 := h.map (fun v : V => match v with | .int i => i | _ => 0)
  simpa [List.map_map, Function.comp_def] using h2

/-- a heap of ints -/
def HpI (ns : List Int) : Prop := HeapFrom ltI 0 (ns.map V.int)
theorem heapI_head {ns : List Int} (h : HpI ns) : ∀ x ∈ ns, ns.headD 0 ≤ x := by
  intro x hx
  obtain ⟨j, hj, rfl⟩ := List.mem_iff_getElem.mp hx
  have := heap_min swo_int (isI_map (ns := ns)) h j (by simpa using hj)
  rw [nth_getElem (by simpa using hj), nth_getElem (by simp; omega)] at this
  simp only [List.getElem_map, ltI, decide_eq_false_iff_not, Int.not_lt] at this
  cases ns with
  | nil => simp at hj
  | cons a r => simpa using this

def popI (ns : List Int) : Int × List Int := ((match (hpop ltI (ns.map V.int)).1 with | .int i => i | _ => 0), (hpop ltI (ns.map V.int)).2.map (fun v => match v with | .int i => i | _ => 0))
theorem hpop_int {ns : List Int} (h0 : 0 < ns.length) : ∃ m ms, hpop ltI (ns.map V.int) = (.int m, ms.map V.int) ∧ (m :: ms).Perm ns := by
  have hp := hpop_perm ltI (vs := ns.map V.int) (by simpa using h0)
  have hI : ∀ a ∈ (hpop ltI (ns.map V.int)).1 :: (hpop ltI (ns.map V.int)).2, IsI a := fun a ha => isI_map a (hp.mem_iff.mp ha)
  obtain ⟨m, hm⟩ := hI _ List.mem_cons_self
  obtain ⟨ms, hms⟩ := ints_of_isI fun a ha => hI a (List.mem_cons_of_mem _ ha)
  refine ⟨m, ms, by rw [← hm, ← hms], perm_ints ?_⟩
  rw [hm, hms] at hp
  simpa using hp
theorem hpop_int_spec {ns : List Int} (h0 : 0 < ns.length) (hh : HpI ns) : ∃ m ms, hpop ltI (ns.map V.int) = (.int m, ms.map V.int) ∧ (m :: ms).Perm ns ∧ HpI ms ∧ ∀ x ∈ ns, m ≤ x := by
  obtain ⟨m, ms, e, p⟩ := hpop_int h0
  refine ⟨m, ms, e, p, ?_, ?_⟩
  · have := hpop_heap swo_int (isI_map (ns := ns)) (by simpa using h0) hh
    rw [e] at this; exact this
  · intro x hx
    have := hpop_min swo_int (isI_map (ns := ns)) hh (.int x) (List.mem_map.mpr ⟨x, hx, rfl⟩)
    rw [e] at this
    simpa [ltI] using this
theorem hpush_int_spec {ns : List Int} {x : Int} (hh : HpI ns) : ∃ ms, hpush ltI (ns.map V.int) (.int x) = ms.map V.int ∧ ms.Perm (ns ++ [x]) ∧ HpI ms := by
  have hp := hpush_perm ltI (ns.map V.int) (.int x)
  have hI : ∀ a ∈ hpush ltI (ns.map V.int) (.int x), IsI a := fun a ha => by
    have := hp.mem_iff.mp ha
    rcases List.mem_append.mp this with h | h
    · exact isI_map a h
    · exact ⟨x, List.mem_singleton.mp h⟩
  obtain ⟨ms, hms⟩ := ints_of_isI hI
  refine ⟨ms, hms, perm_ints (by rw [← hms]; simpa using hp), ?_⟩
  have := hpush_heap swo_int (isI_map (ns := ns)) ⟨x, rfl⟩ hh
  rw [hms] at this; exact this
theorem hpfy_int_spec (ns : List Int) : ∃ ms, hpfy ltI (ns.length / 2) (ns.map V.int) = ms.map V.int ∧ ms.Perm ns ∧ HpI ms := by
  have hp := hpfy_perm ltI (ns.length / 2) (ns.map V.int) (by simp; omega)
  obtain ⟨ms, hms⟩ := ints_of_isI fun a ha => isI_map (ns := ns) a (hp.mem_iff.mp ha)
  refine ⟨ms, hms, perm_ints (by rw [← hms]; exact hp), ?_⟩
  have := hpfy_heap swo_int (ns.length / 2) (ns.map V.int) (by simp; omega) (isI_map (ns := ns)) (by
    have := heapFrom_half ltI (ns.map V.int)
    rwa [List.length_map] at this)
  rw [hms] at this; exact this

end Mine


/-! part H6 -/
set_option autoImplicit false
set_option maxRecDepth 100000
set_option linter.unusedVariables false
set_option linter.unusedSimpArgs false
open PySem PySem.W PyProof.Rows
namespace Mine

/-! ### stores: all stays but the places L -/
def Pres (L : List Nat) (st st' : Store) : Prop := st.length ≤ st'.length ∧ ∀ k, k < st.length → k ∉ L → st'[k]? = st[k]?
theorem lt_of_get {st : Store} {l : Nat} {c : Cel} (h : st[l]? = some c) : l < st.length := (List.getElem?_eq_some_iff.mp h).1
theorem Pres.refl (L : List Nat) (st : Store) : Pres L st st := ⟨Nat.le_refl _, fun _ _ _ => rfl⟩
theorem Pres.trans {L : List Nat} {a b c : Store} (x : Pres L a b) (y : Pres L b c) : Pres L a c :=
  ⟨Nat.le_trans x.1 y.1, fun k hk hl => (y.2 k (Nat.lt_of_lt_of_le hk x.1) hl).trans (x.2 k hk hl)⟩
theorem Pres.get {L : List Nat} {a b : Store} {k : Nat} {c : Cel} (x : Pres L a b) (h : a[k]? = some c) (hk : k ∉ L) : b[k]? = some c := (x.2 k (lt_of_get h) hk).trans h
theorem Pres.get0 {a b : Store} {k : Nat} {c : Cel} (x : Pres [] a b) (h : a[k]? = some c) : b[k]? = some c := x.get h (by simp)
theorem Pres.mono {L L' : List Nat} {a b : Store} (x : Pres L a b) (h : ∀ k ∈ L, k ∈ L') : Pres L' a b := ⟨x.1, fun k hk hl => x.2 k hk fun q => hl (h k q)⟩
theorem Pres.nil {L : List Nat} {a b : Store} (x : Pres [] a b) : Pres L a b := x.mono (by simp)
theorem Pres.app (L : List Nat) (st xs : Store) : Pres L st (st ++ xs) := ⟨by simp, fun k hk _ => List.getElem?_append_left hk⟩
theorem Pres.set {L : List Nat} {st : Store} {l : Nat} {c : Cel} (h : l ∈ L) : Pres L st (st.set l c) :=
  ⟨by simp, fun k hk hl => List.getElem?_set_ne (by rintro rfl; exact hl h)⟩
/-- what is new lies above, so that it stays where only old places turn -/
theorem Pres.fresh {L : List Nat} {a b c : Store} (x : Pres [] a b) (y : Pres L b c) (hL : ∀ k ∈ L, k < a.length ∨ b.length ≤ k) : ∀ k cel, a.length ≤ k → b[k]? = some cel → c[k]? = some cel := by
  intro k cel hk e
  refine y.get e fun hm => ?_
  have := lt_of_get e
  rcases hL k hm with h | h <;> omega

theorem set_self {st : Store} {l : Nat} {c : Cel} (h : l < st.length) : (st.set l c)[l]? = some c := List.getElem?_set_self h

section
variable {σ : S}
theorem MW_newL' {vs : List V} {Q : V → S → Prop} (hn : vs.length ≤ 1000000) (h : ∀ k st', Pres [] σ.st st' → σ.st.length ≤ k → st'[k]? = some (.lst vs) → Q (.obj k) ⟨st', σ.lo⟩) : MW (newL vs) σ Q :=
  (MW_newL hn).mpr (h _ _ (Pres.app ..) (Nat.le_refl _) List.getElem?_concat_length)
theorem MW_sorted' {l : Nat} {ns : List Int} {Q : V → S → Prop} (hl : σ.st[l]? = some (.lst (ns.map V.int))) (hn : ns.length < 64)
    (h : ∀ k st', Pres [] σ.st st' → σ.st.length ≤ k → st'[k]? = some (.lst ((sortI ns).map V.int)) → Q (.obj k) ⟨st', σ.lo⟩) : MW (sortedB [.obj l]) σ Q :=
  (MW_sorted hl hn).mpr (h _ _ (Pres.app ..) (Nat.le_refl _) List.getElem?_concat_length)
theorem MW_addL' {l k : Nat} {as bs : List V} {Q : V → S → Prop} (h1 : σ.st[l]? = some (.lst as)) (h2 : σ.st[k]? = some (.lst bs)) (hn : (as ++ bs).length ≤ 1000000)
    (h : ∀ k st', Pres [] σ.st st' → σ.st.length ≤ k → st'[k]? = some (.lst (as ++ bs)) → Q (.obj k) ⟨st', σ.lo⟩) : MW (addV (.obj l) (.obj k)) σ Q :=
  (MW_addL h1 h2 hn).mpr (h _ _ (Pres.app ..) (Nat.le_refl _) List.getElem?_concat_length)
theorem MW_slice' {l : Nat} {vs : List V} {a b : V} {lo hi : Option Int} {ws : List V} {Q : V → S → Prop} (hl : σ.st[l]? = some (.lst vs)) (ha : partO a = some lo) (hb : partO b = some hi)
    (he : (vs.drop (lo.elim 0 (clipAt vs.length))).take (hi.elim vs.length (clipAt vs.length) - lo.elim 0 (clipAt vs.length)) = ws)
    (h : ∀ k st', Pres [] σ.st st' → σ.st.length ≤ k → st'[k]? = some (.lst ws) → Q (.obj k) ⟨st', σ.lo⟩) : MW (sliceV (.obj l) (a, b, .none)) σ Q := by
  subst he
  exact (MW_slice hl ha hb).mpr (h _ _ (Pres.app ..) (Nat.le_refl _) List.getElem?_concat_length)
theorem MW_callF' {g : Fun} {vs : List V} {v : V} {st' : Store} {Q : V → S → Prop} (h : g vs σ.st = .ok v st') (q : Q v ⟨st', σ.lo⟩) : MW (callF g vs) σ Q := (MW_callF h).mpr q
end
theorem funM_ex {params : List String} {body : M Fl} {vs : List V} {st : Store} {R : V → Store → Prop} (hl : vs.length = params.length)
    (h : MW body ⟨st, bindP params vs⟩ (fun f σ' => R (match f with | .ret u => u | _ => .none) σ'.st)) : ∃ v st', funM params body vs st = .ok v st' ∧ R v st' := by
  obtain ⟨f, σ', e, h1⟩ := h
  exact ⟨_, _, funM_of hl ⟨f, σ', e, rfl, rfl⟩, h1⟩

theorem clip_nat {n k : Nat} : clipAt n (k : Int) = min k n := by
  unfold clipAt; rw [if_neg (by omega)]; omega

theorem slice_nat {α : Type} (vs : List α) (a b : Nat) : (vs.drop (min a vs.length)).take (min b vs.length - min a vs.length) = (vs.drop a).take (b - a) := by
  by_cases h : a ≤ vs.length
  · rw [Nat.min_eq_left h]
    conv => rhs; rw [List.take_eq_take_min]
    rw [List.length_drop]
    congr 1; omega
  · rw [List.drop_eq_nil_of_le (show vs.length ≤ min a vs.length by omega), List.drop_eq_nil_of_le (show vs.length ≤ a by omega)]; simp
theorem slice_from {α : Type} (vs : List α) (a : Nat) : (vs.drop (min a vs.length)).take (vs.length - min a vs.length) = vs.drop a := by
  have := slice_nat vs a vs.length
  rw [Nat.min_self] at this
  rw [this, List.take_of_length_le (by simp)]
section
variable {σ : S}
theorem MW_sl2 {l : Nat} {vs : List V} {x y : Int} {Q : V → S → Prop} (a b : Nat) (hl : σ.st[l]? = some (.lst vs)) (hx : x = a) (hy : y = b)
    (h : ∀ k st', Pres [] σ.st st' → σ.st.length ≤ k → st'[k]? = some (.lst ((vs.drop a).take (b - a))) → Q (.obj k) ⟨st', σ.lo⟩) : MW (sliceV (.obj l) (.int x, .int y, .none)) σ Q := by
  subst hx hy
  refine MW_slice' (lo := some (a : Int)) (hi := some (b : Int)) hl rfl rfl ?_ h
  simp only [Option.elim, clip_nat]
  exact slice_nat vs a b
theorem MW_sl1 {l : Nat} {vs : List V} {x : Int} {Q : V → S → Prop} (a : Nat) (hl : σ.st[l]? = some (.lst vs)) (hx : x = a)
    (h : ∀ k st', Pres [] σ.st st' → σ.st.length ≤ k → st'[k]? = some (.lst (vs.drop a)) → Q (.obj k) ⟨st', σ.lo⟩) : MW (sliceV (.obj l) (.int x, .none, .none)) σ Q := by
  subst hx
  refine MW_slice' (lo := some (a : Int)) (hi := none) hl rfl rfl ?_ h
  simp only [Option.elim, clip_nat]
  exact slice_from vs a
theorem MW_sl0 {l : Nat} {vs : List V} {y : Int} {Q : V → S → Prop} (b : Nat) (hl : σ.st[l]? = some (.lst vs)) (hy : y = b)
    (h : ∀ k st', Pres [] σ.st st' → σ.st.length ≤ k → st'[k]? = some (.lst (vs.take b)) → Q (.obj k) ⟨st', σ.lo⟩) : MW (sliceV (.obj l) (.none, .int y, .none)) σ Q := by
  subst hy
  refine MW_slice' (lo := none) (hi := some (b : Int)) hl rfl rfl ?_ h
  simp only [Option.elim, clip_nat]
  simp
theorem MW_slA {l : Nat} {vs : List V} {Q : V → S → Prop} (hl : σ.st[l]? = some (.lst vs))
    (h : ∀ k st', Pres [] σ.st st' → σ.st.length ≤ k → st'[k]? = some (.lst vs) → Q (.obj k) ⟨st', σ.lo⟩) : MW (sliceV (.obj l) (.none, .none, .none)) σ Q := by
  refine MW_slice' (lo := none) (hi := none) hl rfl rfl ?_ h
  simp
end

/-! sorted ints -/
theorem sortI_congr {as bs : List Int} (h : as.Perm bs) : sortI as = sortI bs := sortI_eq ((sortI_perm as).trans h) (sortI_sorted as)
theorem sortI_of_sorted {as : List Int} (h : as.Pairwise (· ≤ ·)) : sortI as = as := (sortI_eq (List.Perm.refl as) h).symm
theorem sortI_cons {m : Int} {ms ns : List Int} (p : (m :: ms).Perm ns) (hm : ∀ x ∈ ns, m ≤ x) : sortI ns = m :: sortI ms := by
  refine (sortI_eq ((List.Perm.cons m (sortI_perm ms)).trans p) (List.pairwise_cons.mpr ⟨fun x hx => hm x (p.mem_iff.mp (List.mem_cons_of_mem _ ((sortI_perm ms).mem_iff.mp hx))), sortI_sorted ms⟩)).symm
theorem sortI_length (ns : List Int) : (sortI ns).length = ns.length := (sortI_perm ns).length_eq
theorem nthV {ns : List Int} {i : Nat} (h : i < ns.length) : nth (ns.map V.int) i = .int (nth ns i) := by
  rw [nth_getElem (by simpa using h), nth_getElem h]; simp
theorem heap_head_min {ns : List Int} (h : HpI ns) (h0 : 0 < ns.length) : ∀ x ∈ ns, nth ns 0 ≤ x := by
  intro x hx
  have := heapI_head h x hx
  cases ns with
  | nil => simp at h0
  | cons a r => simpa [nth] using this
theorem sort_head {ns : List Int} (h : HpI ns) (h0 : 0 < ns.length) : nth (sortI ns) 0 = nth ns 0 := by
  have hm := heap_head_min h h0
  cases ns with
  | nil => simp at h0
  | cons a r =>
    have ha : nth (a :: r) 0 = a := rfl
    rw [ha] at hm ⊢
    rw [sortI_cons (List.Perm.refl (a :: r)) hm]; rfl
theorem ix0 {n : Nat} (h : 0 < n) : ix n 0 = some 0 := by
  rw [show (0 : Int) = ((0 : Nat) : Int) from rfl, ix_nat, if_pos h]
section
variable {σ : S}
theorem MW_get0 {l : Nat} {ns : List Int} {Q : V → S → Prop} (h : σ.st[l]? = some (.lst (ns.map V.int))) (h0 : 0 < ns.length) : MW (getI (.obj l) (.int 0)) σ Q ↔ Q (.int (nth ns 0)) σ := by
  rw [← nthV h0]
  exact MW_getI h (j := 0) (ix0 (by simpa using h0)) (nth_eq (by simpa using h0))
end

end Mine


/-! part H7 -/
set_option autoImplicit false
set_option maxRecDepth 100000
set_option linter.unusedVariables false
set_option linter.unusedSimpArgs false
open PySem PySem.W PyProof.Rows
namespace Mine

theorem MW_loopC {nxt : S → Nat → Option (Option V)} {t : V → M Unit} {c : M Bool} {mi : M Unit} {Q : Unit → S → Prop} (N : Nat) (I : Nat → S → Prop)
    (hend : ∀ σ, I N σ → nxt σ N = some none ∧ Q () σ)
    (h : ∀ i σ, i < N → I i σ → ∃ v, nxt σ i = some (some v) ∧ MW (t v) σ (fun _ σ₁ => MW c σ₁ (fun b σ₂ => if b = true then MW mi σ₂ (fun _ σ₃ => I (i + 1) σ₃) else I (i + 1) σ₂)))
    (n : Nat) (σ : S) (hn : N < n) (h0 : I 0 σ) : MW (loopC n t c mi nxt) σ Q := by
  unfold loopC
  rw [MW_bind]
  refine MW_for (Q := fun _ σ' => MW (pure ()) σ' Q) N I (fun σ hI => ⟨(hend σ hI).1, MW_pure.mpr (hend σ hI).2⟩) ?_ n 0 σ (Nat.zero_le _) (by omega) h0
  intro i σ hi hI
  obtain ⟨v, e, hw⟩ := h i σ hi hI
  refine ⟨v, e, hw.mono fun _ σ₁ h1 => ?_⟩
  unfold compB
  rw [MW_bind]
  refine h1.mono fun b σ₂ h2 => ?_
  cases b with
  | true =>
    simp only [if_true] at h2 ⊢
    rw [MW_bind]
    exact h2.mono fun _ σ₃ h3 => MW_pure.mpr h3
  | false =>
    simp only [Bool.false_eq_true, if_false] at h2 ⊢
    exact MW_pure.mpr h2

theorem MW_compTail {free : List String} {mc : Nat → (S → Nat → Option (Option V)) → M Unit} {v : V} {σ : S} {Q : V → S → Prop} (hok : okIter v σ = .ok () σ)
    (h : MW (mc σ.st.length (nxtOf v)) ⟨σ.st ++ [.lst []], restr free σ.lo⟩ (fun _ σ' => Q (.obj σ.st.length) ⟨σ'.st, σ.lo⟩)) : MW (compTail free mc v) σ Q := by
  obtain ⟨u, σ', e, q⟩ := h
  refine ⟨.obj σ.st.length, ⟨σ'.st, σ.lo⟩, ?_, q⟩
  unfold compTail
  rw [hok]
  dsimp only
  rw [e]

def Agree (st st' : Store) : Prop := ∀ k, k < st.length → st'[k]? = st[k]?

theorem MW_appendAt {l : Nat} {vs : List V} {v : V} {σ : S} {Q : Unit → S → Prop} (h : σ.st[l]? = some (.lst vs)) (hl : l ≠ 0) (hn : vs.length < 1000000) (q : Q () ⟨σ.st.set l (.lst (vs ++ [v])), σ.lo⟩) : MW (appendAt l v) σ Q := by
  unfold appendAt
  rw [MW_bind]
  exact (MW_append h hl hn).mpr (MW_pure.mpr q)

/-- a comprehension whose tests and items leave the store alone -/
theorem MW_compPure {free : List String} {mc : Nat → (S → Nat → Option (Option V)) → M Unit} {t : V → M Unit} {c : M Bool} {e : M V} {n : Nat} {v0 : V} {us : List V} {σ : S} {Q : V → S → Prop} (g : V → Option V)
    (hmc : ∀ l nxt, mc l nxt = loopC n t c (do let v ← e; appendAt l v) nxt)
    (hok : okIter v0 σ = .ok () σ) (h0 : 0 < σ.st.length) (hnx : ∀ σ' i, Agree σ.st σ'.st → nxtOf v0 σ' i = some us[i]?) (hn : us.length < n) (hn2 : us.length < 1000000)
    (h : ∀ v ∈ us, ∀ σ', Agree σ.st σ'.st → (∀ x ∈ free, σ'.lo x = σ.lo x) → MW (t v) σ' (fun _ σ₁ => σ₁.st = σ'.st ∧ (∀ x ∈ free, σ₁.lo x = σ'.lo x) ∧
      MW c σ₁ (fun b σ₂ => σ₂ = σ₁ ∧ (match g v with | none => b = false | some w => b = true ∧ MW e σ₁ (fun u σ₃ => u = w ∧ σ₃ = σ₁)))))
    (q : ∀ k st', Pres [] σ.st st' → σ.st.length ≤ k → st'[k]? = some (.lst (us.filterMap g)) → Q (.obj k) ⟨st', σ.lo⟩) : MW (compTail free mc v0) σ Q := by
  refine MW_compTail hok ?_
  rw [hmc]
  refine MW_loopC us.length (fun i σ' => σ'.st = σ.st ++ [.lst ((us.take i).filterMap g)] ∧ ∀ x ∈ free, σ'.lo x = σ.lo x) ?_ ?_ n _ hn ⟨by simp, fun x hx => by simp only [restr, if_pos hx]⟩
  · rintro σ' ⟨e1, _⟩
    refine ⟨?_, ?_⟩
    · rw [hnx σ' _ (by rw [e1]; intro k hk; exact List.getElem?_append_left hk)]; simp
    · rw [e1, List.take_length]
      exact q _ _ (Pres.app ..) (Nat.le_refl _) List.getElem?_concat_length
  · rintro i σ' hi ⟨e1, e2⟩
    have hag : Agree σ.st σ'.st := by rw [e1]; intro k hk; exact List.getElem?_append_left hk
    refine ⟨us[i], by rw [hnx σ' i hag, List.getElem?_eq_getElem hi], ?_⟩
    refine (h us[i] (List.getElem_mem hi) σ' hag e2).mono fun _ σ₁ h1 => ?_
    obtain ⟨e3, e4, h2⟩ := h1
    refine h2.mono fun b σ₂ h3 => ?_
    obtain ⟨rfl, h3⟩ := h3
    have htake : us.take (i + 1) = us.take i ++ [us[i]] := by rw [List.take_add_one, List.getElem?_eq_getElem hi]; rfl
    cases hg : g us[i] with
    | none =>
      rw [hg] at h3
      simp only at h3
      subst h3
      simp only [Bool.false_eq_true, if_false]
      refine ⟨?_, fun x hx => (e4 x hx).trans (e2 x hx)⟩
      rw [e3, e1, htake, List.filterMap_append]
      simp [hg]
    | some w =>
      rw [hg] at h3
      obtain ⟨rfl, h4⟩ := h3
      simp only [if_true]
      rw [MW_bind]
      refine h4.mono fun u σ₃ h5 => ?_
      obtain ⟨rfl, rfl⟩ := h5
      have hlt : ((us.take i).filterMap g).length < 1000000 := by
        have h6 := List.length_filterMap_le g (us.take i)
        rw [List.length_take] at h6
        omega
      have hst : σ₃.st = σ.st ++ [.lst ((us.take i).filterMap g)] := e3.trans e1
      refine MW_appendAt (by rw [hst]; exact List.getElem?_concat_length) (by omega) hlt ⟨?_, fun x hx => (e4 x hx).trans (e2 x hx)⟩
      dsimp only
      rw [hst, htake, List.filterMap_append, List.set_append_right _ _ (Nat.le_refl _)]
      simp [hg]

theorem nxt_obj {l : Nat} {vs : List V} {st : Store} (h : st[l]? = some (.lst vs)) : ∀ (σ' : S) i, Agree st σ'.st → nxtOf (.obj l) σ' i = some vs[i]? := by
  intro σ' i hag
  have : σ'.st[l]? = some (.lst vs) := (hag l (lt_of_get h)).trans h
  show (match σ'.st[l]? with | some (.lst vs) => some vs[i]? | _ => none) = _
  rw [this]
theorem ok_rng {a b c : Int} {σ : S} (h : Builtin.Range.small a b c = true) : okIter (.rng a b c) σ = .ok () σ := by simp only [okIter, h, if_true]
theorem ok_obj {l : Nat} {vs : List V} {σ : S} (h : σ.st[l]? = some (.lst vs)) : okIter (.obj l) σ = .ok () σ := chkL_ok h

end Mine


/-! part H8 -/
set_option autoImplicit false
set_option maxRecDepth 100000
set_option linter.unusedVariables false
set_option linter.unusedSimpArgs false
open PySem PySem.W PyProof.Rows
namespace Mine

section
variable {σ : S}
theorem MW_unpack {n : Nat} {m : List V → M Unit} {vs : List V} {Q : Unit → S → Prop} (h : vs.length = n) : MW (unpackT n m (.tup vs)) σ Q ↔ MW (m vs) σ Q := by
  unfold unpackT; dsimp only; rw [if_pos h]
theorem MW_unpack2 {m : List V → M Unit} {a b : V} {Q : Unit → S → Prop} : MW (unpackT 2 m (.tup [a, b])) σ Q ↔ MW (m [a, b]) σ Q := MW_unpack rfl
theorem MW_unpack3 {m : List V → M Unit} {a b c : V} {Q : Unit → S → Prop} : MW (unpackT 3 m (.tup [a, b, c])) σ Q ↔ MW (m [a, b, c]) σ Q := MW_unpack rfl
theorem MW_consT {m : V → M Unit} {ms : List V → M Unit} {v : V} {vs : List V} {Q : Unit → S → Prop} : MW (consT m ms (v :: vs)) σ Q ↔ MW (m v) σ (fun _ σ' => MW (ms vs) σ' Q) := by
  show MW (m v >>= fun _ => ms vs) σ Q ↔ _
  rw [MW_bind]
theorem MW_sum {l : Nat} {ns : List Int} {Q : V → S → Prop} (h : σ.st[l]? = some (.lst (ns.map V.int))) : MW (sumB [.obj l]) σ Q ↔ Q (.int ns.sum) σ := by
  refine MW_fun_ok ?_
  simp only [sumB, h, intsOf_map]
theorem MW_mulL' {l : Nat} {k : Int} {vs : List V} {Q : V → S → Prop} (h : σ.st[l]? = some (.lst vs)) (hk : 0 ≤ k ∧ k < 1000 ∧ vs.length < 1000)
    (q : ∀ j st', Pres [] σ.st st' → σ.st.length ≤ j → st'[j]? = some (.lst (List.replicate k.toNat vs).flatten) → Q (.obj j) ⟨st', σ.lo⟩) : MW (mulLV (.obj l) (.int k)) σ Q := by
  refine (MW_fun_ok (a := .obj σ.st.length) (σ' := { σ with st := σ.st ++ [.lst (List.replicate k.toNat vs).flatten] }) ?_).mpr (q _ _ (Pres.app ..) (Nat.le_refl _) List.getElem?_concat_length)
  simp only [mulLV, h, if_pos hk]
theorem nxt_objI {l : Nat} {vs : List V} (h : σ.st[l]? = some (.lst vs)) (i : Nat) : nxtOf (.obj l) σ i = some vs[i]? := by
  show (match σ.st[l]? with | some (.lst vs) => some vs[i]? | _ => none) = _
  rw [h]
theorem MW_okL {l : Nat} {vs : List V} {Q : Unit → S → Prop} (h : σ.st[l]? = some (.lst vs)) : MW (okIter (.obj l)) σ Q ↔ Q () σ := MW_fun_ok (ok_obj h)
end

/-! ### ranges -/
theorem rngS_pos {a b c : Int} (hc : 0 < c) : Builtin.Range.rangeSize a b c = if a < b then (b - a - 1) / c + 1 else 0 := by
  unfold Builtin.Range.rangeSize; rw [if_pos hc]
theorem rngU_small {a b c : Int} (ha : -100000 ≤ a ∧ a ≤ 100000) (hb : -100000 ≤ b ∧ b ≤ 100000) (hc : 0 < c ∧ c ≤ 100000) : Builtin.Range.small a b c = true := by
  have hz : 0 ≤ Builtin.Range.rangeSize a b c ∧ Builtin.Range.rangeSize a b c ≤ 300000 := by
    refine ⟨rangeSize_nonneg a b c, ?_⟩
    rw [rngS_pos hc.1]
    split
    · have := Int.ediv_le_self (a := b - a - 1) c (by omega)
      omega
    · omega
  unfold Builtin.Range.small
  simp only [Bool.and_eq_true]
  refine ⟨⟨⟨⟨fits_of (by omega), fits_of (by omega)⟩, fits_of (by omega)⟩, fits_of (by omega)⟩, ?_⟩
  simp only [Bool.or_eq_true]
  right
  rw [if_pos (by omega)]
  exact fits_of (by omega)
/-- range(a, b) as a list -/
theorem nxt_rngU {a b : Int} {n : Nat} (σ : S) (i : Nat) (hn : n = (b - a).toNat) : nxtOf (.rng a b 1) σ i = some ((List.range n).map fun (j : Nat) => V.int (a + j))[i]? := by
  rw [nxt_rng]
  have h1 := rngLen_eq a b 1
  rw [rngS_pos (by omega)] at h1
  have : rngLen a b 1 = n := by split at h1 <;> omega
  rw [this]
  by_cases hi : i < n
  · rw [if_pos hi]; simp [hi]
  · rw [if_neg hi, List.getElem?_eq_none (by simp; omega)]

/-! ### sorted of tuples of ints -/
theorem map_getD {α : Type} (d : α) (xs : List α) : (List.range xs.length).map (fun i => xs.getD i d) = xs := by
  apply List.ext_getElem
  · simp
  · intro i h1 h2
    simp [List.getD_eq_getElem?_getD, List.getElem?_eq_getElem h2]
theorem sortTup_ix (rev : Bool) (ts : List (List Int)) (us : List V) (hl : ts.length = us.length) : ∃ is : List Nat, is.Perm (List.range us.length) ∧ sortTup rev ts us = is.map (fun i => us.getD i .none) ∧
    is.Pairwise (fun i j => if rev = true then lexB (ts.getD i []) (ts.getD j []) = false else lexB (ts.getD j []) (ts.getD i []) = false) := by
  by_cases h2 : us.length < 2
  · refine ⟨List.range us.length, List.Perm.refl _, ?_, ?_⟩
    · unfold sortTup; rw [if_pos h2, map_getD]
    · match hu : us.length, h2 with
      | 0, _ => simp
      | 1, _ => simp [List.range_succ]
  · unfold sortTup
    rw [if_neg h2]
    cases rev with
    | false =>
      have hA := askT_ok ts us.length
      obtain ⟨a1, a2, a3⟩ := sort_ok hA (by omega)
      refine ⟨(krun (askT ts) (kas_sort us.length)).toList, a2, by simp [sortV], ?_⟩
      have hlt := sort_lt hA (by omega)
      refine (List.Pairwise.and_mem.mp a3).imp ?_
      rintro i j ⟨hi, hj, h⟩
      simp only [Bool.false_eq_true, if_false]
      exact bf.not hA (hlt i hi) (hlt j hj) h
    | true =>
      have hA := askT_ok ts.reverse us.length
      obtain ⟨a1, a2, a3⟩ := sort_ok hA (by omega)
      have hlt := sort_lt hA (by omega)
      rw [if_pos rfl]
      refine ⟨((krun (askT ts.reverse) (kas_sort us.length)).toList.map (fun i => us.length - 1 - i)).reverse, ?_, ?_, ?_⟩
      · refine (List.reverse_perm _).trans ((a2.map _).trans ?_)
        have : (List.range us.length).map (fun i => us.length - 1 - i) = (List.range us.length).reverse := by
          apply List.ext_getElem
          · simp
          · intro i h1 h2; simp
        rw [this]; exact List.reverse_perm _
      · unfold sortV
        rw [List.length_reverse, List.map_reverse, List.map_map]
        congr 1
        refine List.map_congr_left fun i hi => ?_
        exact getD_rev (hlt i hi)
      · rw [List.pairwise_reverse, List.pairwise_map]
        refine (List.Pairwise.and_mem.mp a3).imp ?_
        rintro i j ⟨hi, hj, h⟩
        simp only [if_true]
        have := bf.not hA (hlt i hi) (hlt j hj) h
        unfold askT at this
        rw [getD_rev (by rw [hl]; exact hlt j hj), getD_rev (by rw [hl]; exact hlt i hi), hl] at this
        exact this
theorem sortTup_map {α : Type} (d : α) (rev : Bool) (f : α → V) (g : α → List Int) (ws : List α) : ∃ ws' : List α, sortTup rev (ws.map g) (ws.map f) = ws'.map f ∧ ws'.Perm ws ∧
    ws'.Pairwise (fun a b => if rev = true then lexB (g a) (g b) = false else lexB (g b) (g a) = false) := by
  obtain ⟨is, p, e, s⟩ := sortTup_ix rev (ws.map g) (ws.map f) (by simp)
  have hlt : ∀ i ∈ is, i < ws.length := by
    intro i hi
    have := p.mem_iff.mp hi
    simpa using this
  have hg : ∀ {β : Type} (h : α → β) (d' : β) i, i < ws.length → (ws.map h).getD i d' = h (ws.getD i d) := by
    intro β h d' i hi
    simp [List.getD_eq_getElem?_getD, List.getElem?_eq_getElem hi]
  refine ⟨is.map fun i => ws.getD i d, ?_, ?_, ?_⟩
  · rw [e, List.map_map]
    exact List.map_congr_left fun i hi => hg f _ i (hlt i hi)
  · have := p.map (fun i => ws.getD i d)
    rw [List.length_map, map_getD] at this
    exact this
  · rw [List.pairwise_map]
    refine (List.Pairwise.and_mem.mp s).imp ?_
    rintro i j ⟨hi, hj, h⟩
    rw [hg g _ i (hlt i hi), hg g _ j (hlt j hj)] at h
    exact h
section
variable {σ : S}
theorem MW_sortedX' {l : Nat} {vs : List V} {ts : List (List Int)} {rev : Bool} {Q : V → S → Prop} (h : σ.st[l]? = some (.lst vs)) (ht : tupsOf vs = some ts) (hn : vs.length < 64)
    (q : ∀ j st', Pres [] σ.st st' → σ.st.length ≤ j → st'[j]? = some (.lst (sortTup rev ts vs)) → Q (.obj j) ⟨st', σ.lo⟩) : MW (sortedX rev [.obj l]) σ Q := by
  refine (MW_fun_ok (a := .obj σ.st.length) (σ' := { σ with st := σ.st ++ [.lst (sortTup rev ts vs)] }) ?_).mpr (q _ _ (Pres.app ..) (Nat.le_refl _) List.getElem?_concat_length)
  simp only [sortedX, h, ht, if_pos hn]
theorem MW_sorted2T {l : Nat} {vs : List V} {ts : List (List Int)} {Q : V → S → Prop} (h : σ.st[l]? = some (.lst vs)) (ht : tupsOf vs = some ts) (hn : vs.length < 64)
    (q : ∀ j st', Pres [] σ.st st' → σ.st.length ≤ j → st'[j]? = some (.lst (sortTup false ts vs)) → Q (.obj j) ⟨st', σ.lo⟩) : MW (sortedB2 [.obj l]) σ Q := by
  cases vs with
  | nil =>
    refine (MW_fun_ok (a := .obj σ.st.length) (σ' := { σ with st := σ.st ++ [.lst []] }) ?_).mpr ?_
    · have hnil : sortI [] = [] := List.eq_nil_of_length_eq_zero ((sortI_perm []).length_eq)
      simp [sortedB2, orB, sortedB, h, intsOf, hnil]
    · have : sortTup false ts [] = [] := by unfold sortTup; rfl
      rw [this] at q
      exact q _ _ (Pres.app ..) (Nat.le_refl _) List.getElem?_concat_length
  | cons v vs =>
    refine (MW_fun_ok (a := .obj σ.st.length) (σ' := { σ with st := σ.st ++ [.lst (sortTup false ts (v :: vs))] }) ?_).mpr (q _ _ (Pres.app ..) (Nat.le_refl _) List.getElem?_concat_length)
    have : intsOf (v :: vs) = none := by
      cases v with
      | int i => simp [tupsOf, mapO, tupInts] at ht
      | _ => rfl
    simp only [sortedB2, orB, sortedB, h, this, sortedX, ht, if_pos hn]
end
theorem tupsOf_map {α : Type} (f : α → V) (g : α → List Int) (h : ∀ a, tupInts (f a) = some (g a)) : ∀ ws : List α, tupsOf (ws.map f) = some (ws.map g)
  | [] => rfl
  | a :: ws => by
    show mapO tupInts (f a :: ws.map f) = _
    unfold mapO
    have ih := tupsOf_map f g h ws
    unfold tupsOf at ih
    rw [h, ih]; rfl

/-! ### heappushpop -/
theorem heappushpop_spec {P : V → Prop} {lt : V → V → Bool} {st : Store} {l : Nat} {vs : List V} {x : V} (hl : st[l]? = some (.lst vs)) (hl0 : l ≠ 0) (hn : vs.length ≤ 4000) (hP : ∀ a ∈ vs, P a) (hx : P x) (hlt : LtAtL st l P lt) :
    f_heappushpop [.obj l, x] st = if 0 < vs.length ∧ lt (nth vs 0) x = true then .ok (nth vs 0) (st.set l (.lst (su lt (vs.set 0 x) 0))) else .ok x st := by
  have key : MW heappushpop_m ⟨st, bindP ["heap", "item"] [.obj l, x]⟩ (fun f σ' => if 0 < vs.length ∧ lt (nth vs 0) x = true then (match f with | .ret u => u | _ => .none) = nth vs 0 ∧ σ'.st = st.set l (.lst (su lt (vs.set 0 x) 0)) else (match f with | .ret u => u | _ => .none) = x ∧ σ'.st = st) := by
    unfold heappushpop_m
    simp only [MW_seq, MW_bind, MW_getv, MW_pure, MW_setv, bindP, put_lo, put_st, String.reduceEq, if_true, if_false, Option.some.injEq, exists_eq_left']
    refine (MW_truL (by exact hl)).mpr ?_
    by_cases h0 : 0 < vs.length
    · have he : vs.isEmpty = false := by cases vs with | nil => simp at h0 | cons a b => rfl
      simp only [he, Bool.not_false, if_true, MW_bind, MW_getv, MW_pure, bindP, String.reduceEq, if_false, Option.some.injEq, exists_eq_left']
      refine (MW_getI (by exact hl) (j := 0) (ix0 h0) (nth_eq h0)).mpr ?_
      simp only [if_true, MW_bind, MW_getv, MW_pure, bindP, String.reduceEq, if_false, Option.some.injEq, exists_eq_left']
      refine (MW_ltP (ws := vs) hlt (by exact (set_id hl).symm) (hP _ (nth_mem h0)) hx).mpr ?_
      rw [MW_tru]
      cases hb : lt (nth vs 0) x with
      | false =>
        simp only [Bool.false_eq_true, if_false, MW_pure, and_false, MW_getv, MW_bind, bindP, String.reduceEq, if_true, Option.some.injEq, exists_eq_left']
        exact ⟨trivial, trivial⟩
      | true =>
        simp only [if_true, MW_pure, MW_seq, MW_bind, MW_getv, bindP, String.reduceEq, if_false, Option.some.injEq, exists_eq_left', h0, true_and]
        refine (MW_getI (by exact hl) (j := 0) (ix0 h0) (nth_eq h0)).mpr ?_
        simp only [if_true, MW_pure, MW_seq, MW_bind, MW_getv, bindP, String.reduceEq, if_false, Option.some.injEq, exists_eq_left']
        refine (MW_mkT (by simp)).mpr ?_
        rw [MW_unpack2, MW_consT, MW_setv, MW_consT]
        simp only [MW_bind, MW_getv, MW_pure, put_lo, String.reduceEq, if_true, if_false, bindP, Option.some.injEq, exists_eq_left']
        refine (MW_setI (j := 0) (by exact hl) hl0 rfl h0).mpr ?_
        simp only [MW_bind, MW_getv, MW_pure, put_lo, put_st, String.reduceEq, if_true, if_false, bindP, Option.some.injEq, exists_eq_left']
        refine (MW_callF (by
          show f_siftup [.obj l, .int ((0 : Nat) : Int)] (st.set l (.lst (vs.set 0 x))) = _
          exact siftup_spec (set_get hl) hl0 (by rw [List.length_set]; exact h0) (by rw [List.length_set]; omega) (all_set hP hx) (hlt.set _))).mpr ?_
        simp only [put_lo, put_st, String.reduceEq, if_true, if_false, Option.some.injEq, exists_eq_left', bindP]
        refine ⟨trivial, ?_⟩
        rw [List.set_set]
    · have he : vs.isEmpty = true := by cases vs with | nil => rfl | cons a b => simp at h0
      simp only [he, Bool.not_true, Bool.false_eq_true, if_false, MW_pure, h0, false_and, MW_getv, MW_bind, bindP, String.reduceEq, if_true, Option.some.injEq, exists_eq_left']
      exact ⟨trivial, trivial⟩
  split
  · rename_i hc
    refine funM_of rfl (key.mono fun f σ' h => ?_)
    rw [if_pos hc] at h; exact h
  · rename_i hc
    refine funM_of rfl (key.mono fun f σ' h => ?_)
    rw [if_neg hc] at h; exact h
theorem su0_heap {P : V → Prop} {lt : V → V → Bool} (O : SWO P lt) {vs : List V} {x : V} (hP : ∀ a ∈ vs, P a) (hx : P x) (h0 : 0 < vs.length) (hh : HeapFrom lt 0 vs) : HeapFrom lt 0 (su lt (vs.set 0 x) 0) := by
  refine su_heap O _ 0 (all_set hP hx) (by rw [List.length_set]; exact h0) ?_
  intro j h1 h2 h3
  rw [List.length_set] at h2
  rw [nth_set_ne (by omega), nth_set_ne (by omega)]
  exact hh j h1 h2 (by omega)
theorem hpp_int_spec {st : Store} {l : Nat} {ns : List Int} {x : Int} (hl : st[l]? = some (.lst (ns.map V.int))) (hl0 : l ≠ 0) (hn : ns.length ≤ 4000) (h0 : 0 < ns.length) (hh : HpI ns) :
    ∃ m ms, f_heappushpop [.obj l, .int x] st = .ok (.int m) (st.set l (.lst (ms.map V.int))) ∧ (m :: ms).Perm (x :: ns) ∧ HpI ms ∧ ∀ y ∈ x :: ns, m ≤ y := by
  have sp := heappushpop_spec (P := IsI) (lt := ltI) (x := .int x) hl hl0 (by simpa using hn) isI_map ⟨x, rfl⟩ (ltAt_int st l)
  have hmin := heap_head_min hh h0
  have e0 : nth (ns.map V.int) 0 = .int (nth ns 0) := nthV h0
  rw [e0] at sp
  simp only [ltI, List.length_map, h0, true_and, decide_eq_true_eq] at sp
  by_cases hc : nth ns 0 < x
  · rw [if_pos hc] at sp
    have hp := su_perm ltI ((ns.map V.int).set 0 (.int x)) 0 (by simpa using h0)
    obtain ⟨ms, hms⟩ := ints_of_isI (vs := su ltI ((ns.map V.int).set 0 (.int x)) 0) fun a ha => all_set (isI_map (ns := ns)) ⟨x, rfl⟩ a (hp.mem_iff.mp ha)
    refine ⟨nth ns 0, ms, by rw [sp, hms], ?_, ?_, ?_⟩
    · rw [hms] at hp
      have e : (ns.map V.int).set 0 (.int x) = (ns.set 0 x).map V.int := by rw [List.map_set]
      rw [e] at hp
      have h1 := perm_ints hp
      refine (List.Perm.cons _ h1).trans ?_
      cases ns with
      | nil => simp at h0
      | cons a r => exact List.Perm.swap _ _ _
    · have := su0_heap swo_int (isI_map (ns := ns)) (x := .int x) ⟨x, rfl⟩ (by simpa using h0) hh
      rw [hms] at this; exact this
    · intro y hy
      rcases List.mem_cons.mp hy with rfl | h
      · omega
      · exact hmin y h
  · rw [if_neg hc] at sp
    refine ⟨x, ns, by rw [sp, set_id hl], List.Perm.refl _, hh, ?_⟩
    intro y hy
    rcases List.mem_cons.mp hy with rfl | h
    · omega
    · have := hmin y h; omega

end Mine


/-! part P08 -/
set_option autoImplicit false
set_option linter.unusedVariables false
namespace Mine

/-! ### works and hours -/
/-- how many of the hours lie above t -/
def above (hs : List Nat) (t : Nat) : Nat := (hs.filter fun h => decide (t < h)).length
/-- c is the least of t + (hours above t) -/
def Least (hs : List Nat) (c : Nat) : Prop := (∀ t, c ≤ t + above hs t) ∧ ∃ t, c = t + above hs t
theorem Least.eq {hs : List Nat} {c d : Nat} (h1 : Least hs c) (h2 : Least hs d) : c = d := by
  obtain ⟨a1, t1, e1⟩ := h1
  obtain ⟨a2, t2, e2⟩ := h2
  have := a1 t2
  have := a2 t1
  omega
theorem above_append (as bs : List Nat) (t : Nat) : above (as ++ bs) t = above as t + above bs t := by
  unfold above; rw [List.filter_append, List.length_append]
theorem above_one (h t : Nat) : above [h] t = if t < h then 1 else 0 := by
  unfold above; by_cases e : t < h <;> simp [e]
theorem above_zero {hs : List Nat} {t : Nat} (h : ∀ x ∈ hs, x ≤ t) : above hs t = 0 := by
  unfold above
  rw [List.filter_eq_nil_iff.mpr (by intro x hx; have := h x hx; simp; omega)]; rfl
theorem above_perm {as bs : List Nat} (p : as.Perm bs) (t : Nat) : above as t = above bs t := (p.filter _).length_eq
theorem Least.perm {as bs : List Nat} {c : Nat} (h : Least as c) (p : as.Perm bs) : Least bs c := by
  obtain ⟨a, t, e⟩ := h
  exact ⟨fun t' => by rw [← above_perm p]; exact a t', t, by rw [← above_perm p]; exact e⟩
theorem least_nil : Least [] 0 := ⟨fun t => by omega, 0, by simp [above]⟩
/-- hours in rising order: one more -/
theorem Least.rise {hs : List Nat} {c h : Nat} (hl : Least hs c) (hm : ∀ x ∈ hs, x ≤ h) : Least (hs ++ [h]) (min (c + 1) h) := by
  obtain ⟨a, t, e⟩ := hl
  refine ⟨fun t' => ?_, ?_⟩
  · rw [above_append, above_one]
    have := a t'
    split <;> omega
  · by_cases hc : c + 1 ≤ h
    · refine ⟨t, ?_⟩
      rw [above_append, above_one, if_pos (by omega)]; omega
    · refine ⟨h, ?_⟩
      rw [above_append, above_one, if_neg (by omega), above_zero hm]; omega

/-! the slots 1 to 39 -/
def cnt (n : Nat) (p : Nat → Bool) : Nat := ((List.range' 1 n).filter p).length
theorem cnt_succ (n : Nat) (p : Nat → Bool) : cnt (n + 1) p = cnt n p + (if p (n + 1) = true then 1 else 0) := by
  unfold cnt
  rw [List.range'_concat, List.filter_append, List.length_append]
  congr 1
  have : 1 + 1 * n = n + 1 := by omega
  rw [this]
  by_cases h : p (n + 1) = true <;> simp [h]
theorem cnt_congr {n : Nat} {p q : Nat → Bool} (h : ∀ a, 1 ≤ a → a ≤ n → p a = q a) : cnt n p = cnt n q := by
  induction n with
  | zero => rfl
  | succ n ih => rw [cnt_succ, cnt_succ, ih fun a h1 h2 => h a h1 (by omega), h (n + 1) (by omega) (by omega)]
/-- how many slots above t are filled -/
def fill (fr : Nat → Bool) (t : Nat) : Nat := cnt 39 fun a => decide (t < a) && !fr a
theorem fill_split (fr : Nat → Bool) (t : Nat) : fill fr 0 ≤ t + fill fr t ∧ ((∀ a, 1 ≤ a → a ≤ t → fr a = false) → t ≤ 39 → fill fr 0 = t + fill fr t) := by
  have key : ∀ n, cnt n (fun a => decide (0 < a) && !fr a) ≤ min t n + cnt n (fun a => decide (t < a) && !fr a) ∧
      ((∀ a, 1 ≤ a → a ≤ t → fr a = false) → cnt n (fun a => decide (0 < a) && !fr a) = min t n + cnt n (fun a => decide (t < a) && !fr a)) := by
    intro n
    induction n with
    | zero => simp [cnt]
    | succ n ih =>
      rw [cnt_succ, cnt_succ]
      by_cases ht : t < n + 1
      · have e : ∀ b : Bool, (decide (0 < n + 1) && b) = (decide (t < n + 1) && b) := by intro b; simp [ht]
        simp only [e]
        refine ⟨by have := ih.1; omega, fun h => by have := ih.2 h; omega⟩
      · have e1 : (decide (t < n + 1) && !fr (n + 1)) = false := by simp; omega
        rw [e1]
        refine ⟨?_, fun h => ?_⟩
        · have := ih.1
          split <;> (simp; omega)
        · have h1 := ih.2 h
          have h2 := h (n + 1) (by omega) (by omega)
          rw [h2]
          simp
          omega
  have := key 39
  unfold fill
  exact ⟨by have := this.1; omega, fun h h39 => by have := this.2 h; omega⟩

structure Slots (hs : List Nat) (fr : Nat → Bool) : Prop where
  le : ∀ t, fill fr t ≤ above hs t
  eq : ∀ f, 1 ≤ f → f ≤ 40 → (f < 40 → fr f = true) → fill fr (f - 1) = above hs (f - 1)
theorem least_free (fr : Nat → Bool) : ∃ f, 1 ≤ f ∧ f ≤ 40 ∧ (f < 40 → fr f = true) ∧ ∀ a, 1 ≤ a → a ≤ f - 1 → fr a = false := by
  have key : ∀ n, n ≤ 39 → (∀ a, 1 ≤ a → a ≤ n → fr a = false) ∨ ∃ f, 1 ≤ f ∧ f ≤ n ∧ fr f = true ∧ ∀ a, 1 ≤ a → a ≤ f - 1 → fr a = false := by
    intro n
    induction n with
    | zero => intro _; exact .inl fun a h1 h2 => by omega
    | succ n ih =>
      intro hn
      rcases ih (by omega) with h | ⟨f, h1, h2, h3, h4⟩
      · cases e : fr (n + 1) with
        | true => exact .inr ⟨n + 1, by omega, by omega, e, fun a a1 a2 => h a a1 (by omega)⟩
        | false =>
          refine .inl fun a a1 a2 => ?_
          by_cases ha : a = n + 1
          · subst ha; exact e
          · exact h a a1 (by omega)
      · exact .inr ⟨f, h1, by omega, h3, h4⟩
  rcases key 39 (Nat.le_refl _) with h | ⟨f, h1, h2, h3, h4⟩
  · exact ⟨40, by omega, by omega, fun h => by omega, fun a a1 a2 => h a a1 (by omega)⟩
  · exact ⟨f, h1, by omega, fun _ => h3, h4⟩
theorem Slots.least {hs : List Nat} {fr : Nat → Bool} (h : Slots hs fr) : Least hs (fill fr 0) := by
  refine ⟨fun t => Nat.le_trans (fill_split fr t).1 (Nat.add_le_add_left (h.le t) t), ?_⟩
  obtain ⟨f, f1, f2, f3, f4⟩ := least_free fr
  exact ⟨f - 1, by rw [(fill_split fr (f - 1)).2 f4 (by omega), h.eq f f1 f2 f3]⟩
theorem slots_nil : Slots [] (fun _ => true) := by
  have e : ∀ t, fill (fun _ => true) t = 0 := by
    intro t; unfold fill cnt; simp
  exact ⟨fun t => by rw [e]; omega, fun f _ _ _ => by rw [e]; rfl⟩
/-- no slot is left -/
theorem Slots.none {hs : List Nat} {fr : Nat → Bool} {h : Nat} (sl : Slots hs fr) (hh : h ≤ 39) (hn : ∀ a, 1 ≤ a → a ≤ h → fr a = false) : Slots (hs ++ [h]) fr := by
  refine ⟨fun t => by rw [above_append]; have := sl.le t; omega, fun f f1 f2 f3 => ?_⟩
  rw [above_append, above_one, sl.eq f f1 f2 f3]
  rw [if_neg]
  · omega
  · intro hlt
    by_cases hf : f < 40
    · have := hn f f1 (by omega)
      rw [f3 hf] at this; cases this
    · omega
/-- the latest one is taken -/
def take1 (fr : Nat → Bool) (s : Nat) : Nat → Bool := fun a => if a = s then false else fr a
theorem fill_take {fr : Nat → Bool} {s : Nat} (h1 : 1 ≤ s) (h2 : s ≤ 39) (hf : fr s = true) (t : Nat) : fill (take1 fr s) t = fill fr t + (if t < s then 1 else 0) := by
  unfold fill
  have key : ∀ n, cnt n (fun a => decide (t < a) && !(take1 fr s) a) = cnt n (fun a => decide (t < a) && !fr a) + (if t < s ∧ s ≤ n then 1 else 0) := by
    intro n
    induction n with
    | zero => rw [if_neg (by omega)]; rfl
    | succ n ih =>
      rw [cnt_succ, cnt_succ, ih]
      by_cases hs : n + 1 = s
      · subst hs
        have e1 : take1 fr (n + 1) (n + 1) = false := by simp [take1]
        rw [e1, hf]
        by_cases ht : t < n + 1
        · simp [ht]
        · simp [ht]
      · have e1 : take1 fr s (n + 1) = fr (n + 1) := by simp [take1, hs]
        rw [e1]
        have e2 : (if t < s ∧ s ≤ n + 1 then 1 else 0) = (if t < s ∧ s ≤ n then 1 else 0) := by
          by_cases ht : t < s ∧ s ≤ n
          · rw [if_pos ht, if_pos ⟨ht.1, by omega⟩]
          · rw [if_neg ht, if_neg (by omega)]
        rw [e2]; omega
  rw [key 39]
  by_cases ht : t < s
  · rw [if_pos ⟨ht, h2⟩, if_pos ht]
  · rw [if_neg (by omega), if_neg ht]
theorem Slots.take {hs : List Nat} {fr : Nat → Bool} {h s : Nat} (sl : Slots hs fr) (h1 : 1 ≤ s) (h2 : s ≤ h) (hh : h ≤ 39) (hf : fr s = true) (hl : ∀ a, s < a → a ≤ h → fr a = false) : Slots (hs ++ [h]) (take1 fr s) := by
  refine ⟨fun t => ?_, fun f f1 f2 f3 => ?_⟩
  · rw [fill_take h1 (by omega) hf, above_append, above_one]
    have := sl.le t
    split <;> split <;> omega
  · have f3' : f < 40 → fr f = true ∧ f ≠ s := by
      intro hf'
      have := f3 hf'
      unfold take1 at this
      by_cases e : f = s
      · rw [if_pos e] at this; cases this
      · rw [if_neg e] at this; exact ⟨this, e⟩
    rw [fill_take h1 (by omega) hf, above_append, above_one, sl.eq f f1 f2 (fun q => (f3' q).1)]
    congr 1
    by_cases hfh : f ≤ h
    · have hfs : f < s := by
        by_cases e : s < f
        · have := hl f e hfh
          rw [(f3' (by omega)).1] at this; cases this
        · have := (f3' (by omega)).2; omega
      rw [if_pos (by omega), if_pos (by omega)]
    · rw [if_neg (by omega), if_neg (by omega)]

/-! ### both ways keep the same worths -/
def gt (ns : List Int) (θ : Int) : Nat := (ns.filter fun x => decide (θ < x)).length
/-- the hours of the works (hour, worth) that are worth more than θ -/
def hrs (ws : List (Nat × Int)) (θ : Int) : List Nat := (ws.filter fun p => decide (θ < p.2)).map (·.1)
theorem gt_append (as bs : List Int) (θ : Int) : gt (as ++ bs) θ = gt as θ + gt bs θ := by unfold gt; rw [List.filter_append, List.length_append]
theorem gt_one (x θ : Int) : gt [x] θ = if θ < x then 1 else 0 := by unfold gt; by_cases e : θ < x <;> simp [e]
theorem gt_perm {as bs : List Int} (p : as.Perm bs) (θ : Int) : gt as θ = gt bs θ := (p.filter _).length_eq
theorem gt_le (as : List Int) (θ : Int) : gt as θ ≤ as.length := List.length_filter_le _ _
theorem gt_cons (x : Int) (as : List Int) (θ : Int) : gt (x :: as) θ = (if θ < x then 1 else 0) + gt as θ := by
  rw [show x :: as = [x] ++ as from rfl, gt_append, gt_one]
theorem gt_all {as : List Int} {θ : Int} (h : ∀ x ∈ as, θ < x) : gt as θ = as.length := by
  unfold gt; rw [List.filter_eq_self.mpr (by intro x hx; simpa using h x hx)]
theorem gt_lt_of {as : List Int} {θ x : Int} (hx : x ∈ as) (h : ¬ θ < x) : gt as θ < as.length := by
  have h1 : gt as θ ≤ as.length := gt_le as θ
  rcases Nat.lt_or_ge (gt as θ) as.length with h2 | h2
  · exact h2
  · have h3 : (as.filter fun x => decide (θ < x)).length = as.length := by unfold gt at *; omega
    have := (List.filter_eq_self).mp (List.filter_sublist.eq_of_length h3) x hx
    simp at this; exact absurd this h
theorem hrs_append (as bs : List (Nat × Int)) (θ : Int) : hrs (as ++ bs) θ = hrs as θ ++ hrs bs θ := by unfold hrs; rw [List.filter_append, List.map_append]
theorem hrs_one (p : Nat × Int) (θ : Int) : hrs [p] θ = if θ < p.2 then [p.1] else [] := by unfold hrs; by_cases e : θ < p.2 <;> simp [e]
theorem hrs_perm {as bs : List (Nat × Int)} (p : as.Perm bs) (θ : Int) : (hrs as θ).Perm (hrs bs θ) := (p.filter _).map _

/-- the heap's way: what it holds after the works ws -/
def WayA (ws : List (Nat × Int)) (ns : List Int) : Prop := ∀ θ, Least (hrs ws θ) (gt ns θ)
/-- behind a work (h, w) of an hour not less than those before -/
theorem WayA.push {ws : List (Nat × Int)} {ns ns' : List Int} {h : Nat} {w : Int} (a : WayA ws ns) (hm : ∀ p ∈ ws, p.1 ≤ h) (hn : ns.length < h) (hp : ns'.Perm (ns ++ [w])) : WayA (ws ++ [(h, w)]) ns' := by
  intro θ
  rw [hrs_append, hrs_one, gt_perm hp, gt_append, gt_one]
  by_cases hw : θ < w
  · rw [if_pos hw, if_pos hw]
    have h1 := (a θ).rise (h := h) (by
      intro x hx
      obtain ⟨p, hp', rfl⟩ := List.mem_map.mp hx
      exact hm p (List.mem_filter.mp hp').1)
    have : min (gt ns θ + 1) h = gt ns θ + 1 := by have := gt_le ns θ; omega
    rw [this] at h1
    exact h1
  · rw [if_neg hw, if_neg hw, List.append_nil]
    exact a θ
theorem WayA.pushpop {ws : List (Nat × Int)} {ns ns' : List Int} {h : Nat} {w m : Int} (a : WayA ws ns) (hm : ∀ p ∈ ws, p.1 ≤ h) (hn : ns.length = h) (hp : (m :: ns').Perm (w :: ns)) (hmin : ∀ x ∈ w :: ns, m ≤ x) : WayA (ws ++ [(h, w)]) ns' := by
  intro θ
  rw [hrs_append, hrs_one]
  have hg : (if θ < m then 1 else 0) + gt ns' θ = (if θ < w then 1 else 0) + gt ns θ := by
    rw [← gt_cons, ← gt_cons]; exact gt_perm hp θ
  have hmw := hmin w List.mem_cons_self
  by_cases hw : θ < w
  · rw [if_pos hw] at hg ⊢
    have h1 := (a θ).rise (h := h) (by
      intro x hx
      obtain ⟨p, hp', rfl⟩ := List.mem_map.mp hx
      exact hm p (List.mem_filter.mp hp').1)
    have h2 := gt_le ns θ
    by_cases hθm : θ < m
    · have : gt ns θ = ns.length := gt_all fun x hx => by have := hmin x (List.mem_cons_of_mem _ hx); omega
      rw [if_pos hθm] at hg
      have e : min (gt ns θ + 1) h = gt ns' θ := by omega
      rw [e] at h1; exact h1
    · rw [if_neg hθm] at hg
      -- the least, at most θ, is one of the old
      have hmem : m ∈ ns := by
        have := hp.mem_iff.mp (List.mem_cons_self (a := m) (l := ns'))
        rcases List.mem_cons.mp this with e | e
        · omega
        · exact e
      have h3 := gt_lt_of hmem hθm
      have e : min (gt ns θ + 1) h = gt ns' θ := by omega
      rw [e] at h1; exact h1
  · rw [if_neg hw] at hg ⊢
    rw [if_neg (by omega)] at hg
    rw [List.append_nil]
    have : gt ns' θ = gt ns θ := by omega
    rw [this]; exact a θ

/-- the slots' way: ws the works so far, C the worths that were done -/
structure WayB (ws : List (Nat × Int)) (C : List Int) (fr : Nat → Bool) : Prop where
  slots : Slots (ws.map (·.1)) fr
  many : C.length = fill fr 0
  sub : ∀ x ∈ C, ∃ p ∈ ws, p.2 = x
  least : ∀ θ, Least (hrs ws θ) (gt C θ)
theorem hrs_all {ws : List (Nat × Int)} {θ : Int} (h : ∀ p ∈ ws, θ < p.2) : hrs ws θ = ws.map (·.1) := by
  unfold hrs; rw [List.filter_eq_self.mpr (by intro p hp; simpa using h p hp)]
theorem WayB.none {ws : List (Nat × Int)} {C : List Int} {fr : Nat → Bool} {h : Nat} {w : Int} (b : WayB ws C fr) (hw : ∀ p ∈ ws, w ≤ p.2) (hh : h ≤ 39) (hn : ∀ a, 1 ≤ a → a ≤ h → fr a = false) : WayB (ws ++ [(h, w)]) C fr := by
  have hs : Slots ((ws ++ [(h, w)]).map (·.1)) fr := by rw [List.map_append]; exact b.slots.none hh hn
  refine ⟨hs, b.many, fun x hx => by obtain ⟨p, hp, e⟩ := b.sub x hx; exact ⟨p, List.mem_append_left _ hp, e⟩, fun θ => ?_⟩
  by_cases hθ : θ < w
  · rw [hrs_all (by
      intro p hp
      rcases List.mem_append.mp hp with h1 | h1
      · have := hw p h1; omega
      · rw [List.mem_singleton.mp h1]; exact hθ)]
    have : gt C θ = fill fr 0 := by
      rw [gt_all, b.many]
      intro x hx
      obtain ⟨p, hp, rfl⟩ := b.sub x hx
      have := hw p hp; omega
    rw [this]; exact hs.least
  · rw [hrs_append, hrs_one, if_neg hθ, List.append_nil]
    exact b.least θ
theorem WayB.take {ws : List (Nat × Int)} {C : List Int} {fr : Nat → Bool} {h s : Nat} {w : Int} (b : WayB ws C fr) (hw : ∀ p ∈ ws, w ≤ p.2) (h1 : 1 ≤ s) (h2 : s ≤ h) (hh : h ≤ 39) (hf : fr s = true) (hl : ∀ a, s < a → a ≤ h → fr a = false) : WayB (ws ++ [(h, w)]) (C ++ [w]) (take1 fr s) := by
  have hs : Slots ((ws ++ [(h, w)]).map (·.1)) (take1 fr s) := by rw [List.map_append]; exact b.slots.take h1 h2 hh hf hl
  have hfill : (C ++ [w]).length = fill (take1 fr s) 0 := by rw [List.length_append, b.many, fill_take h1 (by omega) hf, if_pos (by omega)]; rfl
  have hsub : ∀ x ∈ C ++ [w], ∃ p ∈ ws ++ [(h, w)], p.2 = x := by
    intro x hx
    rcases List.mem_append.mp hx with h3 | h3
    · obtain ⟨p, hp, e⟩ := b.sub x h3; exact ⟨p, List.mem_append_left _ hp, e⟩
    · rw [List.mem_singleton.mp h3]; exact ⟨(h, w), by simp, rfl⟩
  refine ⟨hs, hfill, hsub, fun θ => ?_⟩
  by_cases hθ : θ < w
  · have hall : ∀ p ∈ ws ++ [(h, w)], θ < p.2 := by
      intro p hp
      rcases List.mem_append.mp hp with h1 | h1
      · have := hw p h1; omega
      · rw [List.mem_singleton.mp h1]; exact hθ
    rw [hrs_all hall]
    have : gt (C ++ [w]) θ = fill (take1 fr s) 0 := by
      rw [gt_all, hfill]
      intro x hx
      obtain ⟨p, hp, rfl⟩ := hsub x hx
      exact hall p hp
    rw [this]; exact hs.least
  · rw [hrs_append, hrs_one, if_neg hθ, List.append_nil, gt_append, gt_one, if_neg hθ]
    exact b.least θ

theorem count_gt (as : List Int) (x : Int) : gt as (x - 1) = as.count x + gt as x := by
  induction as with
  | nil => rfl
  | cons a as ih =>
    rw [gt_cons, gt_cons, List.count_cons, ih]
    by_cases h : a = x
    · subst h
      rw [if_pos (show a - 1 < a by omega), if_neg (show ¬ a < a by omega), if_pos (show (a == a) = true by simp)]; omega
    · have : (a == x) = false := by simpa using h
      rw [this]
      by_cases h2 : x < a
      · rw [if_pos (by omega), if_pos h2]; simp; omega
      · rw [if_neg (by omega), if_neg h2]; simp
theorem perm_of_gt {as bs : List Int} (h : ∀ θ, gt as θ = gt bs θ) : as.Perm bs := by
  rw [List.perm_iff_count]
  intro x
  have h1 := count_gt as x
  have h2 := count_gt bs x
  rw [h, h] at h1
  omega
theorem sum_perm {as bs : List Int} (p : as.Perm bs) : as.sum = bs.sum := by
  induction p with
  | nil => rfl
  | cons x _ ih => simp [ih]
  | swap x y l => simp; omega
  | trans _ _ h1 h2 => exact h1.trans h2
/-- both ways end alike -/
theorem ways_same {ws ws' : List (Nat × Int)} {ns C : List Int} {fr : Nat → Bool} (a : WayA ws ns) (b : WayB ws' C fr) (p : ws.Perm ws') : ns.sum = C.sum :=
  sum_perm (perm_of_gt fun θ => ((a θ).perm (hrs_perm p θ)).eq (b.least θ))

end Mine


/-! part G08 -/
set_option autoImplicit false
set_option maxRecDepth 100000
set_option linter.unusedVariables false
set_option Elab.async false
open PySem PySem.W PyProof.Rows
namespace Mine

abbrev prg : Program := PySem.Challenge.pw_dm0136_08
def bltNames : List String := ["abs", "len", "range", "sorted", "sum"]
def siftdown_r : DefRec := recAt prg 3
theorem has_f_siftdown {K : Glo} (hp : ∀ d ∈ recsOf prg, d ∈ recsOf K.p) (hfree : ∀ x ∈ bltNames, K.mg (Str.ofString x) = none) : HasF K "_siftdown" 1 f_siftdown := by
  refine hasF_of (d := siftdown_r) (lvl := 0) (hp _ (List.mem_iff_getElem?.mpr ⟨2, by kernel_rfl⟩)) (by kernel_rfl) (by kernel_rfl) (by kernel_rfl) (by kernel_rfl) (by decide) ?_ ?_ ?_
  · intro pm code doc ws h
    match ws, h with
    | [a0, a1, a2], _ => rfl
  · intro n y hy
    simp only [List.mem_cons, List.not_mem_nil, or_false] at hy
    rcases hy with rfl | rfl | rfl
    · exact .inl (by kernel_rfl)
    · exact .inl (by kernel_rfl)
    · exact .inl (by kernel_rfl)
  · intro pm code doc L fa A hr fk
    show SimSs K _ _ siftdown_m
    exact (simSs_cons (simS_assign _ (simT_local "newitem" _ fk (by kernel_rfl)) (simE_sub fk _ (simE_name fk "heap" _) (simE_name fk "pos" _))) (simSs_cons (simS_while _ 4096 (simB_cmp fk cmp_gt tru_ok _ (simE_name fk "pos" _) (simE_name fk "startpos" _)) (simSs_cons (simS_assign _ (simT_local "parentpos" _ fk (by kernel_rfl)) (simE_bin fk bin_shr _ (simE_bin fk bin_sub _ (simE_name fk "pos" _) (simE_int 1 _ _)) (simE_int 1 _ _))) (simSs_cons (simS_assign _ (simT_local "parent" _ fk (by kernel_rfl)) (simE_sub fk _ (simE_name fk "heap" _) (simE_name fk "parentpos" _))) (simSs_cons (simS_if _ (simB_cmp fk cmp_lt tru_ok _ (simE_name fk "newitem" _) (simE_name fk "parent" _)) (simSs_cons (simS_assign _ (simT_sub fk _ (simE_name fk "heap" _) (simE_name fk "pos" _)) (simE_name fk "parent" _)) (simSs_cons (simS_assign _ (simT_local "pos" _ fk (by kernel_rfl)) (simE_name fk "parentpos" _)) (simSs_one (simS_continue _)))) simSs_nil) (simSs_one (simS_break _)))))) (simSs_one (simS_assign _ (simT_sub fk _ (simE_name fk "heap" _) (simE_name fk "pos" _)) (simE_name fk "newitem" _)))))
def heappush_r : DefRec := recAt prg 1
theorem has_f_heappush {K : Glo} (hp : ∀ d ∈ recsOf prg, d ∈ recsOf K.p) (hfree : ∀ x ∈ bltNames, K.mg (Str.ofString x) = none) (h_siftdown : HasF K "_siftdown" 1 f_siftdown) : HasF K "heappush" 2 f_heappush := by
  refine hasF_of (d := heappush_r) (lvl := 1) (hp _ (List.mem_iff_getElem?.mpr ⟨0, by kernel_rfl⟩)) (by kernel_rfl) (by kernel_rfl) (by kernel_rfl) (by kernel_rfl) (by decide) ?_ ?_ ?_
  · intro pm code doc ws h
    match ws, h with
    | [a0, a1], _ => rfl
  · intro n y hy
    simp only [List.mem_cons, List.not_mem_nil, or_false] at hy
    rcases hy with rfl | rfl
    · exact .inl (by kernel_rfl)
    · exact .inl (by kernel_rfl)
  · intro pm code doc L fa A hr fk
    show SimSs K _ _ heappush_m
    exact (simSs_cons (simS_expr fk _ (simE_meth fk PySem.F.slot_list_append PySem.F.type_list_append (simE_name fk "heap" _) (simEs_cons (simE_name fk "item" _) simEs_nil) meth_append)) (simSs_one (simS_expr fk _ (simE_callF fk h_siftdown (hr.le (by decide)) (simEs_cons (simE_name fk "heap" _) (simEs_cons (simE_int 0 _ _) (simEs_cons (simE_bin fk bin_sub _ (simE_callB fk rfl (by kernel_rfl) (hfree "len" (by decide)) (by kernel_rfl) built_len (simEs_cons (simE_name fk "heap" _) simEs_nil)) (simE_int 1 _ _)) simEs_nil)))))))
def siftup_r : DefRec := recAt prg 4
theorem has_f_siftup {K : Glo} (hp : ∀ d ∈ recsOf prg, d ∈ recsOf K.p) (hfree : ∀ x ∈ bltNames, K.mg (Str.ofString x) = none) (h_siftdown : HasF K "_siftdown" 1 f_siftdown) : HasF K "_siftup" 2 f_siftup := by
  refine hasF_of (d := siftup_r) (lvl := 1) (hp _ (List.mem_iff_getElem?.mpr ⟨3, by kernel_rfl⟩)) (by kernel_rfl) (by kernel_rfl) (by kernel_rfl) (by kernel_rfl) (by decide) ?_ ?_ ?_
  · intro pm code doc ws h
    match ws, h with
    | [a0, a1], _ => rfl
  · intro n y hy
    simp only [List.mem_cons, List.not_mem_nil, or_false] at hy
    rcases hy with rfl | rfl
    · exact .inl (by kernel_rfl)
    · exact .inl (by kernel_rfl)
  · intro pm code doc L fa A hr fk
    show SimSs K _ _ siftup_m
    exact (simSs_cons (simS_assign _ (simT_local "endpos" _ fk (by kernel_rfl)) (simE_callB fk rfl (by kernel_rfl) (hfree "len" (by decide)) (by kernel_rfl) built_len (simEs_cons (simE_name fk "heap" _) simEs_nil))) (simSs_cons (simS_assign _ (simT_local "startpos" _ fk (by kernel_rfl)) (simE_name fk "pos" _)) (simSs_cons (simS_assign _ (simT_local "newitem" _ fk (by kernel_rfl)) (simE_sub fk _ (simE_name fk "heap" _) (simE_name fk "pos" _))) (simSs_cons (simS_assign _ (simT_local "childpos" _ fk (by kernel_rfl)) (simE_bin fk bin_add _ (simE_bin fk bin_mul _ (simE_int 2 _ _) (simE_name fk "pos" _)) (simE_int 1 _ _))) (simSs_cons (simS_while _ 4096 (simB_cmp fk cmp_lt tru_ok _ (simE_name fk "childpos" _) (simE_name fk "endpos" _)) (simSs_cons (simS_assign _ (simT_local "rightpos" _ fk (by kernel_rfl)) (simE_bin fk bin_add _ (simE_name fk "childpos" _) (simE_int 1 _ _))) (simSs_cons (simS_if _ (simB_boolop _ (simAll_and (simB_cmp fk cmp_lt tru_ok _ (simE_name fk "rightpos" _) (simE_name fk "endpos" _)) (simAll_and (simB_not _ (simB_cmp fk cmp_lt tru_ok _ (simE_sub fk _ (simE_name fk "heap" _) (simE_name fk "childpos" _)) (simE_sub fk _ (simE_name fk "heap" _) (simE_name fk "rightpos" _)))) simAll_and_nil))) (simSs_one (simS_assign _ (simT_local "childpos" _ fk (by kernel_rfl)) (simE_name fk "rightpos" _))) simSs_nil) (simSs_cons (simS_assign _ (simT_sub fk _ (simE_name fk "heap" _) (simE_name fk "pos" _)) (simE_sub fk _ (simE_name fk "heap" _) (simE_name fk "childpos" _))) (simSs_cons (simS_assign _ (simT_local "pos" _ fk (by kernel_rfl)) (simE_name fk "childpos" _)) (simSs_one (simS_assign _ (simT_local "childpos" _ fk (by kernel_rfl)) (simE_bin fk bin_add _ (simE_bin fk bin_mul _ (simE_int 2 _ _) (simE_name fk "pos" _)) (simE_int 1 _ _))))))))) (simSs_cons (simS_assign _ (simT_sub fk _ (simE_name fk "heap" _) (simE_name fk "pos" _)) (simE_name fk "newitem" _)) (simSs_one (simS_expr fk _ (simE_callF fk h_siftdown (hr.le (by decide)) (simEs_cons (simE_name fk "heap" _) (simEs_cons (simE_name fk "startpos" _) (simEs_cons (simE_name fk "pos" _) simEs_nil))))))))))))
def heappushpop_r : DefRec := recAt prg 2
theorem has_f_heappushpop {K : Glo} (hp : ∀ d ∈ recsOf prg, d ∈ recsOf K.p) (hfree : ∀ x ∈ bltNames, K.mg (Str.ofString x) = none) (h_siftup : HasF K "_siftup" 2 f_siftup) : HasF K "heappushpop" 3 f_heappushpop := by
  refine hasF_of (d := heappushpop_r) (lvl := 2) (hp _ (List.mem_iff_getElem?.mpr ⟨1, by kernel_rfl⟩)) (by kernel_rfl) (by kernel_rfl) (by kernel_rfl) (by kernel_rfl) (by decide) ?_ ?_ ?_
  · intro pm code doc ws h
    match ws, h with
    | [a0, a1], _ => rfl
  · intro n y hy
    simp only [List.mem_cons, List.not_mem_nil, or_false] at hy
    rcases hy with rfl | rfl
    · exact .inl (by kernel_rfl)
    · exact .inl (by kernel_rfl)
  · intro pm code doc L fa A hr fk
    show SimSs K _ _ heappushpop_m
    exact (simSs_cons (simS_if _ (simB_boolop _ (simAll_and (simB_val fk tru_ok (simE_name fk "heap" _)) (simAll_and (simB_cmp fk cmp_lt tru_ok _ (simE_sub fk _ (simE_name fk "heap" _) (simE_int 0 _ _)) (simE_name fk "item" _)) simAll_and_nil))) (simSs_cons (simS_assign _ (simT_tuple fk _ _ (simTs_cons (simT_local "item" _ fk (by kernel_rfl)) (simTs_cons (simT_sub fk _ (simE_name fk "heap" _) (simE_int 0 _ _)) simTs_nil))) (simE_tuple _ _ (simEs_cons (simE_sub fk _ (simE_name fk "heap" _) (simE_int 0 _ _)) (simEs_cons (simE_name fk "item" _) simEs_nil)))) (simSs_one (simS_expr fk _ (simE_callF fk h_siftup (hr.le (by decide)) (simEs_cons (simE_name fk "heap" _) (simEs_cons (simE_int 0 _ _) simEs_nil)))))) simSs_nil) (simSs_one (simS_return _ (simE_name fk "item" _))))

/-! law -/
def law_c1_t : V → M Unit := (fun v => setv "at" v)
def law_c1_i : M Bool := (do let v ← (do let o ← (getv "free"); let i ← (getv "at"); getI o i); truV v)
def law_c1_e (l : Nat) : M Unit := (do let v ← (getv "at"); appendAt l v)
def law_c1 (l : Nat) (nxt : S → Nat → Option (Option V)) : M Unit := loopC 4096 law_c1_t law_c1_i (law_c1_e l) nxt
def law_l2_t : V → M Unit := (unpackT 2 (consT (fun v => setv "worth" v) (consT (fun v => setv "hour" v) (fun _ => pure ()))))
def law_l2_b : M Fl := (seqM (do let v ← ((do let vs ← (do let v ← (pure (V.int 1) : M V); let vs ← (do let v ← (do let a ← (getv "hour"); let b ← (pure (V.int 1) : M V); addV a b); let vs ← (pure [] : M (List V)); pure (v :: vs)); pure (v :: vs)); rangeB vs) >>= compTail ["free"] law_c1); (fun v => setv "hours" v) v; pure .next : M Fl) (do if (← (do let a ← (getv "hours"); let b ← (do let vs ← (pure [] : M (List V)); newL vs); let c ← neV a b; truV c)) = true then (seqM (do let v ← (pure (V.bool false) : M V); (fun v => do let a ← (getv "free"); let b ← (do let o ← (getv "hours"); let i ← (do let a ← (pure (V.int 1) : M V); negV a); getI o i); setI a b v) v; pure .next : M Fl) (do let v ← (do let a ← (getv "due"); let b ← (getv "worth"); addV a b); (fun v => setv "due" v) v; pure .next : M Fl)) else (pure .next : M Fl) : M Fl))
def law_c3_t : V → M Unit := (unpackT 2 (consT (fun v => setv "hour" v) (consT (fun v => setv "worth" v) (fun _ => pure ()))))
def law_c3_i : M Bool := (pure true : M Bool)
def law_c3_e (l : Nat) : M Unit := (do let v ← (do let vs ← (do let v ← (getv "worth"); let vs ← (do let v ← (getv "hour"); let vs ← (pure [] : M (List V)); pure (v :: vs)); pure (v :: vs)); mkT vs); appendAt l v)
def law_c3 (l : Nat) (nxt : S → Nat → Option (Option V)) : M Unit := loopC 4096 law_c3_t law_c3_i (law_c3_e l) nxt
def law_l4_t : V → M Unit := (unpackT 2 (consT (fun v => setv "hour" v) (consT (fun v => setv "worth" v) (fun _ => pure ()))))
def law_l4_b : M Fl := (do if (← (do let a ← (do let vs ← (do let v ← (getv "heap"); let vs ← (pure [] : M (List V)); pure (v :: vs)); lenB vs); let b ← (getv "hour"); let c ← ltV a b; truV c)) = true then (do let _ ← (do let vs ← (do let v ← (getv "heap"); let vs ← (do let v ← (getv "worth"); let vs ← (pure [] : M (List V)); pure (v :: vs)); pure (v :: vs)); callF f_heappush vs); pure .next : M Fl) else (do if (← (do let a ← (getv "heap"); let b ← (do let vs ← (pure [] : M (List V)); newL vs); let c ← neV a b; truV c)) = true then (do let _ ← (do let vs ← (do let v ← (getv "heap"); let vs ← (do let v ← (getv "worth"); let vs ← (pure [] : M (List V)); pure (v :: vs)); pure (v :: vs)); callF f_heappushpop vs); pure .next : M Fl) else (pure .next : M Fl) : M Fl) : M Fl)
def law_c5_t : V → M Unit := (fun v => setv "k" v)
def law_c5_i : M Bool := (pure true : M Bool)
def law_c5_e (l : Nat) : M Unit := (do let v ← (do let vs ← (do let v ← (do let a ← (do let o ← (getv "script"); let i ← (getv "k"); getI o i); let b ← (pure (V.int 40) : M V); fmodV a b); let vs ← (do let v ← (do let vs ← (do let v ← (do let o ← (getv "script"); let i ← (do let a ← (getv "k"); let b ← (pure (V.int 1) : M V); addV a b); getI o i); let vs ← (pure [] : M (List V)); pure (v :: vs)); absB vs); let vs ← (pure [] : M (List V)); pure (v :: vs)); pure (v :: vs)); mkT vs); appendAt l v)
def law_c5 (l : Nat) (nxt : S → Nat → Option (Option V)) : M Unit := loopC 4096 law_c5_t law_c5_i (law_c5_e l) nxt
def law_m : M Fl := (seqM (do let v ← ((do let vs ← (do let v ← (pure (V.int 0) : M V); let vs ← (do let v ← (do let a ← (do let vs ← (do let v ← (getv "script"); let vs ← (pure [] : M (List V)); pure (v :: vs)); lenB vs); let b ← (pure (V.int 1) : M V); subV a b); let vs ← (do let v ← (pure (V.int 2) : M V); let vs ← (pure [] : M (List V)); pure (v :: vs)); pure (v :: vs)); pure (v :: vs)); rangeB vs) >>= compTail ["script"] law_c5); (fun v => setv "works" v) v; pure .next : M Fl) (seqM (do let v ← (do let vs ← (pure [] : M (List V)); newL vs); (fun v => setv "heap" v) v; pure .next : M Fl) (seqM (do let v ← (do let vs ← (do let v ← (getv "works"); let vs ← (pure [] : M (List V)); pure (v :: vs)); sortedB2 vs); okIter v; forG (nxtOf v) law_l4_t law_l4_b 4096 0) (seqM (do let v ← (do let a ← (do let vs ← (do let v ← (pure (V.bool true) : M V); let vs ← (pure [] : M (List V)); pure (v :: vs)); newL vs); let b ← (pure (V.int 40) : M V); mulLV a b); (fun v => setv "free" v) v; pure .next : M Fl) (seqM (do let v ← (pure (V.int 0) : M V); (fun v => setv "due" v) v; pure .next : M Fl) (seqM (do let v ← (do let v ← ((getv "works") >>= compTail [] law_c3); sortedX true [v]); okIter v; forG (nxtOf v) law_l2_t law_l2_b 4096 0) (do let v ← (do let a ← (do let vs ← (do let v ← (getv "heap"); let vs ← (pure [] : M (List V)); pure (v :: vs)); sumB vs); let b ← (getv "due"); eqV a b); pure (.ret v) : M Fl)))))))
def f_law : Fun := funM ["script"] law_m
def law_r : DefRec := recAt prg 6
theorem has_f_law {K : Glo} (hp : ∀ d ∈ recsOf prg, d ∈ recsOf K.p) (hfree : ∀ x ∈ bltNames, K.mg (Str.ofString x) = none) (hheappush : HasF K "heappush" 2 f_heappush) (hheappushpop : HasF K "heappushpop" 3 f_heappushpop) : HasF K "law" 4 f_law := by
  refine hasF_of (d := law_r) (lvl := 3) (hp _ (List.mem_iff_getElem?.mpr ⟨4, by kernel_rfl⟩)) (by kernel_rfl) (by kernel_rfl) (by kernel_rfl) (by kernel_rfl) (by decide) ?_ ?_ ?_
  · intro pm code doc ws h
    match ws, h with
    | [a0], _ => rfl
  · intro n y hy
    simp only [List.mem_cons, List.not_mem_nil, or_false] at hy
    subst hy
    · exact .inr ⟨by kernel_rfl, rfl⟩
  · intro pm code doc L fa A hr fk
    show SimSs K _ _ law_m
    exact (simSs_cons (simS_assign_comp fk ⟨rfl, rfl, by decide +kernel, by decide +kernel, (by intro x hx; simp only [List.mem_cons, List.not_mem_nil, or_false] at hx; rcases hx with rfl <;> exact ⟨by first | exact .inl (by rfl) | exact .inr (by rfl), kne_cell (by kernel_rfl), fun c h => h⟩), (ck_cells (ck_cons rfl ck_nil))⟩ (simT_local "works" _ fk (by kernel_rfl)) (simE_callB fk rfl (by kernel_rfl) (hfree "range" (by decide)) (by kernel_rfl) built_range (simEs_cons (simE_int 0 _ _) (simEs_cons (simE_bin fk bin_sub _ (simE_callB fk rfl (by kernel_rfl) (hfree "len" (by decide)) (by kernel_rfl) built_len (simEs_cons (simE_name fk "script" _) simEs_nil)) (simE_int 1 _ _)) (simEs_cons (simE_int 2 _ _) simEs_nil)))) (fun C => clauses_of 4096 rfl (fun acc => turn_end rfl rfl (test := none) rfl) (simT_local "k" _ (FOk.comp fk rfl) (by kernel_rfl)) simTest_none (fun l a => simA_emit (FOk.comp fk rfl) (simE_tuple _ _ (simEs_cons (simE_bin (FOk.comp fk rfl) bin_fmod _ (simE_sub (FOk.comp fk rfl) _ (simE_name (FOk.comp fk rfl) "script" _) (simE_name (FOk.comp fk rfl) "k" _)) (simE_int 40 _ _)) (simEs_cons (simE_callB (FOk.comp fk rfl) rfl (by kernel_rfl) (hfree "abs" (by decide)) (by kernel_rfl) built_abs (simEs_cons (simE_sub (FOk.comp fk rfl) _ (simE_name (FOk.comp fk rfl) "script" _) (simE_bin (FOk.comp fk rfl) bin_add _ (simE_name (FOk.comp fk rfl) "k" _) (simE_int 1 _ _))) simEs_nil)) simEs_nil))) l a))) (simSs_cons (simS_assign _ (simT_local "heap" _ fk (by kernel_rfl)) (simE_list _ simEs_nil)) (simSs_cons (simS_for fk _ 4096 (simE_callB fk rfl (by kernel_rfl) (hfree "sorted" (by decide)) (by kernel_rfl) built_sorted2 (simEs_cons (simE_name fk "works" _) simEs_nil)) (simT_tuple fk _ _ (simTs_cons (simT_local "hour" _ fk (by kernel_rfl)) (simTs_cons (simT_local "worth" _ fk (by kernel_rfl)) simTs_nil))) (simSs_one (simS_if _ (simB_cmp fk cmp_lt tru_ok _ (simE_callB fk rfl (by kernel_rfl) (hfree "len" (by decide)) (by kernel_rfl) built_len (simEs_cons (simE_name fk "heap" _) simEs_nil)) (simE_name fk "hour" _)) (simSs_one (simS_expr fk _ (simE_callF fk hheappush (hr.le (by decide)) (simEs_cons (simE_name fk "heap" _) (simEs_cons (simE_name fk "worth" _) simEs_nil))))) (simSs_one (simS_if _ (simB_cmp fk cmp_ne tru_ok _ (simE_name fk "heap" _) (simE_list _ simEs_nil)) (simSs_one (simS_expr fk _ (simE_callF fk hheappushpop (hr.le (by decide)) (simEs_cons (simE_name fk "heap" _) (simEs_cons (simE_name fk "worth" _) simEs_nil))))) simSs_nil))))) (simSs_cons (simS_assign _ (simT_cellD "free" _ fk (by kernel_rfl) rfl) (simE_bin fk bin_mulL _ (simE_list _ (simEs_cons (simE_bool true _ _) simEs_nil)) (simE_int 40 _ _))) (simSs_cons (simS_assign _ (simT_local "due" _ fk (by kernel_rfl)) (simE_int 0 _ _)) (simSs_cons (simS_for fk _ 4096 (simE_sortedRev fk (by kernel_rfl) (hfree "sorted" (by decide)) (simE_listcomp fk ⟨rfl, rfl, by decide +kernel, by decide +kernel, (by intro x hx; cases hx), (by intro x c h; cases h)⟩ (simE_name fk "works" _) (fun C => clauses_of 4096 rfl (fun acc => turn_end rfl rfl (test := none) rfl) (simT_tuple (FOk.comp fk rfl) _ _ (simTs_cons (simT_local "hour" _ (FOk.comp fk rfl) (by kernel_rfl)) (simTs_cons (simT_local "worth" _ (FOk.comp fk rfl) (by kernel_rfl)) simTs_nil))) simTest_none (fun l a => simA_emit (FOk.comp fk rfl) (simE_tuple _ _ (simEs_cons (simE_name (FOk.comp fk rfl) "worth" _) (simEs_cons (simE_name (FOk.comp fk rfl) "hour" _) simEs_nil))) l a)))) (simT_tuple fk _ _ (simTs_cons (simT_local "worth" _ fk (by kernel_rfl)) (simTs_cons (simT_local "hour" _ fk (by kernel_rfl)) simTs_nil))) (simSs_cons (simS_assign_comp fk ⟨rfl, rfl, by decide +kernel, by decide +kernel, (by intro x hx; simp only [List.mem_cons, List.not_mem_nil, or_false] at hx; rcases hx with rfl <;> exact ⟨by first | exact .inl (by rfl) | exact .inr (by rfl), kne_cell (by kernel_rfl), fun c h => h⟩), (ck_cells (ck_cons rfl ck_nil))⟩ (simT_local "hours" _ fk (by kernel_rfl)) (simE_callB fk rfl (by kernel_rfl) (hfree "range" (by decide)) (by kernel_rfl) built_range (simEs_cons (simE_int 1 _ _) (simEs_cons (simE_bin fk bin_add _ (simE_name fk "hour" _) (simE_int 1 _ _)) simEs_nil))) (fun C => clauses_of 4096 rfl (fun acc => turn_end rfl rfl (test := (some _)) rfl) (simT_local "at" _ (FOk.comp fk rfl) (by kernel_rfl)) (simTest_some (simB_val (FOk.comp fk rfl) tru_ok (simE_sub (FOk.comp fk rfl) _ (simE_name (FOk.comp fk rfl) "free" _) (simE_name (FOk.comp fk rfl) "at" _)))) (fun l a => simA_emit (FOk.comp fk rfl) (simE_name (FOk.comp fk rfl) "at" _) l a))) (simSs_one (simS_if _ (simB_cmp fk cmp_ne tru_ok _ (simE_name fk "hours" _) (simE_list _ simEs_nil)) (simSs_cons (simS_assign _ (simT_sub fk _ (simE_name fk "free" _) (simE_sub fk _ (simE_name fk "hours" _) (simE_un fk un_neg _ (simE_int 1 _ _)))) (simE_bool false _ _)) (simSs_one (simS_assign _ (simT_local "due" _ fk (by kernel_rfl)) (simE_bin fk bin_add _ (simE_name fk "due" _) (simE_name fk "worth" _))))) simSs_nil)))) (simSs_one (simS_return _ (simE_cmp fk cmp_eq _ (simE_callB fk rfl (by kernel_rfl) (hfree "sum" (by decide)) (by kernel_rfl) built_sum (simEs_cons (simE_name fk "heap" _) simEs_nil)) (simE_name fk "due" _))))))))))

theorem has_all {K : Glo} (hp : ∀ d ∈ recsOf prg, d ∈ recsOf K.p) (hfree : ∀ x ∈ bltNames, K.mg (Str.ofString x) = none) : HasF K "law" 4 f_law := by
  have h_siftdown := has_f_siftdown hp hfree
  have hheappush := has_f_heappush hp hfree h_siftdown
  have h_siftup := has_f_siftup hp hfree h_siftdown
  have hheappushpop := has_f_heappushpop hp hfree h_siftup
  have hlaw := has_f_law hp hfree hheappush hheappushpop
  exact hlaw

end Mine


/-! part L08 -/
set_option autoImplicit false
set_option maxRecDepth 100000
set_option linter.unusedVariables false
set_option linter.unusedSimpArgs false
open PySem PySem.W PyProof.Rows
namespace Mine

def tvA (p : Nat × Int) : V := .tup [.int (p.1 : Int), .int p.2]
def tvB (p : Nat × Int) : V := .tup [.int p.2, .int (p.1 : Int)]
def workOf (ns : List Int) (k : Nat) : Nat × Int := ((nth ns k % 40).toNat, if nth ns (k + 1) < 0 then -nth ns (k + 1) else nth ns (k + 1))
def worksOf (ns : List Int) : List (Nat × Int) := (List.range (ns.length / 2)).map fun i => workOf ns (2 * i)
theorem worksOf_le {ns : List Int} : ∀ p ∈ worksOf ns, p.1 ≤ 39 := by
  intro p hp
  obtain ⟨i, _, rfl⟩ := List.mem_map.mp hp
  unfold workOf; dsimp only; omega
theorem worksOf_length {ns : List Int} (hn : ns.length ≤ 63) : (worksOf ns).length < 32 := by simp [worksOf]; omega

theorem rng2_len {n : Nat} : rngLen 0 ((n : Int) - 1) 2 = n / 2 := by
  have h1 := rngLen_eq 0 ((n : Int) - 1) 2
  rw [rngS_pos (by omega)] at h1
  split at h1 <;> omega

theorem works_ok {σ : S} {ns : List Int} {Q : V → S → Prop} (hs : σ.lo "script" = some (.obj 0)) (hl : σ.st[0]? = some (.lst (ns.map V.int))) (hn : ns.length ≤ 63)
    (q : ∀ k st', Pres [] σ.st st' → σ.st.length ≤ k → st'[k]? = some (.lst ((worksOf ns).map tvA)) → Q (.obj k) ⟨st', σ.lo⟩) : MW (compTail ["script"] law_c5 (.rng 0 ((ns.length : Int) - 1) 2)) σ Q := by
  refine MW_compPure (us := (List.range (ns.length / 2)).map fun i => V.int ((2 * i : Nat) : Int)) (n := 4096) (t := law_c5_t) (c := law_c5_i) (e := (do let vs ← (do let v ← (do let a ← (do let o ← (getv "script"); let i ← (getv "k"); getI o i); let b ← (pure (V.int 40) : M V); fmodV a b); let vs ← (do let v ← (do let vs ← (do let v ← (do let o ← (getv "script"); let i ← (do let a ← (getv "k"); let b ← (pure (V.int 1) : M V); addV a b); getI o i); let vs ← (pure [] : M (List V)); pure (v :: vs)); absB vs); let vs ← (pure [] : M (List V)); pure (v :: vs)); pure (v :: vs)); mkT vs))
    (fun v => match v with | .int a => some (tvA (workOf ns a.toNat)) | _ => none)
    (fun _ _ => rfl) (ok_rng (rngU_small (by omega) (by omega) (by omega))) (by have := lt_of_get hl; omega) ?_ (by simp; omega) (by simp; omega) ?_ ?_
  · intro σ' i _
    rw [nxt_rng, rng2_len]
    by_cases hi : i < ns.length / 2
    · rw [if_pos hi]; simp [hi]; omega
    · rw [if_neg hi, List.getElem?_eq_none (by simp; omega)]
  · intro v hv σ' hag hlo
    obtain ⟨i, hi, rfl⟩ := List.mem_map.mp hv
    have hi' : i < ns.length / 2 := by simpa using hi
    have h0 : σ'.st[0]? = some (.lst (ns.map V.int)) := (hag 0 (lt_of_get hl)).trans hl
    have hs' : σ'.lo "script" = some (.obj 0) := (hlo "script" (by simp)).trans hs
    unfold law_c5_t law_c5_i
    simp only [MW_setv, MW_pure, MW_bind, MW_getv, put_lo, put_st, if_true, String.reduceEq, if_false, hs', Option.some.injEq, exists_eq_left']
    refine ⟨trivial, ?_, trivial, trivial, ?_⟩
    · intro x hx
      rw [List.mem_singleton.mp hx]
      simp only [String.reduceEq, if_false]
    refine (MW_getI (by exact h0) (j := 2 * i) (by rw [ix_nat, if_pos (by simp; omega)]) (nth_eq (by simp; omega))).mpr ?_
    rw [nthV (by omega), MW_fmod]
    refine ⟨by omega, ?_⟩
    simp only [MW_bind, MW_getv, put_lo, if_true, String.reduceEq, if_false, hs', Option.some.injEq, exists_eq_left', MW_pure, MW_add]
    rw [show ((2 * i : Nat) : Int) + 1 = ((2 * i + 1 : Nat) : Int) by omega]
    refine (MW_getI (by exact h0) (j := 2 * i + 1) (by rw [ix_nat, if_pos (by simp; omega)]) (nth_eq (by simp; omega))).mpr ?_
    rw [nthV (by omega), MW_abs]
    refine (MW_mkT (by simp)).mpr ⟨?_, rfl⟩
    unfold tvA workOf
    simp only [Int.toNat_natCast]
    congr 3
    omega
  · intro k st' p f g
    refine q k st' p f ?_
    rw [g, List.filterMap_map]
    unfold worksOf
    rw [List.map_map, ← List.filterMap_eq_map]
    congr 2

theorem swap_ok {σ : S} {ws : List (Nat × Int)} {l : Nat} {Q : V → S → Prop} (hl : σ.st[l]? = some (.lst (ws.map tvA))) (hn : ws.length ≤ 63)
    (q : ∀ k st', Pres [] σ.st st' → σ.st.length ≤ k → st'[k]? = some (.lst (ws.map tvB)) → Q (.obj k) ⟨st', σ.lo⟩) : MW (compTail [] law_c3 (.obj l)) σ Q := by
  refine MW_compPure (us := ws.map tvA) (n := 4096) (t := law_c3_t) (c := law_c3_i) (e := (do let vs ← (do let v ← (getv "worth"); let vs ← (do let v ← (getv "hour"); let vs ← (pure [] : M (List V)); pure (v :: vs)); pure (v :: vs)); mkT vs))
    (fun v => match v with | .tup [a, b] => some (.tup [b, a]) | _ => none)
    (fun _ _ => rfl) (ok_obj hl) (by have := lt_of_get hl; omega) (nxt_obj hl) (by simp; omega) (by simp; omega) ?_ ?_
  · intro v hv σ' hag hlo
    obtain ⟨p, _, rfl⟩ := List.mem_map.mp hv
    unfold law_c3_t law_c3_i tvA
    rw [MW_unpack2, MW_consT]
    simp only [MW_setv, MW_consT, MW_pure, MW_bind, MW_getv, put_lo, put_st, if_true, String.reduceEq, if_false, Option.some.injEq, exists_eq_left']
    refine ⟨trivial, by intro x hx; simp at hx, trivial, trivial, ?_⟩
    exact (MW_mkT (by simp)).mpr ⟨rfl, rfl⟩
  · intro k st' p f g
    refine q k st' p f ?_
    rw [g, List.filterMap_map, ← List.filterMap_eq_map]
    congr 2

/-- one work laid into the heap -/
theorem heap_round {σ : S} {lh : Nat} {hs : List Int} {ws : List (Nat × Int)} {h : Nat} {w : Int} (r1 : σ.lo "heap" = some (.obj lh)) (r2 : σ.lo "hour" = some (.int (h : Int))) (r3 : σ.lo "worth" = some (.int w))
    (g : σ.st[lh]? = some (.lst (hs.map V.int))) (hl0 : lh ≠ 0) (hn : hs.length ≤ 63) (hh : HpI hs) (hw : WayA ws hs) (hm : ∀ p ∈ ws, p.1 ≤ h) (hle : hs.length ≤ h) :
    MW law_l4_b σ (fun f σ' => f = .next ∧ σ'.lo = σ.lo ∧ Pres [lh] σ.st σ'.st ∧ ∃ hs', σ'.st[lh]? = some (.lst (hs'.map V.int)) ∧ HpI hs' ∧ WayA (ws ++ [(h, w)]) hs' ∧ hs'.length ≤ h ∧ hs'.length ≤ hs.length + 1) := by
  unfold law_l4_b
  simp only [MW_bind, MW_getv, MW_pure, r1, r2, r3, Option.some.injEq, exists_eq_left']
  refine (MW_len (by exact g)).mpr ?_
  simp only [MW_bind, MW_getv, MW_pure, MW_setv, put_lo, put_st, if_true, if_false, String.reduceEq, Option.some.injEq, exists_eq_left', MW_add, MW_sub, MW_neg, MW_tru, MW_lt_int, MW_gt, MW_ge, MW_le, MW_eqI, MW_neI, MW_isNone, MW_isNotNone, Bool.false_eq_true, Bool.not_true, Bool.not_false, rangeB, r2, List.length_map, decide_eq_true_eq]
  by_cases hc : (hs.length : Int) < (h : Int)
  · rw [if_pos hc]
    simp only [MW_bind, MW_getv, MW_pure, r1, r2, r3, Option.some.injEq, exists_eq_left']
    obtain ⟨ms, e1, e2, e3⟩ := hpush_int_spec (x := w) hh
    have sp := heappush_spec (P := IsI) (lt := ltI) (x := .int w) g hl0 (by simp; omega) isI_map ⟨w, rfl⟩ (ltAt_int _ _)
    rw [e1] at sp
    refine MW_callF' sp ?_
    have hml : ms.length = hs.length + 1 := by simpa using e2.length_eq
    exact ⟨trivial, rfl, Pres.set (by simp), ms, set_self (lt_of_get g), e3, hw.push hm (by omega) e2, by omega, by omega⟩
  · rw [if_neg hc]
    simp only [MW_bind, MW_getv, MW_pure, r1, r2, r3, Option.some.injEq, exists_eq_left']
    refine MW_newL' (by simp) fun k1 st1 p1 f1 g1 => ?_
    refine (MW_neL (bs := []) (by exact p1.get0 g) (by exact g1)).mpr ?_
    rw [MW_tru]
    by_cases hz : hs = []
    · subst hz
      simp only [decide_true, Bool.not_true, Bool.false_eq_true, if_false, MW_pure]
      refine ⟨trivial, trivial, p1.nil, [], p1.get0 g, hh, ?_, by simp, by simp⟩
      intro θ
      have h0 : h = 0 := by simp at hc; omega
      subst h0
      refine ⟨fun t => Nat.zero_le _, 0, ?_⟩
      rw [above_zero]
      · rfl
      · intro x hx
        unfold hrs at hx
        obtain ⟨p, hp, rfl⟩ := List.mem_map.mp hx
        rcases List.mem_append.mp (List.mem_filter.mp hp).1 with h1 | h1
        · exact hm p h1
        · rw [List.mem_singleton.mp h1]; exact Nat.le_refl _
    · have hpos : 0 < hs.length := by cases hs with | nil => simp at hz | cons a b => simp
      simp only [hz, decide_false, Bool.not_false, if_true, MW_bind, MW_getv, MW_pure, r1, r2, r3, Option.some.injEq, exists_eq_left']
      obtain ⟨m, ms, e1, e2, e3, e4⟩ := hpp_int_spec (x := w) (p1.get0 g) hl0 (by omega) hpos hh
      refine MW_callF' (by exact e1) ?_
      have hml : ms.length = hs.length := by simpa using e2.length_eq
      exact ⟨trivial, rfl, p1.nil.trans (Pres.set (by simp)), ms, set_self (lt_of_get (p1.get0 g)), e3, hw.pushpop hm (by omega) e2 e4, by omega, by omega⟩

def frOf (bs : List Bool) (a : Nat) : Bool := bs.getD a false
theorem hours_ok {σ : S} {lf : Nat} {bs : List Bool} {h : Nat} {Q : V → S → Prop} (r1 : σ.lo "free" = some (.obj lf)) (g : σ.st[lf]? = some (.lst (bs.map V.bool))) (hb : bs.length = 40) (hh : h ≤ 39)
    (q : ∀ k st', Pres [] σ.st st' → σ.st.length ≤ k → st'[k]? = some (.lst ((((List.range h).map fun (j : Nat) => (1 + j : Int)).filter fun a => frOf bs a.toNat).map V.int)) → Q (.obj k) ⟨st', σ.lo⟩) : MW (compTail ["free"] law_c1 (.rng 1 ((h : Int) + 1) 1)) σ Q := by
  refine MW_compPure (us := (List.range h).map fun (j : Nat) => V.int (1 + j)) (n := 4096) (t := law_c1_t) (c := law_c1_i) (e := getv "at")
    (fun v => match v with | .int a => if frOf bs a.toNat = true then some (.int a) else none | _ => none)
    (fun _ _ => rfl) (ok_rng (rngU_small (by omega) (by omega) (by omega))) (by have := lt_of_get g; omega) (fun σ' i _ => nxt_rngU σ' i (by omega)) (by simp; omega) (by simp; omega) ?_ ?_
  · intro v hv σ' hag hlo
    obtain ⟨j, hj, rfl⟩ := List.mem_map.mp hv
    have hj' : j < h := by simpa using hj
    have h0 : σ'.st[lf]? = some (.lst (bs.map V.bool)) := (hag lf (lt_of_get g)).trans g
    have hs' : σ'.lo "free" = some (.obj lf) := (hlo "free" (by simp)).trans r1
    unfold law_c1_t law_c1_i
    simp only [MW_setv, MW_pure, MW_bind, MW_getv, put_lo, put_st, if_true, String.reduceEq, if_false, hs', Option.some.injEq, exists_eq_left']
    refine ⟨trivial, ?_, ?_⟩
    · intro x hx
      rw [List.mem_singleton.mp hx]
      simp only [String.reduceEq, if_false]
    refine (MW_getI (by exact h0) (j := j + 1) (by rw [show (1 + (j : Int)) = ((j + 1 : Nat) : Int) by omega, ix_nat, if_pos (by simp; omega)]) (v := .bool (frOf bs (1 + (j : Int)).toNat)) ?_).mpr ?_
    · rw [show (1 + (j : Int)).toNat = j + 1 by omega]
      unfold frOf
      simp [List.getElem?_eq_getElem (show j + 1 < bs.length by omega)]
    · rw [MW_tru]
      refine ⟨rfl, ?_⟩
      cases frOf bs (1 + (j : Int)).toNat <;> simp
  · intro k st' p f g
    refine q k st' p f ?_
    rw [g]
    congr 2
    generalize List.range h = is
    induction is with
    | nil => rfl
    | cons a is ih =>
      simp only [List.map_cons, List.filterMap_cons, List.filter_cons]
      cases frOf bs (1 + (a : Int)).toNat with
      | true => simp only [if_true, List.map_cons]; rw [← ih]
      | false => simp only [Bool.false_eq_true, if_false]; rw [← ih]

/-- one work laid into the slots -/
theorem slot_round {σ : S} {lf : Nat} {lh : V} {bs : List Bool} {ws : List (Nat × Int)} {C : List Int} {h : Nat} {w : Int} (r1 : σ.lo "free" = some (.obj lf)) (r2 : σ.lo "hour" = some (.int (h : Int))) (r3 : σ.lo "worth" = some (.int w)) (r4 : σ.lo "due" = some (.int C.sum)) (r5 : σ.lo "heap" = some lh)
    (g : σ.st[lf]? = some (.lst (bs.map V.bool))) (hl0 : lf ≠ 0) (hb : bs.length = 40) (hh : h ≤ 39) (hw : WayB ws C (frOf bs)) (hm : ∀ p ∈ ws, w ≤ p.2) :
    MW law_l2_b σ (fun f σ' => f = .next ∧ σ'.lo "free" = some (.obj lf) ∧ σ'.lo "heap" = some lh ∧ Pres [lf] σ.st σ'.st ∧ ∃ bs' C', σ'.lo "due" = some (.int (List.sum C')) ∧ σ'.st[lf]? = some (.lst (bs'.map V.bool)) ∧ bs'.length = 40 ∧ WayB (ws ++ [(h, w)]) C' (frOf bs')) := by
  unfold law_l2_b
  rw [MW_seq]
  simp only [MW_bind, MW_getv, MW_pure, MW_add, rangeB, r1, r2, r3, r4, Option.some.injEq, exists_eq_left']
  refine hours_ok r1 g hb hh fun k st1 p1 f1 g1 => ?_
  rw [MW_setv]
  simp only [MW_bind, MW_getv, MW_pure, put_lo, put_st, if_true, String.reduceEq, if_false, r1, r2, r3, r4, Option.some.injEq, exists_eq_left']
  refine MW_newL' (by simp) fun k2 st2 p2 f2 g2 => ?_
  simp only [put_st] at p2 f2
  refine (MW_neL (bs := []) (by exact p2.get0 g1) (by exact g2)).mpr ?_
  rw [MW_tru]
  have hmem : ∀ a : Int, a ∈ (((List.range h).map fun (j : Nat) => (1 + j : Int)).filter fun a => frOf bs a.toNat) ↔ (1 ≤ a ∧ a ≤ h ∧ frOf bs a.toNat = true) := by
    intro a
    rw [List.mem_filter, List.mem_map]
    constructor
    · rintro ⟨⟨j, hj, rfl⟩, h2⟩
      have : j < h := by simpa using hj
      exact ⟨by omega, by omega, h2⟩
    · rintro ⟨h1, h2, h3⟩
      exact ⟨⟨(a - 1).toNat, by simp; omega, by omega⟩, h3⟩
  have hsort : (((List.range h).map fun (j : Nat) => (1 + j : Int)).filter fun a => frOf bs a.toNat).Pairwise (· < ·) := by
    refine List.Pairwise.filter _ ?_
    rw [List.pairwise_map]
    exact List.pairwise_lt_range.imp (by intro a b h; omega)
  generalize (((List.range h).map fun (j : Nat) => (1 + j : Int)).filter fun a => frOf bs a.toNat) = hours at hmem hsort g1
  by_cases hz : hours = []
  · subst hz
    simp only [decide_true, Bool.not_true, Bool.false_eq_true, if_false, MW_pure, put_lo, String.reduceEq, r1, r4, r5]
    refine ⟨trivial, trivial, trivial, (p1.trans p2).nil, bs, C, rfl, (p1.trans p2).get0 g, hb, hw.none hm hh ?_⟩
    intro a h1 h2
    cases hf : frOf bs a with
    | false => rfl
    | true =>
      have := (hmem (a : Int)).mpr ⟨by omega, by omega, by simpa using hf⟩
      simp at this
  · have hpos : 0 < hours.length := by cases hours with | nil => simp at hz | cons a b => simp
    have hlast : nth hours (hours.length - 1) ∈ hours := nth_mem (by omega)
    obtain ⟨a1, a2, a3⟩ := (hmem _).mp hlast
    have hbig : ∀ x ∈ hours, x ≤ nth hours (hours.length - 1) := by
      intro x hx
      obtain ⟨i, hi, rfl⟩ := List.mem_iff_getElem.mp hx
      rw [nth_getElem (by omega)]
      rcases Nat.lt_or_ge i (hours.length - 1) with h1 | h1
      · have := (List.pairwise_iff_getElem.mp hsort) i (hours.length - 1) hi (by omega) h1; omega
      · have : i = hours.length - 1 := by omega
        subst this; exact Int.le_refl _
    simp only [hz, decide_false, Bool.not_false, if_true, MW_seq, MW_bind, MW_getv, MW_pure, put_lo, put_st, String.reduceEq, if_false, r1, r2, r3, r4, Option.some.injEq, exists_eq_left', MW_neg]
    refine (MW_getI (by exact p2.get0 g1) (ix_neg1 (by simpa using hpos)) (nth_eq (by simp; omega))).mpr ?_
    rw [List.length_map, nthV (by omega)]
    generalize hs : nth hours (hours.length - 1) = s at a1 a2 a3 hbig
    have hs0 : s = ((s.toNat : Nat) : Int) := by omega
    refine (MW_setI (j := s.toNat) (by exact (p1.trans p2).get0 g) hl0 hs0 (by simp; omega)).mpr ?_
    simp only [MW_bind, MW_getv, MW_pure, MW_setv, put_lo, put_st, String.reduceEq, if_true, if_false, r1, r2, r3, r4, r5, Option.some.injEq, exists_eq_left', MW_add]
    refine ⟨trivial, trivial, trivial, (p1.trans p2).nil.trans (Pres.set (by simp)), bs.set s.toNat false, C ++ [w], ?_, ?_, by simpa using hb, ?_⟩
    · simp
    · rw [set_self (lt_of_get ((p1.trans p2).get0 g)), List.map_set]
    · have e : frOf (bs.set s.toNat false) = take1 (frOf bs) s.toNat := by
        funext a
        unfold frOf take1
        rw [List.getD_eq_getElem?_getD, List.getElem?_set]
        by_cases h1 : s.toNat = a
        · subst h1
          rw [if_pos rfl, if_pos rfl, if_pos (by omega)]; rfl
        · rw [if_neg h1, if_neg (Ne.symm h1), ← List.getD_eq_getElem?_getD]
      rw [e]
      refine hw.take hm (by omega) (by omega) hh a3 ?_
      intro a h1 h2
      cases hf : frOf bs a with
      | false => rfl
      | true =>
        have := hbig (a : Int) ((hmem (a : Int)).mpr ⟨by omega, by omega, by simpa using hf⟩)
        omega

theorem lexA {p q : Nat × Int} (h : lexB [(q.1 : Int), q.2] [(p.1 : Int), p.2] = false) : p.1 ≤ q.1 := by
  simp only [lexB] at h
  by_cases h1 : q.1 < p.1
  · simp [h1] at h
    omega
  · omega
theorem lexBw {p q : Nat × Int} (h : lexB [p.2, (p.1 : Int)] [q.2, (q.1 : Int)] = false) : q.2 ≤ p.2 := by
  simp only [lexB] at h
  by_cases h1 : p.2 < q.2
  · simp [h1] at h
    omega
  · omega
theorem pair_take {α : Type} {R : α → α → Prop} {xs : List α} {i : Nat} {x : α} (h : xs.Pairwise R) (e : xs[i]? = some x) : ∀ p ∈ xs.take i, R p x := by
  intro p hp
  obtain ⟨j, hj, rfl⟩ := List.mem_iff_getElem.mp hp
  rw [List.length_take] at hj
  obtain ⟨hi, rfl⟩ := List.getElem?_eq_some_iff.mp e
  rw [List.getElem_take]
  exact List.pairwise_iff_getElem.mp h j i (by omega) hi (by omega)

theorem law_true (ns : List Int) (hns : ns.length ≤ 63) : ∃ st', f_law [.obj 0] [.lst (ns.map .int)] = .ok (.bool true) st' := by
  suffices h : ∃ v st', f_law [.obj 0] [.lst (ns.map .int)] = .ok v st' ∧ v = .bool true by
    obtain ⟨v, st', e, rfl⟩ := h; exact ⟨st', e⟩
  unfold f_law
  refine funM_ex (params := ["script"]) (vs := [.obj 0]) (R := fun v _ => v = .bool true) (by rfl) ?_
  have hwl := worksOf_length hns
  have hw39 := worksOf_le (ns := ns)
  obtain ⟨wa, ea, pa, sa⟩ := sortTup_map (0, 0) false tvA (fun p => [(p.1 : Int), p.2]) (worksOf ns)
  obtain ⟨wb, eb, pb, sb⟩ := sortTup_map (0, 0) true tvB (fun p => [p.2, (p.1 : Int)]) (worksOf ns)
  have hal := pa.length_eq
  have hbl := pb.length_eq
  unfold law_m
  rw [MW_seq]
  simp only [MW_bind, MW_getv, MW_pure, bindP, String.reduceEq, if_true, if_false, Option.some.injEq, exists_eq_left']
  refine (MW_len (vs := ns.map V.int) (by rfl)).mpr ?_
  rw [MW_sub, List.length_map]
  simp only [rangeB]
  rw [if_pos (by decide), MW_pure]
  refine works_ok rfl rfl hns fun lw st1 p1 f1 g1 => ?_
  generalize worksOf ns = ws at *
  simp only [List.length_singleton] at f1
  rw [MW_setv, MW_seq]
  simp only [MW_bind, MW_getv, MW_pure, put_lo, put_st, String.reduceEq, if_true, if_false, Option.some.injEq, exists_eq_left']
  refine MW_newL' (by simp) fun lh st2 p2 f2 g2 => ?_
  simp only [put_st] at f2 p2
  have hlw := lt_of_get g1
  have hl0 : lh ≠ 0 := by omega
  rw [MW_setv, MW_seq]
  simp only [MW_bind, MW_getv, MW_pure, put_lo, put_st, String.reduceEq, if_true, if_false, Option.some.injEq, exists_eq_left']
  have g1' := p2.get0 g1
  refine MW_sorted2T (by exact g1') (tupsOf_map tvA (fun p => [(p.1 : Int), p.2]) (fun p => rfl) ws) (by simp; omega) fun la st3 p3 f3 g3 => ?_
  simp only [put_st] at f3 p3
  rw [ea] at g3
  refine (MW_okL (by exact g3)).mpr ?_
  have hlh := lt_of_get g2
  refine MW_for wa.length (fun i σ => ∃ hs, σ.lo "heap" = some (.obj lh) ∧ σ.lo "works" = some (.obj lw) ∧ σ.st[la]? = some (.lst (wa.map tvA)) ∧ σ.st[lw]? = some (.lst (ws.map tvA)) ∧ σ.st[lh]? = some (.lst (List.map V.int hs)) ∧ HpI hs ∧ WayA (wa.take i) hs ∧ hs.length ≤ i ∧ lh < σ.st.length ∧ la < σ.st.length ∧
      ∀ h, (∀ p ∈ wa.take i, p.1 ≤ h) → hs.length ≤ h) ?_ ?_ 4096 0 _ (by omega) (by omega)
    ⟨[], by simp only [put_lo, String.reduceEq, if_true, if_false], by simp only [put_lo, String.reduceEq, if_true, if_false], g3, p3.get0 g1', p3.get0 g2, by intro j h1 h2; simp at h2, by intro θ; exact least_nil, by simp, by have := p3.1; simp only []; omega, lt_of_get g3, by intro h _; simp⟩
  · rintro σ ⟨hs, r1, r2, r3, r4, r5, r6, r7, r8, r9, r10, r11⟩
    refine ⟨by rw [nxt_objI r3, List.getElem?_eq_none (by simp)], ?_⟩
    rw [List.take_length] at r7
    rw [MW_seq]
    simp only [MW_bind, MW_getv, MW_pure]
    refine MW_newL' (by simp) fun k5 st5 p5 f5 g5 => ?_
    refine MW_mulL' (by exact g5) (by simp) fun lf st6 p6 f6 g6 => ?_
    simp only at p6 f6
    have hbs : (List.replicate (40 : Int).toNat [V.bool true]).flatten = (List.replicate 40 true).map V.bool := by rfl
    rw [hbs] at g6
    have hlf0 : lf ≠ 0 := by have := p5.1; omega
    have hlf : lh ≠ lf := by have := p5.1; omega
    rw [MW_setv, MW_seq]
    simp only [MW_bind, MW_getv, MW_pure]
    rw [MW_setv, MW_seq]
    simp only [MW_bind, MW_getv, MW_pure, put_lo, put_st, String.reduceEq, if_true, if_false, Option.some.injEq, exists_eq_left', r1, r2]
    have p56 := p5.trans p6
    refine swap_ok (by exact p56.get0 r4) (by omega) fun k7 st7 p7 f7 g7 => ?_
    simp only [put_st] at p7 f7
    refine MW_sortedX' (by exact g7) (tupsOf_map tvB (fun p => [p.2, (p.1 : Int)]) (fun p => rfl) ws) (by simp; omega) fun lb st8 p8 f8 g8 => ?_
    simp only [put_st] at p8 f8
    rw [eb] at g8
    refine (MW_okL (by exact g8)).mpr ?_
    have hlf6 := lt_of_get g6
    have hlb : lf ≠ lb := by have := p7.1; omega
    have p58 := p56.trans (p7.trans p8)
    refine MW_for wb.length (fun i σ' => ∃ bs C, σ'.lo "heap" = some (.obj lh) ∧ σ'.lo "free" = some (.obj lf) ∧ σ'.lo "due" = some (.int (List.sum C)) ∧ σ'.st[lb]? = some (.lst (wb.map tvB)) ∧ σ'.st[lh]? = some (.lst (hs.map V.int)) ∧ σ'.st[lf]? = some (.lst (bs.map V.bool)) ∧ bs.length = 40 ∧ WayB (wb.take i) C (frOf bs)) ?_ ?_ 4096 0 _ (by omega) (by omega)
      ⟨List.replicate 40 true, [], by simp only [put_lo, String.reduceEq, if_true, if_false]; exact r1, by simp only [put_lo, String.reduceEq, if_true, if_false], by simp only [put_lo, String.reduceEq, if_true, if_false]; rfl, g8, p58.get0 r5, (p7.trans p8).get0 g6, by simp, ?_⟩
    · rintro σ' ⟨bs, C, s1, s2, s3, s4, s5, s6, s7, s8⟩
      refine ⟨by rw [nxt_objI s4, List.getElem?_eq_none (by simp)], ?_⟩
      rw [List.take_length] at s8
      simp only [MW_bind, MW_getv, MW_pure, s1, s3, Option.some.injEq, exists_eq_left']
      refine (MW_sum (by exact s5)).mpr ?_
      simp only [MW_bind, MW_getv, MW_pure, MW_setv, put_lo, put_st, if_true, if_false, String.reduceEq, Option.some.injEq, exists_eq_left', MW_add, MW_sub, MW_neg, MW_tru, MW_lt_int, MW_gt, MW_ge, MW_le, MW_eqI, MW_neI, MW_isNone, MW_isNotNone, Bool.false_eq_true, Bool.not_true, Bool.not_false, rangeB, s3]
      rw [ways_same r7 s8 (pa.trans pb.symm)]
      simp
    · rintro i σ' hi ⟨bs, C, s1, s2, s3, s4, s5, s6, s7, s8⟩
      have hx : wb[i]? = some wb[i] := List.getElem?_eq_getElem hi
      generalize wb[i] = p at hx
      refine ⟨tvB p, by rw [nxt_objI s4, List.getElem?_map, hx]; rfl, ?_⟩
      have hp39 : p.1 ≤ 39 := hw39 p (pb.mem_iff.mp (List.mem_of_getElem? hx))
      unfold law_l2_t tvB
      rw [MW_unpack2, MW_consT, MW_setv, MW_consT, MW_setv, MW_pure]
      refine (slot_round (σ := (σ'.put "worth" (.int p.2)).put "hour" (.int (p.1 : Int))) (lf := lf) (lh := .obj lh) (ws := wb.take i) (C := C) (h := p.1) (w := p.2) (by simp only [put_lo, String.reduceEq, if_true, if_false]; exact s2) (by simp only [put_lo, String.reduceEq, if_true, if_false]) (by simp only [put_lo, String.reduceEq, if_true, if_false]) (by simp only [put_lo, String.reduceEq, if_true, if_false]; exact s3) (by simp only [put_lo, String.reduceEq, if_true, if_false]; exact s1) s6 hlf0 s7 hp39 s8 ?_).mono ?_
      · intro q hq
        exact lexBw (by have := pair_take sb hx q hq; simpa using this)
      · rintro f σ'' ⟨rfl, b1, b2, b3, bs', C', b4, b5, b6, b7⟩
        refine ⟨bs', C', b2, b1, b4, b3.get s4 (by simp; omega), b3.get s5 (by simpa using hlf), b5, b6, ?_⟩
        rw [List.take_add_one, hx]; exact b7
    · have e : frOf (List.replicate 40 true) = fun a => decide (a < 40) := by
        funext a
        unfold frOf
        rw [List.getD_eq_getElem?_getD, List.getElem?_replicate]
        by_cases h : a < 40
        · rw [if_pos h]; simp only [h, decide_true]; rfl
        · rw [if_neg h]; simp only [h, decide_false]; rfl
      have hfill : ∀ t, fill (frOf (List.replicate 40 true)) t = 0 := by
        intro t
        rw [e]
        unfold fill cnt
        rw [List.filter_eq_nil_iff.mpr]
        · rfl
        · intro a ha
          have := List.mem_range'_1.mp ha
          simp; omega
      refine ⟨⟨fun t => by rw [hfill]; exact Nat.zero_le _, fun f _ _ _ => by rw [hfill]; rfl⟩, by rw [hfill]; rfl, by simp, fun θ => least_nil⟩
  · rintro i σ hi ⟨hs, r1, r2, r3, r4, r5, r6, r7, r8, r9, r10, r11⟩
    have hx : wa[i]? = some wa[i] := List.getElem?_eq_getElem hi
    generalize wa[i] = p at hx
    refine ⟨tvA p, by rw [nxt_objI r3, List.getElem?_map, hx]; rfl, ?_⟩
    unfold law_l4_t tvA
    rw [MW_unpack2, MW_consT, MW_setv, MW_consT, MW_setv, MW_pure]
    have hm : ∀ q ∈ wa.take i, q.1 ≤ p.1 := fun q hq => lexA (by have := pair_take sa hx q hq; simpa using this)
    refine (heap_round (σ := (σ.put "hour" (.int (p.1 : Int))).put "worth" (.int p.2)) (lh := lh) (ws := wa.take i) (h := p.1) (w := p.2) (by simp only [put_lo, String.reduceEq, if_true, if_false]; exact r1) (by simp only [put_lo, String.reduceEq, if_true, if_false]) (by simp only [put_lo, String.reduceEq, if_true, if_false]) r5 hl0 (by omega) r6 r7 hm (r11 _ hm)).mono ?_
    rintro f σ'' ⟨rfl, b1, b2, hs', b3, b4, b5, b6, b7⟩
    have htk : wa.take (i + 1) = wa.take i ++ [p] := by rw [List.take_add_one, hx]; rfl
    refine ⟨hs', by rw [b1]; simp only [put_lo, String.reduceEq, if_true, if_false]; exact r1, by rw [b1]; simp only [put_lo, String.reduceEq, if_true, if_false]; exact r2, b2.get r3 (by simp; omega), b2.get r4 (by simp; omega), b3, b4, ?_, by omega, Nat.lt_of_lt_of_le r9 b2.1, Nat.lt_of_lt_of_le r10 b2.1, ?_⟩
    · rw [htk]; exact b5
    · intro h hh
      rw [htk] at hh
      have := hh p (by simp)
      omega

end Mine


/-! part J08 -/
open PySem PySem.W PyProof.Rows
set_option Elab.async false
set_option maxRecDepth 100000
set_option maxHeartbeats 8000000
open_top hd for PySem.Challenge.rw_dm0136_08
theorem Mine.recs_same : ∀ d ∈ recsOf Mine.prg, d ∈ recsOf hd.view_39 := by
  have e : recsOf Mine.prg = recsOf hd.view_39 := by kernel_rfl
  rw [e]; exact fun _ h => h
theorem PySem.Challenge.cw_dm0136_08_holds : PySem.Challenge.rw_dm0136_08.Holds := by
  apply hd
  k_fill
  intro w s₀ s₁ mg mb G Y fa o pm cd doc dV kV ho hd hcd hD hmg hg args vals as hpre hlay hrd hwl hlo
  refine Ground.open G ?_
  intro T B D TE TW
  wrow_args hpre hlay hrd hwl hlo
  rename_i ns _ _ _ _ _ _ _ l _ _ _ _ w1 _ _ _ hn _
  have hmg' : mg (Str.ofString "law") = some (.ref fa) := hmg
  clear hD hcd hd ho hmg B D TE TW G Y
  refine enter_call ?_
  refine codeAny_mono ?_ (fun _ _ g => GoodW.toG g)
  obtain ⟨vs, hL, hI⟩ := Mine.well_script w1
  have hn' : ns.length ≤ 63 := by omega
  obtain ⟨st', hlaw⟩ := Mine.law_true ns hn'
  refine Mine.top_law T hg (Mine.has_all Mine.recs_same ?_) (by decide) hmg' hL hI hn' hlaw ?_ ?_
  · intro x hx
    show mg (Str.ofString x) = none
    simp only [Mine.bltNames, List.mem_cons, List.not_mem_nil, or_false] at hx
    rcases hx with rfl | rfl | rfl | rfl | rfl <;> exact T.free _ (by decide +kernel) (by decide +kernel) (by decide +kernel) (by decide +kernel) (by decide +kernel)
  · exact raisesW_false (by wrow_none_raised)
  · wrow_post
